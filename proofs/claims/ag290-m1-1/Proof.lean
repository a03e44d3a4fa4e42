import JvmDerived
import JvmDerived.Pilot.@@N@@Statement
import JvmDerived.Pilot.@@N@@Code
set_option linter.unusedVariables false
set_option linter.unusedSimpArgs false
/- laws to paste: Road.backV (cut by pick.py; bodies as the Statement names them) -/
namespace Jvm.Pilot.@@N@@
namespace StrChars
open Jvm Sem ClassFile Op Lib Jvm.Stand Jvm.Free.XT Jvm.Free.ALB Jvm.Free.JM Jvm.Free
open Jvm.Lib.Cold (StaticIs)
/-- a char array whose places are chars -/
def Ch (a : Addr) (A : Cell) (U : State) : Prop := Arr .char a A U ∧ Typed .char A
theorem Ch.mv {a : Addr} {A : Cell} {U U' : State} (h : Ch a A U) (hal : U.vm.Alike U'.vm) (hh : U'.heap = U.heap) : Ch a A U' := ⟨h.1.mv hal hh, h.2⟩
theorem Ch.keep {a : Addr} {A : Cell} {U U' : State} (h : Ch a A U) (hal : U.vm.Alike U'.vm) (hk : U'.heap[a]? = some A) : Ch a A U' := ⟨h.1.keep hal hk, h.2⟩
/-- what place i of a char[]'s cell holds -/
def cv (A : Cell) (i : Nat) : Int32 := match A.slots[i]? with | some (.int x) => x | _ => 0
theorem Ch.get {a : Addr} {A : Cell} {U : State} (h : Ch a A U) {i : Nat} (hi : i < A.slots.size) : A.slots[i]? = some (.int (cv A i)) := by
  have e := Array.getElem?_eq_getElem hi
  have f := h.2 i _ e
  unfold cv; rw [e]
  generalize A.slots[i] = v at f
  cases v <;> simp [fits] at f ⊢
/-- the byte that i2b leaves of a char -/
def lo8 (x : Int32) : Int32 := x.toInt8.toInt32
theorem fits_lo8 (y : Int32) : fits .byte (.int (lo8 y)) = true := by
  have h1 := y.toInt8.le_toInt
  have h2 := y.toInt8.toInt_lt
  simp only [lo8, fits, Bool.and_eq_true, decide_eq_true_eq, Int32.le_iff_toInt_le, Int8.toInt_toInt32, show (-128 : Int32).toInt = -128 from by decide, show (127 : Int32).toInt = 127 from by decide]
  omega
/-- A' is A but that each place j of lo .. hi - 1 holds f j -/
def Laid (A A' : Cell) (lo hi : Nat) (f : Nat → Value) : Prop := A'.cls = A.cls ∧ A'.vm = A.vm ∧ A'.slots.size = A.slots.size ∧ ∀ i, A'.slots[i]? = if lo ≤ i ∧ i < hi then some (f i) else A.slots[i]?
theorem Laid.zero (A : Cell) (lo : Nat) (f : Nat → Value) : Laid A A lo (lo + 0) f := ⟨rfl, rfl, rfl, fun i => by rw [if_neg (by omega)]⟩
theorem Laid.step {A Ak : Cell} {lo k : Nat} {f : Nat → Value} {v : Value} (h : Laid A Ak lo k f) (hlo : lo ≤ k) (hk : k < Ak.slots.size) (hv : v = f k) : Laid A (Ak.setSlot k v) lo (k + 1) f := by
  refine ⟨h.1, h.2.1, by simpa [Cell.setSlot] using h.2.2.1, fun i => ?_⟩
  by_cases e : k = i
  · subst e; rw [Cell.slots_setSlot_self v hk, if_pos (by omega), hv]
  · rw [Cell.slots_setSlot_ne v e, h.2.2.2 i]
    by_cases q : lo ≤ i ∧ i < k
    · rw [if_pos q, if_pos (by omega)]
    · rw [if_neg q, if_neg (by omega)]
def U16 : String := "java/lang/StringUTF16"
namespace Cmp5
def yN : MethodName := ⟨"java/lang/StringUTF16", "compress", "([CI[BII)I"⟩
abbrev yB : ByteArray := jdk_52_method_21_code
theorem d0 : decode yB 0 = .ok (.iconst 0, 1) := by decide +kernel
theorem d1 : decode yB 1 = .ok (.istore 5, 2) := by decide +kernel
theorem d3 : decode yB 3 = .ok (.iload 5, 2) := by decide +kernel
theorem d5 : decode yB 5 = .ok (.iload 4, 2) := by decide +kernel
theorem d7 : decode yB 7 = .ok (.if_icmp (.ge) 37, 3) := by decide +kernel
theorem d10 : decode yB 10 = .ok (.aload_n 0, 1) := by decide +kernel
theorem d11 : decode yB 11 = .ok (.iload_n 1, 1) := by decide +kernel
theorem d12 : decode yB 12 = .ok (.caload, 1) := by decide +kernel
theorem d13 : decode yB 13 = .ok (.istore 6, 2) := by decide +kernel
theorem d15 : decode yB 15 = .ok (.iload 6, 2) := by decide +kernel
theorem d17 : decode yB 17 = .ok (.sipush 255, 3) := by decide +kernel
theorem d20 : decode yB 20 = .ok (.if_icmp (.le) 6, 3) := by decide +kernel
theorem d26 : decode yB 26 = .ok (.aload_n 2, 1) := by decide +kernel
theorem d27 : decode yB 27 = .ok (.iload_n 3, 1) := by decide +kernel
theorem d28 : decode yB 28 = .ok (.iload 6, 2) := by decide +kernel
theorem d30 : decode yB 30 = .ok (.i2b, 1) := by decide +kernel
theorem d31 : decode yB 31 = .ok (.bastore, 1) := by decide +kernel
theorem d32 : decode yB 32 = .ok (.iinc 1 1, 3) := by decide +kernel
theorem d35 : decode yB 35 = .ok (.iinc 3 1, 3) := by decide +kernel
theorem d38 : decode yB 38 = .ok (.iinc 5 1, 3) := by decide +kernel
theorem d41 : decode yB 41 = .ok (.goto (-38), 3) := by decide +kernel
theorem d44 : decode yB 44 = .ok (.iload 4, 2) := by decide +kernel
theorem d46 : decode yB 46 = .ok (.ireturn, 1) := by decide +kernel
def site : List Cond := []
def tab : Cond := tabOf yN yB 7 (some .int) site
def P (b : Addr) (A : Cell) (d : Addr) (B : Cell) (o q len : Nat) (args : Array Value) (s : State) : Prop := args = #[.ref b, .int (Int32.ofNat o), .ref d, .int (Int32.ofNat q), .int (Int32.ofNat len)] ∧ Ch b A s ∧ Arr .byte d B s ∧ b ≠ d ∧ o + len ≤ A.slots.size ∧ q + len ≤ B.slots.size ∧ ∀ i, i < len → ¬ 255 < cv A (o + i)
def E (b : Addr) (A : Cell) (d : Addr) (B : Cell) (o q len : Nat) (r : Option Value) (s u : State) : Prop := r = some (.int (Int32.ofNat len)) ∧ ∃ B', Put d B' s u ∧ Laid B B' q (q + len) (fun j => Value.int (lo8 (cv A (o + (j - q)))))
/-- no char of the range above 255: len; the places written hold each char's low byte -/
theorem law (l : Launch) (b : Addr) (A : Cell) (d : Addr) (B : Cell) (o q len : Nat) : Law l yN 5 5 0 0 yB 7 (some .int) site (P b A d B o q len) (E b A d B o q len) (copyLocs d q len) 0 0 := by
  refine Law.of_walk (plainFor_of_name (by decide +kernel)) (by decide +kernel) (by decide +kernel) (by decide) (fun _ _ h => by rw [h.1]; rfl) (fun _ U U' hal hh h => ⟨h.1, h.2.1.mv hal hh, h.2.2.1.mv hal hh, h.2.2.2⟩) (fun r U U' V V' h1 hal h2 h => ⟨h.1, h.2.elim fun B' q => ⟨B', q.1.mv h1 h2, q.2⟩⟩) ?_
  intro p e s m args below meth c s₁ X0 hexec hbytes hml hret hlk hnm hown hh0 W hP
  obtain ⟨rfl, hA, hB, hne, l1, l2, hp⟩ := hP
  have c1 : Steps p.tables e below (s₁.setTop (entryFrame m #[.ref b, .int (Int32.ofNat o), .ref d, .int (Int32.ofNat q), .int (Int32.ofNat len)] 7)) (s₁.setTop (mkF m 0 #[.val (.ref b), .val (.int (Int32.ofNat o)), .val (.ref d), .val (.int (Int32.ofNat q)), .val (.int (Int32.ofNat len)), .unset, .unset] [])) := entry rfl
  have hA0 := hA.1.mv X0.warmed.alike hh0
  have hB0 := hB.mv X0.warmed.alike hh0
  have a31 := hA.1.2.2.2
  have c2 : Steps p.tables e below (s₁.setTop (entryFrame m #[.ref b, .int (Int32.ofNat o), .ref d, .int (Int32.ofNat q), .int (Int32.ofNat len)] 7)) (s₁.setTop (mkF m 3 #[.val (.ref b), .val (.int (Int32.ofNat o)), .val (.ref d), .val (.int (Int32.ofNat q)), .val (.int (Int32.ofNat len)), .val (.int 0), .unset] [])) := c1.trans (by
    refine iconstV X0.here hexec rfl 0 (hb hbytes d0) (by decide) ?_
    refine XS.istore X0.here hexec rfl (hb hbytes d1) rfl rfl ?_
    exact Steps.refl _)
  have loop : ∀ (r i : Nat), i + r = len → ∀ (z : Slot), (z = .unset ∨ ∃ w, z = .val w ∧ w.category = 1) → ∀ (Tl : State) (Bk : Cell), Stand p l e { frames := 0, locals := 0, cells := 0, slots := 0 } s m #[.ref b, .int (Int32.ofNat o), .ref d, .int (Int32.ofNat q), .int (Int32.ofNat len)] below meth c Tl ([] ++ copyLocs d q i) 0 0 → Put d Bk s₁ Tl → Laid B Bk q (q + i) (fun j => Value.int (lo8 (cv A (o + (j - q))))) →
      Steps p.tables e below (s₁.setTop (entryFrame m #[.ref b, .int (Int32.ofNat o), .ref d, .int (Int32.ofNat q), .int (Int32.ofNat len)] 7)) (Tl.setTop (mkF m 3 #[.val (.ref b), .val (.int (Int32.ofNat (o + i))), .val (.ref d), .val (.int (Int32.ofNat (q + i))), .val (.int (Int32.ofNat len)), .val (.int (Int32.ofNat i)), z] [])) → ∃ (T' : State) (B' : Cell) (z' : Slot), Stand p l e { frames := 0, locals := 0, cells := 0, slots := 0 } s m #[.ref b, .int (Int32.ofNat o), .ref d, .int (Int32.ofNat q), .int (Int32.ofNat len)] below meth c T' ([] ++ copyLocs d q len) 0 0 ∧ Put d B' s₁ T' ∧ Laid B B' q (q + len) (fun j => Value.int (lo8 (cv A (o + (j - q))))) ∧
      Steps p.tables e below (s₁.setTop (entryFrame m #[.ref b, .int (Int32.ofNat o), .ref d, .int (Int32.ofNat q), .int (Int32.ofNat len)] 7)) (T'.setTop (mkF m 3 #[.val (.ref b), .val (.int (Int32.ofNat (o + len))), .val (.ref d), .val (.int (Int32.ofNat (q + len))), .val (.int (Int32.ofNat len)), .val (.int (Int32.ofNat len)), z'] [])) := by
    intro r
    induction r with
    | zero =>
      intro i hi z hz Tl Bk Xl pl fl cl
      have hil : i = len := by omega
      rw [hil] at Xl fl cl
      exact ⟨Tl, Bk, z, Xl, pl, fl, cl⟩
    | succ r ih =>
      intro i hi z hz Tl Bk Xl pl fl cl
      have all := X0.warmed.alike.symm.trans Xl.warmed.alike
      have hAl := hA0.keep all (pl.other hne hA0.1)
      have hBk := hB0.like all pl.1 fl.1 fl.2.1 fl.2.2.1
      have hlt : q + i < Bk.slots.size := by rw [fl.2.2.1]; omega
      have c3 : Steps p.tables e below (s₁.setTop (entryFrame m #[.ref b, .int (Int32.ofNat o), .ref d, .int (Int32.ofNat q), .int (Int32.ofNat len)] 7)) (Tl.setTop (mkF m 12 #[.val (.ref b), .val (.int (Int32.ofNat (o + i))), .val (.ref d), .val (.int (Int32.ofNat (q + i))), .val (.int (Int32.ofNat len)), .val (.int (Int32.ofNat i)), z] [.int (Int32.ofNat (o + i)), .ref b])) := cl.trans (by
        refine XS.iload Xl.here hexec rfl (hb hbytes d3) rfl ?_
        refine XS.iload Xl.here hexec rfl (hb hbytes d5) rfl ?_
        refine XS.icmpNo Xl.here hexec rfl (hb hbytes d7) rfl (ii_ge_f (lt32 (by omega) (by omega))) ?_
        refine XS.aloadN Xl.here hexec rfl (hb hbytes d10) rfl rfl ?_
        refine XS.iloadN Xl.here hexec rfl (hb hbytes d11) rfl ?_
        exact Steps.refl _)
      have c4 : Steps p.tables e below (s₁.setTop (entryFrame m #[.ref b, .int (Int32.ofNat o), .ref d, .int (Int32.ofNat q), .int (Int32.ofNat len)] 7)) (Tl.setTop (mkF m 13 #[.val (.ref b), .val (.int (Int32.ofNat (o + i))), .val (.ref d), .val (.int (Int32.ofNat (q + i))), .val (.int (Int32.ofNat len)), .val (.int (Int32.ofNat i)), z] [.int (cv A (o + i))])) := c3.trans (by
        refine Xl.aget hexec hAl rfl (hA.get (i := o + i) (by omega)) rfl rfl (hb hbytes d12) ?_
        exact Steps.refl _)
      have c5 : Steps p.tables e below (s₁.setTop (entryFrame m #[.ref b, .int (Int32.ofNat o), .ref d, .int (Int32.ofNat q), .int (Int32.ofNat len)] 7)) (Tl.setTop (mkF m 15 #[.val (.ref b), .val (.int (Int32.ofNat (o + i))), .val (.ref d), .val (.int (Int32.ofNat (q + i))), .val (.int (Int32.ofNat len)), .val (.int (Int32.ofNat i)), .val (.int (cv A (o + i)))] [])) := c4.trans (by
        refine XS.istoreS Xl.here hexec rfl (hb hbytes d13) rfl rfl hz ?_
        exact Steps.refl _)
      have c6 : Steps p.tables e below (s₁.setTop (entryFrame m #[.ref b, .int (Int32.ofNat o), .ref d, .int (Int32.ofNat q), .int (Int32.ofNat len)] 7)) (Tl.setTop (mkF m 31 #[.val (.ref b), .val (.int (Int32.ofNat (o + i))), .val (.ref d), .val (.int (Int32.ofNat (q + i))), .val (.int (Int32.ofNat len)), .val (.int (Int32.ofNat i)), .val (.int (cv A (o + i)))] [.int (lo8 (cv A (o + i))), .int (Int32.ofNat (q + i)), .ref d])) := c5.trans (by
        refine XS.iload Xl.here hexec rfl (hb hbytes d15) rfl ?_
        refine sipushV Xl.here hexec rfl 255 (hb hbytes d17) (by decide) ?_
        refine XS.icmpYes Xl.here hexec rfl (pc0 := 20) rfl (hb hbytes d20) rfl (ii_le_t (hp i (by omega))) (by decide) rfl ?_
        refine XS.aloadN Xl.here hexec rfl (hb hbytes d26) rfl rfl ?_
        refine XS.iloadN Xl.here hexec rfl (hb hbytes d27) rfl ?_
        refine XS.iload Xl.here hexec rfl (hb hbytes d28) rfl ?_
        refine i2b Xl.here hexec rfl (hb hbytes d30) rfl ?_
        exact Steps.refl _)
      obtain ⟨T7, X7, p7, st7⟩ := Xl.aput hexec hBk rfl hlt rfl (fits_lo8 (cv A (o + i))) (g := (mkF m 31 #[.val (.ref b), .val (.int (Int32.ofNat (o + i))), .val (.ref d), .val (.int (Int32.ofNat (q + i))), .val (.int (Int32.ofNat len)), .val (.int (Int32.ofNat i)), .val (.int (cv A (o + i)))] [.int (lo8 (cv A (o + i))), .int (Int32.ofNat (q + i)), .ref d])) rfl (rest := []) rfl (hb hbytes d31)
      have c8 : Steps p.tables e below (s₁.setTop (entryFrame m #[.ref b, .int (Int32.ofNat o), .ref d, .int (Int32.ofNat q), .int (Int32.ofNat len)] 7)) (T7.setTop (mkF m 32 #[.val (.ref b), .val (.int (Int32.ofNat (o + i))), .val (.ref d), .val (.int (Int32.ofNat (q + i))), .val (.int (Int32.ofNat len)), .val (.int (Int32.ofNat i)), .val (.int (cv A (o + i)))] [])) := c6.trans (st7 _ (Steps.refl _))
      have c9 : Steps p.tables e below (s₁.setTop (entryFrame m #[.ref b, .int (Int32.ofNat o), .ref d, .int (Int32.ofNat q), .int (Int32.ofNat len)] 7)) (T7.setTop (mkF m 3 #[.val (.ref b), .val (.int (Int32.ofNat (o + i) + 1)), .val (.ref d), .val (.int (Int32.ofNat (q + i) + 1)), .val (.int (Int32.ofNat len)), .val (.int (Int32.ofNat i + 1)), .val (.int (cv A (o + i)))] [])) := c8.trans (by
        refine iincV X7.here hexec rfl 1 (hb hbytes d32) (by decide) rfl rfl ?_
        refine iincV X7.here hexec rfl 1 (hb hbytes d35) (by decide) rfl rfl ?_
        refine iincV X7.here hexec rfl 1 (hb hbytes d38) (by decide) rfl rfl ?_
        refine XS.goto X7.here hexec rfl (pc0 := 41) rfl (hb hbytes d41) (by decide) rfl ?_
        exact Steps.refl _)
      have c10 : Steps p.tables e below (s₁.setTop (entryFrame m #[.ref b, .int (Int32.ofNat o), .ref d, .int (Int32.ofNat q), .int (Int32.ofNat len)] 7)) (T7.setTop (mkF m 3 #[.val (.ref b), .val (.int (Int32.ofNat (o + (i + 1)))), .val (.ref d), .val (.int (Int32.ofNat (q + (i + 1)))), .val (.int (Int32.ofNat len)), .val (.int (Int32.ofNat (i + 1))), .val (.int (cv A (o + i)))] [])) := by
        have := c9
        rw [succ32, succ32, succ32] at this
        exact this
      exact ih (i + 1) (by omega) _ (Or.inr ⟨_, rfl, rfl⟩) T7 _ (by rw [copyLocs_step, ← List.append_assoc]; exact X7) (pl.trans p7) (fl.step (by omega) hlt (by simp)) c10
  obtain ⟨T9, B9, z9, X9, p9, f9, g9⟩ := loop len 0 (by omega) .unset (Or.inl rfl) s₁ B (by simpa [copyLocs] using X0) ⟨hB0.1, fun _ _ => rfl, rfl⟩ (Laid.zero _ _ _) c2
  have c11 : Steps p.tables e below (s₁.setTop (entryFrame m #[.ref b, .int (Int32.ofNat o), .ref d, .int (Int32.ofNat q), .int (Int32.ofNat len)] 7)) (T9.setTop (mkF m 46 #[.val (.ref b), .val (.int (Int32.ofNat (o + len))), .val (.ref d), .val (.int (Int32.ofNat (q + len))), .val (.int (Int32.ofNat len)), .val (.int (Int32.ofNat len)), z9] [.int (Int32.ofNat len)])) := g9.trans (by
    refine XS.iload X9.here hexec rfl (hb hbytes d3) rfl ?_
    refine XS.iload X9.here hexec rfl (hb hbytes d5) rfl ?_
    refine XS.icmpYes X9.here hexec rfl (pc0 := 7) rfl (hb hbytes d7) rfl (ii_ge_t (nlt32 (by omega) (Nat.le_refl _))) (by decide) rfl ?_
    refine XS.iload X9.here hexec rfl (hb hbytes d44) rfl ?_
    exact Steps.refl _)
  exact ⟨T9, some (.int (Int32.ofNat len)), _, _, _, X9, by simp, rfl, rfl, (fun h => by cases h), ⟨rfl, B9, p9.from hh0, f9⟩, fun fs hl => c11.trans (X9.ireturnOut hexec hret rfl (Or.inl rfl) (hb hbytes d46) hl)⟩
end Cmp5
namespace Cmp3
def yN : MethodName := ⟨"java/lang/StringUTF16", "compress", "([CII)[B"⟩
abbrev yB : ByteArray := jdk_52_method_16_code
theorem d0 : decode yB 0 = .ok (.iload_n 2, 1) := by decide +kernel
theorem d1 : decode yB 1 = .ok (.newarray .byte, 2) := by decide +kernel
theorem d3 : decode yB 3 = .ok (.astore_n 3, 1) := by decide +kernel
theorem d4 : decode yB 4 = .ok (.aload_n 0, 1) := by decide +kernel
theorem d5 : decode yB 5 = .ok (.iload_n 1, 1) := by decide +kernel
theorem d6 : decode yB 6 = .ok (.aload_n 3, 1) := by decide +kernel
theorem d7 : decode yB 7 = .ok (.iconst 0, 1) := by decide +kernel
theorem d8 : decode yB 8 = .ok (.iload_n 2, 1) := by decide +kernel
theorem d9 : decode yB 9 = .ok (.invokestatic 115, 3) := by decide +kernel
theorem d12 : decode yB 12 = .ok (.istore 4, 2) := by decide +kernel
theorem d14 : decode yB 14 = .ok (.iload 4, 2) := by decide +kernel
theorem d16 : decode yB 16 = .ok (.iload_n 2, 1) := by decide +kernel
theorem d17 : decode yB 17 = .ok (.if_icmp (.eq) 40, 3) := by decide +kernel
theorem d57 : decode yB 57 = .ok (.aload_n 3, 1) := by decide +kernel
theorem d58 : decode yB 58 = .ok (.areturn, 1) := by decide +kernel
def site : List Cond := [.arrayClass .byte, Cmp5.tab] ++ staticW U16 115 Cmp5.yN
def tab : Cond := tabOf yN yB 6 (some (.array .byte)) site
def P (b : Addr) (A : Cell) (o len : Nat) (args : Array Value) (s : State) : Prop := args = #[.ref b, .int (Int32.ofNat o), .int (Int32.ofNat len)] ∧ Ch b A s ∧ o + len ≤ A.slots.size ∧ len ≤ 536870912 ∧ ∀ i, i < len → ¬ 255 < cv A (o + i)
def E (b : Addr) (A : Cell) (o len : Nat) (r : Option Value) (s u : State) : Prop := NewArr .byte "[B" len (fun j => .int (lo8 (cv A (o + j)))) r s u ∧ u.heap.size = s.heap.size + 1
/-- no char of the range above 255: a new byte[] of their low bytes -/
theorem law (l : Launch) (b : Addr) (A : Cell) (o len : Nat) : Law l yN 3 3 1 18 yB 6 (some (.array .byte)) site (P b A o len) (E b A o len) [] 1 len := by
  refine Law.of_walk (plainFor_of_name (by decide +kernel)) (by decide +kernel) (by decide +kernel) (by decide) (fun _ _ h => by rw [h.1]; rfl) (fun _ U U' hal hh h => ⟨h.1, h.2.1.mv hal hh, h.2.2⟩) (fun r U U' V V' h1 hal h2 h => ⟨NewArr.mv r U U' V V' h1 hal h2 h.1, by rw [h1, h2]; exact h.2⟩) ?_
  intro p e s m args below meth c s₁ X0 hexec hbytes hml hret hlk hnm hown hh0 W hP
  obtain ⟨rfl, hA, l1, l2, hp⟩ := hP
  have a31 := hA.1.2.2.2
  have c1 : Steps p.tables e below (s₁.setTop (entryFrame m #[.ref b, .int (Int32.ofNat o), .int (Int32.ofNat len)] 6)) (s₁.setTop (mkF m 0 #[.val (.ref b), .val (.int (Int32.ofNat o)), .val (.int (Int32.ofNat len)), .unset, .unset, .unset] [])) := entry rfl
  have c2 : Steps p.tables e below (s₁.setTop (entryFrame m #[.ref b, .int (Int32.ofNat o), .int (Int32.ofNat len)] 6)) (s₁.setTop (mkF m 1 #[.val (.ref b), .val (.int (Int32.ofNat o)), .val (.int (Int32.ofNat len)), .unset, .unset, .unset] [.int (Int32.ofNat len)])) := c1.trans (by
    refine XS.iloadN X0.here hexec rfl (hb hbytes d0) rfl ?_
    exact Steps.refl _)
  obtain ⟨T3, B3, X3, ba3, bs3, bv3, bh3, bf3, st3⟩ := X0.anew hexec (atype := .byte) (wk W (.arrayClass .byte)) rfl (by show len * 1 ≤ _; omega) (by omega) (g := (mkF m 1 #[.val (.ref b), .val (.int (Int32.ofNat o)), .val (.int (Int32.ofNat len)), .unset, .unset, .unset] [.int (Int32.ofNat len)])) rfl (hb hbytes d1) (rest := []) rfl (Nat.le_refl _) (by show 0 + len ≤ len; omega)
  rw [hh0] at ba3 st3
  have kp3 : XT.Kept s T3 := (XT.Kept.of_eq hh0).push bh3
  have hA3 := hA.keep X3.warmed.alike (kp3 _ _ hA.1.1)
  have hne : b ≠ s.heap.size := hA.1.ne
  have c4 : Steps p.tables e below (s₁.setTop (entryFrame m #[.ref b, .int (Int32.ofNat o), .int (Int32.ofNat len)] 6)) (T3.setTop (mkF m 3 #[.val (.ref b), .val (.int (Int32.ofNat o)), .val (.int (Int32.ofNat len)), .unset, .unset, .unset] [.ref s.heap.size])) := c2.trans (st3 _ (Steps.refl _))
  have c5 : Steps p.tables e below (s₁.setTop (entryFrame m #[.ref b, .int (Int32.ofNat o), .int (Int32.ofNat len)] 6)) (T3.setTop (mkF m 9 #[.val (.ref b), .val (.int (Int32.ofNat o)), .val (.int (Int32.ofNat len)), .val (.ref s.heap.size), .unset, .unset] [.int (Int32.ofNat len), .int 0, .ref s.heap.size, .int (Int32.ofNat o), .ref b])) := c4.trans (by
    refine XS.astoreN X3.here hexec rfl (hb hbytes d3) rfl rfl rfl ?_
    refine XS.aloadN X3.here hexec rfl (hb hbytes d4) rfl rfl ?_
    refine XS.iloadN X3.here hexec rfl (hb hbytes d5) rfl ?_
    refine XS.aloadN X3.here hexec rfl (hb hbytes d6) rfl rfl ?_
    refine iconstV X3.here hexec rfl 0 (hb hbytes d7) (by decide) ?_
    refine XS.iloadN X3.here hexec rfl (hb hbytes d8) rfl ?_
    exact Steps.refl _)
  obtain ⟨v6, T6, X6, E6, g6⟩ := X3.callS hexec (Cmp5.law l b A s.heap.size B3 o 0 len) hown (wks W (staticW U16 115 Cmp5.yN)) (wk W Cmp5.tab) (W := 0) (Nat.le_of_ble_eq_true rfl) (Nat.le_of_ble_eq_true rfl) (Nat.le_refl _) (by show 0 + len + 0 ≤ len; omega) (g := (mkF m 9 #[.val (.ref b), .val (.int (Int32.ofNat o)), .val (.int (Int32.ofNat len)), .val (.ref s.heap.size), .unset, .unset] [.int (Int32.ofNat len), .int (Int32.ofNat 0), .ref s.heap.size, .int (Int32.ofNat o), .ref b])) rfl (by rw [hml]; rfl) c5 (argsL := [.ref b, .int (Int32.ofNat o), .ref s.heap.size, .int (Int32.ofNat 0), .int (Int32.ofNat len)]) (rest := []) rfl rfl (by show 2 * 0 + 0 ≤ _; decide) (hb hbytes d9) (⟨rfl, hA3, ba3, hne, l1, by rw [bs3]; simp, hp⟩)
  obtain ⟨rfl, B6, p6, f6⟩ := E6
  have c7 : Steps p.tables e below (s₁.setTop (entryFrame m #[.ref b, .int (Int32.ofNat o), .int (Int32.ofNat len)] 6)) (T6.setTop (mkF m 12 #[.val (.ref b), .val (.int (Int32.ofNat o)), .val (.int (Int32.ofNat len)), .val (.ref s.heap.size), .unset, .unset] [.int (Int32.ofNat len)])) := g6
  have c8 : Steps p.tables e below (s₁.setTop (entryFrame m #[.ref b, .int (Int32.ofNat o), .int (Int32.ofNat len)] 6)) (T6.setTop (mkF m 58 #[.val (.ref b), .val (.int (Int32.ofNat o)), .val (.int (Int32.ofNat len)), .val (.ref s.heap.size), .val (.int (Int32.ofNat len)), .unset] [.ref s.heap.size])) := c7.trans (by
    refine XS.istore X6.here hexec rfl (hb hbytes d12) rfl rfl ?_
    refine XS.iload X6.here hexec rfl (hb hbytes d14) rfl ?_
    refine XS.iloadN X6.here hexec rfl (hb hbytes d16) rfl ?_
    refine XS.icmpYes X6.here hexec rfl (pc0 := 17) rfl (hb hbytes d17) rfl (ii_eq_t rfl) (by decide) rfl ?_
    refine XS.aloadN X6.here hexec rfl (hb hbytes d57) rfl rfl ?_
    exact Steps.refl _)
  have X8 := X6.wide (L' := []) (cells' := 1) (slots' := len) (fun x hx hlt => by
    simp only [List.nil_append, copyLocs, List.mem_map, List.mem_range] at hx
    obtain ⟨i, -, rfl⟩ := hx
    exact absurd hlt (Nat.lt_irrefl _)) (Nat.le_refl _) (by omega)
  exact ⟨T6, some (.ref s.heap.size), _, _, _, X8, rfl, rfl, rfl, (fun h => by cases h), ⟨⟨rfl, B6, ba3.like (X3.warmed.alike.symm.trans X6.warmed.alike) p6.1 f6.1 f6.2.1 f6.2.2.1, f6.2.1.trans bv3, by rw [X6.warmed.alike.findClass, f6.1]; exact bf3, by rw [f6.2.2.1, bs3]; simp, fun j hj => by rw [f6.2.2.2 j, if_pos (by omega)]; rfl, kp3.put p6 (Nat.le_refl _)⟩, by rw [p6.2.2, bh3, hh0]; simp⟩, fun fs hl => c8.trans (X8.areturnOut hexec rfl hret rfl (hb hbytes d58) hl)⟩
end Cmp3
namespace CodL
def yN : MethodName := ⟨"java/lang/StringUTF16", "coderFromArrayLen", "([BI)B"⟩
abbrev yB : ByteArray := jdk_52_method_15_code
theorem d0 : decode yB 0 = .ok (.iload_n 1, 1) := by decide +kernel
theorem d1 : decode yB 1 = .ok (.aload_n 0, 1) := by decide +kernel
theorem d2 : decode yB 2 = .ok (.arraylength, 1) := by decide +kernel
theorem d3 : decode yB 3 = .ok (.isub, 1) := by decide +kernel
theorem d4 : decode yB 4 = .ok (.bipush 31, 2) := by decide +kernel
theorem d6 : decode yB 6 = .ok (.iushr, 1) := by decide +kernel
theorem d7 : decode yB 7 = .ok (.i2b, 1) := by decide +kernel
theorem d8 : decode yB 8 = .ok (.ireturn, 1) := by decide +kernel
def site : List Cond := []
def tab : Cond := tabOf yN yB 2 (some .byte) site
def P (d : Addr) (B : Cell) (args : Array Value) (s : State) : Prop := args = #[.ref d, .int (Int32.ofNat B.slots.size)] ∧ Arr .byte d B s
def E (r : Option Value) (s u : State) : Prop := XT.PureE (some (.int 0)) r s u
/-- an array as long as the number of chars: LATIN1 -/
theorem law (l : Launch) (d : Addr) (B : Cell) : Law l yN 2 2 0 0 yB 2 (some .byte) site (P d B) E [] 0 0 := by
  refine Law.of_walk (plainFor_of_name (by decide +kernel)) (by decide +kernel) (by decide +kernel) (by decide) (fun _ _ h => by rw [h.1]; rfl) (fun _ U U' hal hh h => ⟨h.1, h.2.mv hal hh⟩) (fun r U U' V V' h1 hal h2 h => XT.PureE.mv r U U' V V' h1 hal h2 h) ?_
  intro p e s m args below meth c s₁ X0 hexec hbytes hml hret hlk hnm hown hh0 W hP
  obtain ⟨rfl, hB⟩ := hP
  have hB0 := hB.mv X0.warmed.alike hh0
  have c1 : Steps p.tables e below (s₁.setTop (entryFrame m #[.ref d, .int (Int32.ofNat B.slots.size)] 2)) (s₁.setTop (mkF m 0 #[.val (.ref d), .val (.int (Int32.ofNat B.slots.size))] [])) := entry rfl
  have c2 : Steps p.tables e below (s₁.setTop (entryFrame m #[.ref d, .int (Int32.ofNat B.slots.size)] 2)) (s₁.setTop (mkF m 2 #[.val (.ref d), .val (.int (Int32.ofNat B.slots.size))] [.ref d, .int (Int32.ofNat B.slots.size)])) := c1.trans (by
    refine XS.iloadN X0.here hexec rfl (hb hbytes d0) rfl ?_
    refine XS.aloadN X0.here hexec rfl (hb hbytes d1) rfl rfl ?_
    exact Steps.refl _)
  have c3 : Steps p.tables e below (s₁.setTop (entryFrame m #[.ref d, .int (Int32.ofNat B.slots.size)] 2)) (s₁.setTop (mkF m 8 #[.val (.ref d), .val (.int (Int32.ofNat B.slots.size))] [.int (lo8 (ushr (Int32.ofNat B.slots.size - Int32.ofNat B.slots.size) 31))])) := c2.trans (by
    refine X0.alen hexec hB0 rfl rfl (hb hbytes d2) ?_
    refine XS.isub X0.here hexec rfl (hb hbytes d3) rfl ?_
    refine bipushV X0.here hexec rfl 31 (hb hbytes d4) (by decide) ?_
    refine iushr X0.here hexec rfl (hb hbytes d6) rfl ?_
    refine i2b X0.here hexec rfl (hb hbytes d7) rfl ?_
    exact Steps.refl _)
  have e0 : lo8 (ushr (Int32.ofNat B.slots.size - Int32.ofNat B.slots.size) 31) = 0 := by rw [Int32.sub_self]; decide
  rw [e0] at c3
  exact ⟨s₁, some (.int 0), _, _, _, X0, rfl, rfl, rfl, (fun h => by cases h), ⟨rfl, hh0⟩, fun fs hl => c3.trans (X0.ireturnOut hexec hret rfl (Or.inr (Or.inr (Or.inl rfl))) (hb hbytes d8) hl)⟩
end CodL
/-- the String at a is Latin-1 over a new byte[] (the heap's one new cell): the low bytes of the len chars of A from o on; every cell but a is kept -/
def Got (a : Addr) (D : Cell) (fV fC : Field) (A : Cell) (o len : Nat) (r : Option Value) (s u : State) : Prop := r = none ∧ ∃ D' V : Cell, Blank "java/lang/String" a D' u ∧ Same D D' [fV.slot, fC.slot] ∧ D'.slots[fV.slot]? = some (.ref s.heap.size) ∧ D'.slots[fC.slot]? = some (.int 0) ∧ Arr .byte s.heap.size V u ∧ V.vm = .none ∧ u.vm.findClass "[B" = some V.cls ∧ V.slots.size = len ∧ (∀ j, j < len → V.slots[j]? = some (.int (lo8 (cv A (o + j))))) ∧ (∀ (y : Addr) (c : Cell), y ≠ a → s.heap[y]? = some c → u.heap[y]? = some c) ∧ u.heap.size = s.heap.size + 1
theorem Got.mv {a : Addr} {D A : Cell} {fV fC : Field} {o len : Nat} : ∀ r (U U' V V' : State), U'.heap = U.heap → V.vm.Alike V'.vm → V'.heap = V.heap → Got a D fV fC A o len r U V → Got a D fV fC A o len r U' V' :=
  fun r U U' V V' h1 hal h2 ⟨e0, D', X, a1, a2, a3, a4, a5, a6, a7, a8, a9, a10, a11⟩ => ⟨e0, D', X, a1.mv hal h2, a2, by rw [h1]; exact a3, a4, by rw [h1]; exact a5.mv hal h2, a6, by rw [hal.findClass]; exact a7, a8, a9, by rw [h1, h2]; exact a10, by rw [h1, h2]; exact a11⟩
namespace New4
def yN : MethodName := ⟨"java/lang/String", "<init>", "([CIILjava/lang/Void;)V"⟩
abbrev yB : ByteArray := jdk_42_method_149_code
theorem d0 : decode yB 0 = .ok (.aload_n 0, 1) := by decide +kernel
theorem d1 : decode yB 1 = .ok (.invokespecial 1, 3) := by decide +kernel
theorem d4 : decode yB 4 = .ok (.iload_n 3, 1) := by decide +kernel
theorem d5 : decode yB 5 = .ok (.ifCond (.ne) 22, 3) := by decide +kernel
theorem d27 : decode yB 27 = .ok (.getstatic 38, 3) := by decide +kernel
theorem d30 : decode yB 30 = .ok (.ifCond (.eq) 28, 3) := by decide +kernel
theorem d33 : decode yB 33 = .ok (.aload_n 1, 1) := by decide +kernel
theorem d34 : decode yB 34 = .ok (.iload_n 2, 1) := by decide +kernel
theorem d35 : decode yB 35 = .ok (.iload_n 3, 1) := by decide +kernel
theorem d36 : decode yB 36 = .ok (.invokestatic 177, 3) := by decide +kernel
theorem d39 : decode yB 39 = .ok (.astore 5, 2) := by decide +kernel
theorem d41 : decode yB 41 = .ok (.aload_n 0, 1) := by decide +kernel
theorem d42 : decode yB 42 = .ok (.aload 5, 2) := by decide +kernel
theorem d44 : decode yB 44 = .ok (.iload_n 3, 1) := by decide +kernel
theorem d45 : decode yB 45 = .ok (.invokestatic 47, 3) := by decide +kernel
theorem d48 : decode yB 48 = .ok (.putfield 15, 3) := by decide +kernel
theorem d51 : decode yB 51 = .ok (.aload_n 0, 1) := by decide +kernel
theorem d52 : decode yB 52 = .ok (.aload 5, 2) := by decide +kernel
theorem d54 : decode yB 54 = .ok (.putfield 9, 3) := by decide +kernel
theorem d57 : decode yB 57 = .ok (.return_, 1) := by decide +kernel
def site : List Cond := [.fieldLink "java/lang/String" 38 "java/lang/String" "COMPACT_STRINGS" "Z", Cmp3.tab, CodL.tab, .laysFinal "java/lang/String" "java/lang/String" "value" "[B", .fieldLink "java/lang/String" 9 "java/lang/String" "value" "[B", .laysFinal "java/lang/String" "java/lang/String" "coder" "B", .fieldLink "java/lang/String" 15 "java/lang/String" "coder" "B"] ++ objW "java/lang/String" 1 ++ staticW "java/lang/String" 177 Cmp3.yN ++ staticW "java/lang/String" 47 CodL.yN
def tab : Cond := tabOf yN yB 6 none site
def P (a : Addr) (D : Cell) (fV fC : Field) (b : Addr) (A : Cell) (z : Int32) (o len : Nat) (args : Array Value) (s : State) : Prop := args = #[.ref a, .ref b, .int (Int32.ofNat o), .int (Int32.ofNat len), .null] ∧ Blank "java/lang/String" a D s ∧ Found "java/lang/String" "value" "[B" fV s ∧ Found "java/lang/String" "coder" "B" fC s ∧ Ch b A s ∧ StaticIs s "java/lang/String" "COMPACT_STRINGS" "Z" (.int z) ∧ ¬ z = 0 ∧ 0 < len ∧ o + len ≤ A.slots.size ∧ len ≤ 536870912 ∧ ∀ i, i < len → ¬ 255 < cv A (o + i)
def E (a : Addr) (D : Cell) (fV fC : Field) (A : Cell) (o len : Nat) (r : Option Value) (s u : State) : Prop := Got a D fV fC A o len r s u
/-- len > 0, no char of the range above 255: a Latin-1 String of their low bytes -/
theorem law (l : Launch) (a : Addr) (D : Cell) (fV fC : Field) (b : Addr) (A : Cell) (z : Int32) (o len : Nat) : Law l yN 5 4 2 35 yB 6 none site (P a D fV fC b A z o len) (E a D fV fC A o len) [⟨a, fC.slot⟩, ⟨a, fV.slot⟩] 1 len := by
  refine Law.of_walk (plainFor_of_name (by decide +kernel)) (by decide +kernel) (by decide +kernel) (by decide) (fun _ _ h => by rw [h.1]; rfl) (fun _ U U' hal hh h => ⟨h.1, h.2.1.mv hal hh, h.2.2.1.al hal, h.2.2.2.1.al hal, h.2.2.2.2.1.mv hal hh, h.2.2.2.2.2.1.there hal hh, h.2.2.2.2.2.2⟩) (fun r U U' V V' h1 hal h2 h => Got.mv r U U' V V' h1 hal h2 h) ?_
  intro p e s m args below meth c s₁ X0 hexec hbytes hml hret hlk hnm hown hh0 W hP
  obtain ⟨rfl, hB, f1, f2, hA, s1, hz, l0, l1, l2, hp⟩ := hP
  have a31 := hA.1.2.2.2
  have c1 : Steps p.tables e below (s₁.setTop (entryFrame m #[.ref a, .ref b, .int (Int32.ofNat o), .int (Int32.ofNat len), .null] 6)) (s₁.setTop (mkF m 0 #[.val (.ref a), .val (.ref b), .val (.int (Int32.ofNat o)), .val (.int (Int32.ofNat len)), .val .null, .unset] [])) := entry rfl
  have c2 : Steps p.tables e below (s₁.setTop (entryFrame m #[.ref a, .ref b, .int (Int32.ofNat o), .int (Int32.ofNat len), .null] 6)) (s₁.setTop (mkF m 1 #[.val (.ref a), .val (.ref b), .val (.int (Int32.ofNat o)), .val (.int (Int32.ofNat len)), .val .null, .unset] [.ref a])) := c1.trans (by
    refine XS.aloadN X0.here hexec rfl (hb hbytes d0) rfl rfl ?_
    exact Steps.refl _)
  obtain ⟨T3, X3, q3, st3⟩ := X0.oinit hexec hown (wks W (objW "java/lang/String" 1)) (g := (mkF m 1 #[.val (.ref a), .val (.ref b), .val (.int (Int32.ofNat o)), .val (.int (Int32.ofNat len)), .val .null, .unset] [.ref a])) rfl (by rw [hml]; rfl) (rest := []) rfl (hb hbytes d1) (W := 0) (by show 2 * 0 + 0 ≤ _; decide) (Nat.le_of_ble_eq_true rfl) (Nat.le_of_ble_eq_true rfl)
  have hh3 := q3.trans hh0
  have c4 : Steps p.tables e below (s₁.setTop (entryFrame m #[.ref a, .ref b, .int (Int32.ofNat o), .int (Int32.ofNat len), .null] 6)) (T3.setTop (mkF m 27 #[.val (.ref a), .val (.ref b), .val (.int (Int32.ofNat o)), .val (.int (Int32.ofNat len)), .val .null, .unset] [])) := (c2.trans (st3 _ (Steps.refl _))).trans (by
    refine XS.iloadN X3.here hexec rfl (hb hbytes d4) rfl ?_
    refine XS.ifYes X3.here hexec rfl (pc0 := 5) rfl (hb hbytes d5) rfl (i0_ne_t (nz32 (by omega) l0)) (by decide) rfl ?_
    exact Steps.refl _)
  obtain ⟨T5, X5, q5, st5⟩ := X3.sget hexec hown (wk W (.fieldLink "java/lang/String" 38 "java/lang/String" "COMPACT_STRINGS" "Z")) s1 (fun _ _ h => by rw [hh3]; exact h) (g := (mkF m 27 #[.val (.ref a), .val (.ref b), .val (.int (Int32.ofNat o)), .val (.int (Int32.ofNat len)), .val .null, .unset] [])) rfl (hb hbytes d27)
  have hh5 := q5.trans hh3
  have c6 : Steps p.tables e below (s₁.setTop (entryFrame m #[.ref a, .ref b, .int (Int32.ofNat o), .int (Int32.ofNat len), .null] 6)) (T5.setTop (mkF m 30 #[.val (.ref a), .val (.ref b), .val (.int (Int32.ofNat o)), .val (.int (Int32.ofNat len)), .val .null, .unset] [.int z])) := c4.trans (st5 _ (Steps.refl _))
  have c7 : Steps p.tables e below (s₁.setTop (entryFrame m #[.ref a, .ref b, .int (Int32.ofNat o), .int (Int32.ofNat len), .null] 6)) (T5.setTop (mkF m 36 #[.val (.ref a), .val (.ref b), .val (.int (Int32.ofNat o)), .val (.int (Int32.ofNat len)), .val .null, .unset] [.int (Int32.ofNat len), .int (Int32.ofNat o), .ref b])) := c6.trans (by
    refine XS.ifNo X5.here hexec rfl (hb hbytes d30) rfl (i0_eq_f hz) ?_
    refine XS.aloadN X5.here hexec rfl (hb hbytes d33) rfl rfl ?_
    refine XS.iloadN X5.here hexec rfl (hb hbytes d34) rfl ?_
    refine XS.iloadN X5.here hexec rfl (hb hbytes d35) rfl ?_
    exact Steps.refl _)
  obtain ⟨v8, T8, X8, E8, g8⟩ := X5.callS hexec (Cmp3.law l b A o len) hown (wks W (staticW "java/lang/String" 177 Cmp3.yN)) (wk W Cmp3.tab) (W := 0) (Nat.le_of_ble_eq_true rfl) (Nat.le_of_ble_eq_true rfl) (Nat.le_refl _) (by show 0 + len ≤ len; omega) (g := (mkF m 36 #[.val (.ref a), .val (.ref b), .val (.int (Int32.ofNat o)), .val (.int (Int32.ofNat len)), .val .null, .unset] [.int (Int32.ofNat len), .int (Int32.ofNat o), .ref b])) rfl (by rw [hml]; rfl) c7 (argsL := [.ref b, .int (Int32.ofNat o), .int (Int32.ofNat len)]) (rest := []) rfl rfl (by show 2 * 0 + 0 ≤ _; decide) (hb hbytes d36) (⟨rfl, hA.mv X5.warmed.alike hh5, l1, l2, hp⟩)
  obtain ⟨e8, z8⟩ := E8
  obtain ⟨rfl, N, n1, n2, n3, n4, n5, n6⟩ := NewArr.mv _ T5 s _ _ hh5.symm (Vm.Alike.refl _) rfl e8
  rw [hh5] at z8
  have hB1 := hB.keep X8.warmed.alike (n6 _ _ hB.1)
  have hne : s.heap.size ≠ a := (Nat.ne_of_lt (Array.getElem?_eq_some_iff.mp hB.1).1).symm
  have c9 : Steps p.tables e below (s₁.setTop (entryFrame m #[.ref a, .ref b, .int (Int32.ofNat o), .int (Int32.ofNat len), .null] 6)) (T8.setTop (mkF m 39 #[.val (.ref a), .val (.ref b), .val (.int (Int32.ofNat o)), .val (.int (Int32.ofNat len)), .val .null, .unset] [.ref s.heap.size])) := g8
  have c10 : Steps p.tables e below (s₁.setTop (entryFrame m #[.ref a, .ref b, .int (Int32.ofNat o), .int (Int32.ofNat len), .null] 6)) (T8.setTop (mkF m 45 #[.val (.ref a), .val (.ref b), .val (.int (Int32.ofNat o)), .val (.int (Int32.ofNat len)), .val .null, .val (.ref s.heap.size)] [.int (Int32.ofNat N.slots.size), .ref s.heap.size, .ref a])) := by
    have hc : Steps p.tables e below (s₁.setTop (entryFrame m #[.ref a, .ref b, .int (Int32.ofNat o), .int (Int32.ofNat len), .null] 6)) (T8.setTop (mkF m 45 #[.val (.ref a), .val (.ref b), .val (.int (Int32.ofNat o)), .val (.int (Int32.ofNat len)), .val .null, .val (.ref s.heap.size)] [.int (Int32.ofNat len), .ref s.heap.size, .ref a])) := c9.trans (by
      refine XS.astore X8.here hexec rfl (hb hbytes d39) rfl rfl rfl ?_
      refine XS.aloadN X8.here hexec rfl (hb hbytes d41) rfl rfl ?_
      refine XS.aload X8.here hexec rfl (hb hbytes d42) rfl rfl ?_
      refine XS.iloadN X8.here hexec rfl (hb hbytes d44) rfl ?_
      exact Steps.refl _)
    rw [n4]; exact hc
  obtain ⟨v11, T11, X11, E11, g11⟩ := X8.callS hexec (CodL.law l s.heap.size N) hown (wks W (staticW "java/lang/String" 47 CodL.yN)) (wk W CodL.tab) (W := 1) (Nat.le_of_ble_eq_true rfl) (Nat.le_of_ble_eq_true rfl) (Nat.le_refl _) (by show 0 + len + 0 ≤ len; omega) (g := (mkF m 45 #[.val (.ref a), .val (.ref b), .val (.int (Int32.ofNat o)), .val (.int (Int32.ofNat len)), .val .null, .val (.ref s.heap.size)] [.int (Int32.ofNat N.slots.size), .ref s.heap.size, .ref a])) rfl (by rw [hml]; rfl) c10 (argsL := [.ref s.heap.size, .int (Int32.ofNat N.slots.size)]) (rest := [.ref a]) rfl rfl (by show 2 * 0 + (1 + 0) ≤ _; decide) (hb hbytes d45) (⟨rfl, n1⟩)
  obtain ⟨rfl, q11⟩ := E11
  have hB11 := hB1.mv (X8.warmed.alike.symm.trans X11.warmed.alike) q11
  have c12 : Steps p.tables e below (s₁.setTop (entryFrame m #[.ref a, .ref b, .int (Int32.ofNat o), .int (Int32.ofNat len), .null] 6)) (T11.setTop (mkF m 48 #[.val (.ref a), .val (.ref b), .val (.int (Int32.ofNat o)), .val (.int (Int32.ofNat len)), .val .null, .val (.ref s.heap.size)] [.int 0, .ref a])) := g11
  obtain ⟨T13, X13, p13, bl13, sl13, st13⟩ := X11.finit hexec hown (wk W (.fieldLink "java/lang/String" 15 "java/lang/String" "coder" "B")) (Or.inr ⟨_, (wk W (.laysFinal "java/lang/String" "java/lang/String" "coder" "B"))⟩) (Or.inl ⟨rfl, hnm⟩) f2 (Or.inl rfl) hB11 (t := .byte) (by decide +kernel) rfl (g := (mkF m 48 #[.val (.ref a), .val (.ref b), .val (.int (Int32.ofNat o)), .val (.int (Int32.ofNat len)), .val .null, .val (.ref s.heap.size)] [.int 0, .ref a])) rfl (rest := []) rfl (hb hbytes d48)
  have c14 : Steps p.tables e below (s₁.setTop (entryFrame m #[.ref a, .ref b, .int (Int32.ofNat o), .int (Int32.ofNat len), .null] 6)) (T13.setTop (mkF m 54 #[.val (.ref a), .val (.ref b), .val (.int (Int32.ofNat o)), .val (.int (Int32.ofNat len)), .val .null, .val (.ref s.heap.size)] [.ref s.heap.size, .ref a])) := (c12.trans (st13 _ (Steps.refl _))).trans (by
    refine XS.aloadN X13.here hexec rfl (hb hbytes d51) rfl rfl ?_
    refine XS.aload X13.here hexec rfl (hb hbytes d52) rfl rfl ?_
    exact Steps.refl _)
  obtain ⟨T15, X15, p15, bl15, sl15, st15⟩ := X13.finit hexec hown (wk W (.fieldLink "java/lang/String" 9 "java/lang/String" "value" "[B")) (Or.inr ⟨_, (wk W (.laysFinal "java/lang/String" "java/lang/String" "value" "[B"))⟩) (Or.inl ⟨rfl, hnm⟩) f1 (Or.inl rfl) bl13 (t := (.array .byte)) (by decide +kernel) rfl (g := (mkF m 54 #[.val (.ref a), .val (.ref b), .val (.int (Int32.ofNat o)), .val (.int (Int32.ofNat len)), .val .null, .val (.ref s.heap.size)] [.ref s.heap.size, .ref a])) rfl (rest := []) rfl (hb hbytes d54)
  have c16 : Steps p.tables e below (s₁.setTop (entryFrame m #[.ref a, .ref b, .int (Int32.ofNat o), .int (Int32.ofNat len), .null] 6)) (T15.setTop (mkF m 57 #[.val (.ref a), .val (.ref b), .val (.int (Int32.ofNat o)), .val (.int (Int32.ofNat len)), .val .null, .val (.ref s.heap.size)] [])) := c14.trans (st15 _ (Steps.refl _))
  have ap := apart (Or.inr ⟨_, (wk W (.laysFinal "java/lang/String" "java/lang/String" "value" "[B"))⟩) (Or.inr ⟨_, (wk W (.laysFinal "java/lang/String" "java/lang/String" "coder" "B"))⟩) f1 f2 (t₁ := .array .byte) (t₂ := .byte) (by decide +kernel) (by decide +kernel) (by decide)
  have al := X8.warmed.alike.symm.trans X15.warmed.alike
  have n7 : T11.heap[s.heap.size]? = some N := by rw [q11]; exact n1.1
  exact ⟨T15, none, _, _, _, X15, by simp, rfl, by omega, (fun _ => rfl), ⟨rfl, _, N, bl15, ((Same.refl D _).set _ (by simp)).set _ (by simp), sl15, (Cell.slots_setSlot_ne _ ap).trans sl13, n1.keep al (p15.other hne (p13.other hne n7)), n2, by rw [al.findClass]; exact n3, n4, n5, fun y c h1 h2 => p15.other h1 (p13.other h1 (by rw [q11]; exact n6 y c h2)), by rw [p15.2.2, p13.2.2, q11]; exact z8⟩, fun fs hl => c16.trans (X15.returnOut hexec hret (hb hbytes d57) hl)⟩
end New4
namespace New1
def yN : MethodName := ⟨"java/lang/String", "<init>", "([C)V"⟩
abbrev yB : ByteArray := jdk_42_method_3_code
theorem d0 : decode yB 0 = .ok (.aload_n 0, 1) := by decide +kernel
theorem d1 : decode yB 1 = .ok (.aload_n 1, 1) := by decide +kernel
theorem d2 : decode yB 2 = .ok (.iconst 0, 1) := by decide +kernel
theorem d3 : decode yB 3 = .ok (.aload_n 1, 1) := by decide +kernel
theorem d4 : decode yB 4 = .ok (.arraylength, 1) := by decide +kernel
theorem d5 : decode yB 5 = .ok (.aconst_null, 1) := by decide +kernel
theorem d6 : decode yB 6 = .ok (.invokespecial 27, 3) := by decide +kernel
theorem d9 : decode yB 9 = .ok (.return_, 1) := by decide +kernel
def site : List Cond := [New4.tab] ++ initW "java/lang/String" 27 New4.yN
def tab : Cond := tabOf yN yB 2 none site
def P (a : Addr) (D : Cell) (fV fC : Field) (b : Addr) (A : Cell) (z : Int32) (args : Array Value) (s : State) : Prop := args = #[.ref a, .ref b] ∧ Blank "java/lang/String" a D s ∧ Found "java/lang/String" "value" "[B" fV s ∧ Found "java/lang/String" "coder" "B" fC s ∧ Ch b A s ∧ StaticIs s "java/lang/String" "COMPACT_STRINGS" "Z" (.int z) ∧ ¬ z = 0 ∧ 0 < A.slots.size ∧ A.slots.size ≤ 536870912 ∧ ∀ i, i < A.slots.size → ¬ 255 < cv A i
def E (a : Addr) (D : Cell) (fV fC : Field) (A : Cell) (r : Option Value) (s u : State) : Prop := Got a D fV fC A 0 A.slots.size r s u
/-- new String(chars), not empty, no char above 255: a Latin-1 String of their low bytes -/
theorem law (l : Launch) (a : Addr) (D : Cell) (fV fC : Field) (b : Addr) (A : Cell) (z : Int32) : Law l yN 2 1 3 52 yB 2 none site (P a D fV fC b A z) (E a D fV fC A) [⟨a, fC.slot⟩, ⟨a, fV.slot⟩] 1 A.slots.size := by
  refine Law.of_walk (plainFor_of_name (by decide +kernel)) (by decide +kernel) (by decide +kernel) (by decide) (fun _ _ h => by rw [h.1]; rfl) (fun _ U U' hal hh h => ⟨h.1, h.2.1.mv hal hh, h.2.2.1.al hal, h.2.2.2.1.al hal, h.2.2.2.2.1.mv hal hh, h.2.2.2.2.2.1.there hal hh, h.2.2.2.2.2.2⟩) (fun r U U' V V' h1 hal h2 h => Got.mv r U U' V V' h1 hal h2 h) ?_
  intro p e s m args below meth c s₁ X0 hexec hbytes hml hret hlk hnm hown hh0 W hP
  obtain ⟨rfl, hB, f1, f2, hA, s1, hz, l0, l2, hp⟩ := hP
  have c1 : Steps p.tables e below (s₁.setTop (entryFrame m #[.ref a, .ref b] 2)) (s₁.setTop (mkF m 0 #[.val (.ref a), .val (.ref b)] [])) := entry rfl
  have c2 : Steps p.tables e below (s₁.setTop (entryFrame m #[.ref a, .ref b] 2)) (s₁.setTop (mkF m 6 #[.val (.ref a), .val (.ref b)] [.null, .int (Int32.ofNat A.slots.size), .int 0, .ref b, .ref a])) := c1.trans (by
    refine XS.aloadN X0.here hexec rfl (hb hbytes d0) rfl rfl ?_
    refine XS.aloadN X0.here hexec rfl (hb hbytes d1) rfl rfl ?_
    refine iconstV X0.here hexec rfl 0 (hb hbytes d2) (by decide) ?_
    refine XS.aloadN X0.here hexec rfl (hb hbytes d3) rfl rfl ?_
    refine X0.alen hexec (hA.1.mv X0.warmed.alike hh0) rfl rfl (hb hbytes d4) ?_
    refine XS.aconstNull X0.here hexec rfl (hb hbytes d5) ?_
    exact Steps.refl _)
  obtain ⟨v3, T3, X3, E3, g3⟩ := X0.callN hexec (New4.law l a D fV fC b A z 0 A.slots.size) rfl hown (wks W (initW "java/lang/String" 27 New4.yN)) (W New4.tab (by simp only [site, List.mem_cons, List.mem_append, true_or, or_true])) (W := 0) (Nat.le_of_ble_eq_true rfl) (Nat.le_of_ble_eq_true rfl) (Nat.le_refl _) (by show 0 + A.slots.size ≤ A.slots.size; omega) (g := (mkF m 6 #[.val (.ref a), .val (.ref b)] [.null, .int (Int32.ofNat A.slots.size), .int (Int32.ofNat 0), .ref b, .ref a])) rfl (by rw [hml]; rfl) c2 (argsL := [.ref b, .int (Int32.ofNat 0), .int (Int32.ofNat A.slots.size), .null]) (rest := []) rfl rfl (by show 2 * 0 + 0 ≤ _; decide) (hb hbytes d6) (⟨rfl, hB.mv X0.warmed.alike hh0, f1.al X0.warmed.alike, f2.al X0.warmed.alike, hA.mv X0.warmed.alike hh0, s1.there X0.warmed.alike hh0, hz, l0, by omega, l2, fun i hi => by rw [Nat.zero_add]; exact hp i hi⟩)
  have e0 := Got.mv _ s₁ s _ _ hh0.symm (Vm.Alike.refl _) rfl E3
  obtain rfl := e0.1
  have c4 : Steps p.tables e below (s₁.setTop (entryFrame m #[.ref a, .ref b] 2)) (T3.setTop (mkF m 9 #[.val (.ref a), .val (.ref b)] [])) := g3
  exact ⟨T3, none, _, _, _, X3, by simp, rfl, by omega, (fun _ => rfl), e0, fun fs hl => c4.trans (X3.returnOut hexec hret (hb hbytes d9) hl)⟩
theorem pays {l : Launch} {R : Room} {p : Program} {e : Env} {below : List Frame} {s : State} {sargs : Array Value} {len W : Nat} (a : Addr) (D : Cell) (fV fC : Field) (b : Addr) (A : Cell) (z : Int32) (htab : tab.before sargs s = true) (hfr : 4 ≤ R.frames) (hlo : W + 65 ≤ R.locals) :
    Back l R p e below s sargs yN len W (fun A₁ a₁ => A₁.cells + 1 ≤ R.cells ∧ A₁.slots + A.slots.size ≤ R.slots ∧ P a D fV fC b A z a₁ A₁.U) (fun A₁ _ v₁ B₁ => E a D fV fC A v₁ A₁.U B₁.U ∧ B₁.locs = A₁.locs ++ [⟨a, fC.slot⟩, ⟨a, fV.slot⟩] ∧ B₁.cells = A₁.cells + 1 ∧ B₁.slots = A₁.slots + A.slots.size) :=
  (law l a D fV fC b A z).pays htab hfr (by omega)
end New1
end StrChars
namespace StrChars.Road
open Jvm Sem ClassFile Op Lib Jvm.Stand Jvm.Free Jvm.Free.XT
open Jvm.Lib.Cold (StaticIs)
abbrev ST : String := "java/lang/String"
/-- every table word that New1's law asks, flat -/
abbrev words : List Jvm.Cond := [.code New1.yN New1.yB 2 none, .initialized ST, .methodLink ST 27 New4.yN, .instanceMethod New4.yN,
  .code New4.yN New4.yB 6 none, .fieldLink ST 38 ST "COMPACT_STRINGS" "Z", .laysFinal ST ST "value" "[B", .fieldLink ST 9 ST "value" "[B", .laysFinal ST ST "coder" "B", .fieldLink ST 15 ST "coder" "B",
  .methodLink ST 1 Lib.objectInit, .instanceMethod Lib.objectInit, .code Lib.objectInit ⟨#[0xb1]⟩ 1 none, .methodLink ST 177 Cmp3.yN, .static Cmp3.yN, .methodLink ST 47 CodL.yN, .static CodL.yN,
  .code Cmp3.yN Cmp3.yB 6 (some (.array .byte)), .initialized U16, .arrayClass .byte, .methodLink U16 115 Cmp5.yN, .static Cmp5.yN, .code Cmp5.yN Cmp5.yB 7 (some .int), .code CodL.yN CodL.yB 2 (some .byte)]
theorem tab_of {a : Array Value} {s : State} (h : ∀ w ∈ words, w.before a s = true) : New1.tab.before a s = true := by
  have h5 : Cmp5.tab.before a s = true := unparts (wk h (.code Cmp5.yN Cmp5.yB 7 (some .int))) (wks h (.initialized Cmp5.yN.cls :: Cmp5.site))
  have hc : CodL.tab.before a s = true := unparts (wk h (.code CodL.yN CodL.yB 2 (some .byte))) (wks h (.initialized CodL.yN.cls :: CodL.site))
  have q5 : ∀ w ∈ Cmp5.tab :: words, w.before a s = true := fun w hw => (List.mem_cons.mp hw).elim (fun e => e ▸ h5) (h w)
  have h3 : Cmp3.tab.before a s = true := unparts (wk q5 (.code Cmp3.yN Cmp3.yB 6 (some (.array .byte)))) (wks q5 (.initialized Cmp3.yN.cls :: Cmp3.site))
  have q3 : ∀ w ∈ Cmp3.tab :: CodL.tab :: words, w.before a s = true := fun w hw => (List.mem_cons.mp hw).elim (fun e => e ▸ h3) fun hw => (List.mem_cons.mp hw).elim (fun e => e ▸ hc) (h w)
  have h4 : New4.tab.before a s = true := unparts (wk q3 (.code New4.yN New4.yB 6 none)) (wks q3 (.initialized New4.yN.cls :: New4.site))
  have q4 : ∀ w ∈ New4.tab :: words, w.before a s = true := fun w hw => (List.mem_cons.mp hw).elim (fun e => e ▸ h4) (h w)
  exact unparts (wk q4 (.code New1.yN New1.yB 2 none)) (wks q4 (.initialized New1.yN.cls :: New1.site))
/-- the words ride from the start Z to the walk's own state -/
theorem moved {Z s : State} {a0 args : Array Value} (hZ : Z.Warmed39 s.vm) (hw : ∀ d ∈ words, d.before a0 Z = true) : ∀ d ∈ words, d.before args s = true := fun d hd => by
  have q := hw d hd
  have t : ∀ d ∈ words, d = .arrayClass .byte ∨ (d.onTables && d.keepsFace) = true := by decide +kernel
  rcases t d hd with rfl | t
  · exact RoadKit.mvA hZ q
  · exact RoadKit.mv hZ q t
/-- WHAT COMES BACK, over the tables of the start Z: h the heap at the call, h' behind it -/
def Q (Z : State) (x : Addr) (A : Cell) (h : Heap) (v : Option Value) (h' : Heap) (L : List Loc) : Prop := v = none ∧ (∀ y ∈ L, y.base = x) ∧ RoadKit.Keep h h' [x] ∧ h'.size = h.size + 1 ∧ RoadKit.Exa Z h' x ST ∧ RoadKit.Fld Z h' x ST "value" "[B" (.ref h.size) ∧ RoadKit.Fld Z h' x ST "coder" "B" (.int 0) ∧
  (∃ V : Cell, RoadKit.Arr Z h' h.size V .byte ∧ V.vm = .none ∧ Z.vm.findClass "[B" = some V.cls ∧ V.slots.size = A.slots.size ∧ ∀ j, j < A.slots.size → V.slots[j]? = some (.int (lo8 (cv A j)))) ∧
  ∀ (O n d : String) (w : Value), RoadKit.Fld Z h x O n d w → RoadKit.slotOf Z O n d ≠ RoadKit.slotOf Z ST "value" "[B" → RoadKit.slotOf Z O n d ≠ RoadKit.slotOf Z ST "coder" "B" → RoadKit.Fld Z h' x O n d w
/-- **new String(chars) AT A CALL, IN THE ROAD'S FORM**: for specialBack behind newO: x the fresh String, b the char[] with the cell A -/
theorem back {p : Program} {l : Launch} {e : Env} {R : Room} {s : State} {args : Array Value} {below : List Frame} {len W : Nat} {Z : State} {a0 : Array Value} {h : Heap} (hZ : Z.Warmed39 s.vm) (hw : ∀ d ∈ words, d.before a0 Z = true) {kI : Nat} (wi : (Jvm.Cond.instantiable ST kI).before a0 Z = true)
    {x b : Addr} {A : Cell} {z : Int32} {v0 c0 : Value} (E : RoadKit.Exa Z h x ST) (V : RoadKit.Fld Z h x ST "value" "[B" v0) (C : RoadKit.Fld Z h x ST "coder" "B" c0) (K : RoadKit.Arr Z h b A .char) (hty : Typed .char A) (S : RoadKit.Sta Z h ST "COMPACT_STRINGS" "Z" (.int z)) (hz : ¬ z = 0)
    (l0 : 0 < A.slots.size) (l2 : A.slots.size ≤ 536870912) (hp : ∀ i, i < A.slots.size → ¬ 255 < cv A i) (hfr : 4 ≤ R.frames) (hlo : W + 65 ≤ R.locals) :
    Back l R p e below s args New1.yN len W (fun P a => a = #[.ref x, .ref b] ∧ P.U.heap = h ∧ P.cells + 1 ≤ R.cells ∧ P.slots + A.slots.size ≤ R.slots)
      (fun P _ v B => ∃ L, Q Z x A h v B.U.heap L ∧ B.locs = P.locs ++ L ∧ B.cells = P.cells + 1 ∧ B.slots = P.slots + A.slots.size) := by
  intro m meth c P g ig mk a X hg hsize hdg hW hn hp'
  obtain ⟨rfl, rfl, r1, r2⟩ := hp'
  have al : Z.vm.Alike P.U.vm := hZ.alike.trans X.warmed.alike
  obtain ⟨D, cfV, kV, iV, fV, hD, gV, stV, knV, obV, asV, slV⟩ := id V
  obtain ⟨D', cfC, kC, iC, fC, hD', gC, stC, -, -, asC, slC⟩ := id C
  cases hD.symm.trans hD'
  obtain ⟨D2, kD, e1, e2, e3, e4, e5⟩ := id E
  cases hD.symm.trans e1
  obtain ⟨c2, k2, i1, i2, i3, -⟩ := Cond.instantiable_spec wi
  cases e2.symm.trans i1
  cases e3.symm.trans i2
  obtain ⟨kU, u1, u2⟩ := al.2.2 _ _ e3
  have hB : Blank ST x D P.U := ⟨hD, ⟨knV, fun q hq => by rw [hq] at obV; cases obV⟩, by rw [al.findClass]; exact e2, kU, u1, by rw [u2]; exact i3, by rw [u2]; exact e5 i3⟩
  have F1 : Found ST "value" "[B" fV P.U := ⟨SBG.found_only al ⟨cfV, kV, iV, gV⟩, stV⟩
  have F2 : Found ST "coder" "B" fC P.U := ⟨SBG.found_only al ⟨cfC, kC, iC, gC⟩, stC⟩
  have hA : Ch b A P.U := ⟨⟨K.1, State.isArrayOf_alike al K.2.1, K.2.2, by omega⟩, hty⟩
  have hS : StaticIs P.U ST "COMPACT_STRINGS" "Z" (.int z) := by
    obtain ⟨cfS, iS, kS, fS, st, cS, t1, t2, t3, t4, t5, t6, t7⟩ := S
    exact StaticIs.there (s := { Z with heap := P.U.heap }) ⟨cfS, iS, kS, fS, st, cS, t1, t2, t3, t4, t5, (fun q => by rw [q] at t6; cases t6), t7⟩ al rfl
  obtain ⟨v, B, X', ⟨⟨hv, E', V', q1, q2, q3, q4, q5, q6, q7, q8, q9, q10, q11⟩, hl, hc, hs⟩, st⟩ := New1.pays x D fV fC b A z (tab_of (moved hZ hw)) hfr hlo m meth c P g ig mk _ X hg hsize hdg hW hn ⟨r1, r2, rfl, hB, F1, F2, hA, hS, hz, l0, l2, hp⟩
  have al' : Z.vm.Alike B.U.vm := hZ.alike.trans X'.warmed.alike
  have hsz : E'.slots.size = D.slots.size := by
    obtain ⟨-, -, -, kB, w1, w2, w3⟩ := q1
    obtain ⟨kB', y1, y2⟩ := al'.2.2 _ _ e3
    rw [q2.2.1] at w1
    cases w1.symm.trans y1
    rw [w3, e5 i3, y2]
  refine ⟨v, B, X', ⟨_, ⟨hv, ?_, ⟨by omega, fun y cy hy hn' => q10 y cy (by simpa using hn') hy, fun y cy hy => ?_⟩, q11, ⟨E', _, q1.1, by rw [q2.2.1]; exact e2, by rw [q2.2.1]; exact e3, by rw [q2.1]; exact obV, fun _ => by rw [hsz]; exact e5 i3⟩,
    ⟨E', cfV, kV, iV, fV, q1.1, gV, stV, by rw [q2.1]; exact knV, by rw [q2.1]; exact obV, by rw [q2.2.1]; exact asV, q3⟩, ⟨E', cfC, kC, iC, fC, q1.1, gC, stC, by rw [q2.1]; exact knV, by rw [q2.1]; exact obV, by rw [q2.2.1]; exact asC, q4⟩,
    ⟨V', ⟨q5.1, State.isArrayOf_alike al'.symm q5.2.1, q5.2.2.1⟩, q6, by rw [← al'.findClass]; exact q7, q8, fun j hj => by have := q9 j hj; rwa [Nat.zero_add] at this⟩, fun O n d w F n1 n2 => ?_⟩, hl, hc, hs⟩, st⟩
  · intro y hy
    simp only [List.mem_cons, List.not_mem_nil, or_false] at hy
    rcases hy with rfl | rfl <;> rfl
  · by_cases q : y = x
    · subst q
      cases hD.symm.trans hy
      exact ⟨E', q1.1, q2.2.1, q2.1, hsz⟩
    · exact ⟨cy, q10 y cy q hy, rfl, rfl, rfl⟩
  · obtain ⟨D3, cf, k, i, f, g1, g2, g3, g4, g5, g6, g7⟩ := F
    cases hD.symm.trans g1
    simp only [RoadKit.slotOf, g2, gV, gC, Option.map_some, Option.getD_some] at n1 n2
    exact ⟨E', cf, k, i, f, q1.1, g2, g3, by rw [q2.1]; exact g4, by rw [q2.1]; exact g5, by rw [q2.2.1]; exact g6, by rw [q2.2.2 f.slot (by simp [n1, n2])]; exact g7⟩
end StrChars.Road
namespace StrChars.Road
open Jvm Sem ClassFile Op Lib Jvm.Stand Jvm.Free Jvm.Free.XT
/-- WHAT COMES BACK, the byte[] as a list of values -/
def QA (Z : State) (x : Addr) (zn : Int32) (cs : List Int32) (h : Heap) (v : Option Value) (h' : Heap) (L : List Loc) : Prop := v = none ∧ (∀ y ∈ L, y.base = x) ∧ RoadKit.Keep h h' [x] ∧ h'.size = h.size + 1 ∧ RoadKit.Exa Z h' x ST ∧ RoadKit.Fld Z h' x ST "value" "[B" (.ref h.size) ∧ RoadKit.Fld Z h' x ST "coder" "B" (.int 0) ∧
  (∃ kb, Z.vm.findClass "[B" = some kb ∧ RoadKit.Arv Z h' h.size kb .byte zn (cs.map fun c => .int (lo8 c)) (.int 0)) ∧
  ∀ (O n d : String) (w : Value), RoadKit.Fld Z h x O n d w → RoadKit.slotOf Z O n d ≠ RoadKit.slotOf Z ST "value" "[B" → RoadKit.slotOf Z O n d ≠ RoadKit.slotOf Z ST "coder" "B" → RoadKit.Fld Z h' x O n d w
/-- **new String(chars) AT A CALL, THE ARRAYS AS LISTS**: the char[] at b holds cs, not empty, no char above 255 -/
theorem backArv {p : Program} {l : Launch} {e : Env} {R : Room} {s : State} {args : Array Value} {below : List Frame} {len W : Nat} {Z : State} {a0 : Array Value} {h : Heap} (hZ : Z.Warmed39 s.vm) (hw : ∀ d ∈ words, d.before a0 Z = true) {kI : Nat} (wi : (Jvm.Cond.instantiable ST kI).before a0 Z = true)
    {x b : Addr} {k : ClassId} {zn z : Int32} {cs : List Int32} {dv v0 c0 : Value} (E : RoadKit.Exa Z h x ST) (V : RoadKit.Fld Z h x ST "value" "[B" v0) (C : RoadKit.Fld Z h x ST "coder" "B" c0) (K : RoadKit.Arv Z h b k .char zn (cs.map Value.int) dv) (S : RoadKit.Sta Z h ST "COMPACT_STRINGS" "Z" (.int z)) (hz : ¬ z = 0)
    (hlen : zn.toNatClampNeg = cs.length) (h0 : 0 < cs.length) (hbig : cs.length ≤ 536870912) (hall : ∀ c ∈ cs, ¬ 255 < c) (hfr : 4 ≤ R.frames) (hlo : W + 65 ≤ R.locals) :
    Back l R p e below s args New1.yN len W (fun P a => a = #[.ref x, .ref b] ∧ P.U.heap = h ∧ P.cells + 1 ≤ R.cells ∧ P.slots + cs.length ≤ R.slots)
      (fun P _ v B => ∃ L, QA Z x zn cs h v B.U.heap L ∧ B.locs = P.locs ++ L ∧ B.cells = P.cells + 1 ∧ B.slots = P.slots + cs.length) := by
  obtain ⟨A, K1, K2, K3, K4, K5, K6⟩ := K
  have e : A.slots.size = cs.length := K3.trans hlen
  have hat : ∀ (i : Nat) (hi : i < cs.length), A.slots[i]? = some (.int cs[i]) := fun i hi => by rw [K5 i (by omega)]; simp [List.getD_eq_getElem?_getD, hi]
  have hcv : ∀ (i : Nat) (hi : i < cs.length), cv A i = cs[i] := fun i hi => by unfold cv; rw [hat i hi]
  have hty : Typed .char A := fun i v hv => by
    have hi : i < A.slots.size := (Array.getElem?_eq_some_iff.mp hv).1
    have q := K5 i hi
    rw [hv] at q
    rw [Option.some.inj q]
    exact K6 i hi
  refine Back.mono (back hZ hw wi E V C K1 hty S hz (by omega) (by omega) (fun i hi => by rw [hcv i (by omega)]; exact hall _ (List.getElem_mem _)) hfr hlo) (fun P a hp => ⟨hp.1, hp.2.1, hp.2.2.1, by rw [e]; exact hp.2.2.2⟩) (fun P a v B hp hq => ?_)
  obtain ⟨L, ⟨q1, q2, q3, q4, q5, q6, q7, ⟨V', v1, v2, v3, v4, v5⟩, q9⟩, hl, hc, hs⟩ := hq
  refine ⟨L, ⟨q1, q2, q3, q4, q5, q6, q7, ⟨V'.cls, v3, V', v1, rfl, by rw [v4, e, hlen], K4, fun i hi => ?_, fun i hi => ?_⟩, q9⟩, hl, hc, by rw [hs, e]⟩
  · have hi' : i < cs.length := by omega
    rw [v5 i (by omega), hcv i hi']; simp [List.getD_eq_getElem?_getD, hi']
  · have hi' : i < cs.length := by omega
    simp only [List.getD_eq_getElem?_getD, List.getElem?_map, List.getElem?_eq_getElem hi', Option.map_some, Option.getD_some]
    exact fits_lo8 _
end StrChars.Road
namespace StrChars.Road
open Jvm Sem ClassFile Op Lib Jvm.Stand Jvm.Free Jvm.Free.XT
/-- WHAT COMES BACK, in the writer's own shape -/
def QV (Z : State) (x : Addr) (N : Int32) (bs : List Int32) (h : Heap) (n0 : Nat) (v : Option Value) (h' : Heap) (L : List Loc) : Prop := v = none ∧ RoadKit.Fr n0 L ∧ RoadKit.Keep h h' [x] ∧ RoadKit.Exa Z h' x ST ∧ RoadKit.Fld Z h' x ST "coder" "B" (.int 0) ∧
  ∃ (t : Addr) (kb : ClassId), n0 ≤ t ∧ h.size ≤ t ∧ ¬ t = x ∧ RoadKit.Fld Z h' x ST "value" "[B" (.ref t) ∧ RoadKit.Arv Z h' t kb .byte N (bs.map Value.int) (.int 0)
/-- **new String(chars) AT A CALL, FOR THE WRITER**: a char[] of n known ints, each 0 to 255 -/
theorem backV {p : Program} {l : Launch} {e : Env} {R : Room} {s : State} {args : Array Value} {below : List Frame} {len W : Nat} {Z : State} {a0 : Array Value} {h : Heap} (hZ : Z.Warmed39 s.vm) (hw : ∀ d ∈ words, d.before a0 Z = true) {kI : Nat} (wi : (Jvm.Cond.instantiable ST kI).before a0 Z = true)
    {x b : Addr} {kC : ClassId} {cs bs : List Int32} {d v0 c0 : Value} {z N : Int32} {n n0 : Nat} (hx0 : n0 ≤ x) (hh0 : n0 ≤ h.size) (E : RoadKit.Exa Z h x ST) (V : RoadKit.Fld Z h x ST "value" "[B" v0) (C : RoadKit.Fld Z h x ST "coder" "B" c0) (K : RoadKit.Arv Z h b kC .char N (cs.map Value.int) d) (S : RoadKit.Sta Z h ST "COMPACT_STRINGS" "Z" (.int z)) (hz : ¬ z = 0)
    (hn : cs.length = n) (hN : N = Int32.ofNat n) (l0 : 0 < n) (l2 : n ≤ 4000) (hp : ∀ c ∈ cs, ¬ c < 0 ∧ ¬ (255 : Int32) < c) (hb : bs = cs.map (fun c => c.toInt8.toInt32)) (hfr : 4 ≤ R.frames) (hlo : W + 65 ≤ R.locals) :
    Back l R p e below s args (⟨"java/lang/String", "<init>", "([C)V"⟩ : MethodName) len W (fun P a => a = #[.ref x, .ref b] ∧ P.U.heap = h ∧ P.cells + 1 ≤ R.cells ∧ P.slots + n ≤ R.slots)
      (fun P _ v B => ∃ L, QV Z x N bs h n0 v B.U.heap L ∧ B.locs = P.locs ++ L ∧ B.cells = P.cells + 1 ∧ B.slots = P.slots + n) := by
  subst hn hN hb
  refine Back.mono (backArv hZ hw wi E V C K S hz (n32 (by omega)) l0 (by omega) (fun c hc => (hp c hc).2) hfr hlo) (fun P a hp => hp) (fun P a v B hp hq => ?_)
  obtain ⟨L, ⟨q1, q2, q3, q4, q5, q6, q7, ⟨kb, v1, v2⟩, q9⟩, hl, hc, hs⟩ := hq
  exact ⟨L, ⟨q1, fun y hy => by rw [q2 y hy]; exact hx0, q3, q5, q7, h.size, kb, hh0, Nat.le_refl _, Nat.ne_of_gt E.lt, q6, by rw [List.map_map]; exact v2⟩, hl, hc, hs⟩
end StrChars.Road
end Jvm.Pilot.@@N@@

namespace Jvm.Pilot.@@N@@
open Jvm Jvm.ClassFile Sem Op Lib Jvm.Free Jvm.Stand Jvm.LawKit Jvm.RoadKit Bundle Jvm.Pilot.@@N@@.Jvm.D

section OwnKit
variable {p : Program} {l : Launch} {e : Env} {R : Room} {s : State} {m : MethodId} {args : Array Value} {below : List Frame} {meth : Method} {c : Code} {T : State} {locs : List Loc} {cells slots : Nat}
/-- from A the invocation ends, and what it leaves is Q, within K cells and N slots -/
def OD (p : Program) (e : Env) (s : State) (below : List Frame) (Q : Option Value → Heap → List Loc → Prop) (K N : Nat) (A : State) : Prop :=
  ∃ s₂ o, Steps p.tables e below A s₂ ∧ s₂.status = .running ∧ Ended s₂ below o ∧ ∃ v L, o = .returned v ∧ Q v s₂.heap L ∧ FrameEnd s o s₂ L K N
theorem OD.go {Q : Option Value → Heap → List Loc → Prop} {K N : Nat} {A B : State} (h : ∀ t, Steps p.tables e below B t → Steps p.tables e below A t) (k : OD p e s below Q K N B) : OD p e s below Q K N A := by
  obtain ⟨s₂, o, h1, r⟩ := k
  exact ⟨s₂, o, h _ h1, r⟩
theorem OD.via {Q : Option Value → Heap → List Loc → Prop} {K N : Nat} {A B : State} (h : Steps p.tables e below A B) (k : OD p e s below Q K N B) : OD p e s below Q K N A := OD.go (fun _ q => h.trans q) k
theorem OD.cut {Q : Option Value → Heap → List Loc → Prop} {K N : Nat} {A B : State} (f : OD p e s below Q K N B → OD p e s below Q K N A) (g : OD p e s below Q K N B) : OD p e s below Q K N A := f g
theorem OD.cutA {Q : Option Value → Heap → List Loc → Prop} {K N : Nat} {A : State} {P : State → Prop} {B : State → State} (f : (∀ T, P T → OD p e s below Q K N (B T)) → OD p e s below Q K N A) (g : ∀ T, P T → OD p e s below Q K N (B T)) : OD p e s below Q K N A := f g
theorem OD.cutX {Q : Option Value → Heap → List Loc → Prop} {K N : Nat} {A s' T0 : State} {h : Heap} (X : Stand p l e R s' m args below meth c T0 locs cells slots) {B : State → State} (f : (∀ T, (Stand p l e R s' m args below meth c T locs cells slots ∧ T.heap = h) → OD p e s below Q K N (B T)) → OD p e s below Q K N A) (g : ∀ T, (Stand p l e R s' m args below meth c T locs cells slots ∧ T.heap = h) → OD p e s below Q K N (B T)) : OD p e s below Q K N A := f g
theorem OD.ret {Q : Option Value → Heap → List Loc → Prop} {K N : Nat} (X : Stand p l e R s m args below meth c T locs cells slots) (hx : p.tables.exec = Jvm.exec) (hlk : meth.locks = false) {pc : Nat} {Ls : Array Slot} {w : Value} {t : FieldType} {i : Instr} {rest : List Value} (hret : meth.sig.returnType = some t) (hn : narrow t w = w)
    (hi : (i = .ireturn ∧ (t = .int ∨ t = .boolean ∨ t = .byte ∨ t = .char ∨ t = .short) ∧ ∃ z, w = .int z) ∨ (i = .lreturn ∧ t = .long ∧ ∃ z, w = .long z) ∨ (i = .dreturn ∧ t = .double ∧ ∃ z, w = .double z) ∨ (i = .freturn ∧ t = .float ∧ ∃ z, w = .float z) ∨ (i = .areturn ∧ t.isReference = true ∧ w.isRef = true))
    (hd : decode c.code pc = .ok (i, 1)) (hk : cells ≤ K) (hs : slots ≤ N) (hQ : Q (some w) T.heap locs) : OD p e s below Q K N (T.setTop (mkF m pc Ls (w :: rest))) := by
  obtain ⟨fs, hr, hrun, hended, hW, hsame⟩ := X.leave (v := some w) (fun h => by rw [hret] at h; cases h) hlk
  exact ⟨_, _, retOut X hx hret hn hi hd hr, hrun, hended, _, _, rfl, hQ, ⟨_, rfl⟩, hW, hsame.mono hk hs⟩
theorem OD.retV {Q : Option Value → Heap → List Loc → Prop} {K N : Nat} (X : Stand p l e R s m args below meth c T locs cells slots) (hx : p.tables.exec = Jvm.exec) (hlk : meth.locks = false) {pc : Nat} {Ls : Array Slot} (hret : meth.sig.returnType = none)
    (hd : decode c.code pc = .ok (.return_, 1)) (hk : cells ≤ K) (hs : slots ≤ N) (hQ : Q none T.heap locs) : OD p e s below Q K N (T.setTop (mkF m pc Ls [])) := by
  obtain ⟨fs, hr, hrun, hended, hW, hsame⟩ := X.leave (v := none) (fun _ => rfl) hlk
  exact ⟨_, _, X.returnOut hx hret hd hr, hrun, hended, _, _, rfl, hQ, ⟨_, rfl⟩, hW, hsame.mono hk hs⟩
theorem own_len {Z : State} {h : Heap} {a : Addr} {k : ClassId} {ty : FieldType} {z : Int32} {vs : List Value} {dv : Value} (F : Arv Z h a k ty z vs dv) : ∃ cl : Cell, Arr Z h a cl ty ∧ cl.slots.size.toInt32 = z := by
  obtain ⟨cl, A, -, S, M, -⟩ := F
  exact ⟨cl, A, len_of S M⟩
theorem own_at {Z : State} {h : Heap} {a : Addr} {k : ClassId} {ty : FieldType} {z j : Int32} {vs : List Value} {dv v : Value} (F : Arv Z h a k ty z vs dv) (q : ¬ j < 0 ∧ j < z) (u : vs.getD j.toNatClampNeg dv = v) : ∃ cl : Cell, Arr Z h a cl ty ∧ ¬ (j < 0 ∨ cl.slots.size ≤ j.toNatClampNeg) ∧ cl.slots[j.toNatClampNeg]? = some v := by
  obtain ⟨cl, A, -, S, M, H, -⟩ := F
  exact ⟨cl, A, inb_of S q, H.at (inb_of S q) u⟩
theorem own_inst {Z : State} {a0 : Array Value} {h : Heap} {own C K : String} {index : Nat} {a : Addr} (X : Stand p l e R s m args below meth c T locs cells slots) (hZ : Z.Warmed39 s.vm) (hown : s.vm.findClass own = some m.cls) (w : (Jvm.Cond.classLink own index K).before a0 Z = true) (E : Exa Z h a C) : Ins Z h a K true ∨ ∃ c t, Z.vm.findClass C = some c ∧ Z.vm.findClass K = some t ∧ Z.vm.assignable c t = false := by
  have hpl : e.platform.magicAccessors = ({} : Platform).magicAccessors := by rw [X.admits.platform]
  obtain ⟨c', hc', -⟩ := Cond.classLink_spec (args := args) hown (mv hZ w) e.platform hpl
  rw [hZ.alike.findClass] at hc'
  obtain ⟨cell, k, h1, h2, h3, h4, -⟩ := E
  cases ha : Z.vm.assignable cell.cls c' with
  | true => exact Or.inl ⟨cell, c', h1, hc', by rw [ha, h4]; rfl⟩
  | false => exact Or.inr ⟨_, _, h2, hc', ha⟩
end OwnKit

theorem wS_in {Z : State} {a0 : Array Value} (hw : ∀ d ∈ tables_1, d.before a0 Z = true) : ∀ a ∈ Bundle.stringAtoms, a.before a0 Z = true := fun a ha => hw _ ((by decide +kernel : ∀ w ∈ Bundle.stringAtoms, w ∈ tables_1) a ha)
section OwnKitW
variable {p : Program} {l : Launch} {e : Env} {R : Room} {s : State} {m : MethodId} {args : Array Value} {below : List Frame} {meth : Method} {c : Code} {T : State} {locs : List Loc} {cells slots : Nat}
/-- OD for a body that may load String constants: the wide frame -/
def ODW (p : Program) (e : Env) (s : State) (below : List Frame) (Q : Option Value → Heap → List Loc → Prop) (K N : Nat) (A : State) : Prop :=
  ∃ s₂ o, Steps p.tables e below A s₂ ∧ s₂.status = .running ∧ Ended s₂ below o ∧ ∃ v L, o = .returned v ∧ Q v s₂.heap L ∧ ReturnedEndW s o s₂ L K N
theorem ODW.go {Q : Option Value → Heap → List Loc → Prop} {K N : Nat} {A B : State} (h : ∀ t, Steps p.tables e below B t → Steps p.tables e below A t) (k : ODW p e s below Q K N B) : ODW p e s below Q K N A := by
  obtain ⟨s₂, o, h1, r⟩ := k
  exact ⟨s₂, o, h _ h1, r⟩
theorem ODW.via {Q : Option Value → Heap → List Loc → Prop} {K N : Nat} {A B : State} (h : Steps p.tables e below A B) (k : ODW p e s below Q K N B) : ODW p e s below Q K N A := ODW.go (fun _ q => h.trans q) k
theorem ODW.cut {Q : Option Value → Heap → List Loc → Prop} {K N : Nat} {A B : State} (f : ODW p e s below Q K N B → ODW p e s below Q K N A) (g : ODW p e s below Q K N B) : ODW p e s below Q K N A := f g
theorem ODW.cutA {Q : Option Value → Heap → List Loc → Prop} {K N : Nat} {A : State} {P : State → Prop} {B : State → State} (f : (∀ T, P T → ODW p e s below Q K N (B T)) → ODW p e s below Q K N A) (g : ∀ T, P T → ODW p e s below Q K N (B T)) : ODW p e s below Q K N A := f g
theorem ODW.cutX {Q : Option Value → Heap → List Loc → Prop} {K N : Nat} {A s' T0 : State} {h : Heap} (X : Stand p l e R s' m args below meth c T0 locs cells slots) {B : State → State} (f : (∀ T, (Stand p l e R s' m args below meth c T locs cells slots ∧ T.heap = h) → ODW p e s below Q K N (B T)) → ODW p e s below Q K N A) (g : ∀ T, (Stand p l e R s' m args below meth c T locs cells slots ∧ T.heap = h) → ODW p e s below Q K N (B T)) : ODW p e s below Q K N A := f g
theorem ODW.ret {Q : Option Value → Heap → List Loc → Prop} {K N : Nat} {vm₁ : Vm} (X : Stand p l e R (s.setVm vm₁) m args below meth c T locs cells slots) (hx : p.tables.exec = Jvm.exec) (hlk : meth.locks = false) {n : Nat} (hS : s.Since vm₁ n) (hnn : n ≤ T.heap.size) {pc : Nat} {Ls : Array Slot} {w : Value} {t : FieldType} {i : Instr} {rest : List Value} (hret : meth.sig.returnType = some t) (hn : narrow t w = w)
    (hi : (i = .ireturn ∧ (t = .int ∨ t = .boolean ∨ t = .byte ∨ t = .char ∨ t = .short) ∧ ∃ z, w = .int z) ∨ (i = .lreturn ∧ t = .long ∧ ∃ z, w = .long z) ∨ (i = .dreturn ∧ t = .double ∧ ∃ z, w = .double z) ∨ (i = .freturn ∧ t = .float ∧ ∃ z, w = .float z) ∨ (i = .areturn ∧ t.isReference = true ∧ w.isRef = true))
    (hd : decode c.code pc = .ok (i, 1)) (hk : cells ≤ K) (hs : slots ≤ N) (hQ : Q (some w) T.heap locs) : ODW p e s below Q K N (T.setTop (mkF m pc Ls (w :: rest))) := by
  obtain ⟨fs, hr, hrun, hended, h1, h2, h3, h4⟩ := X.leaveW hS hnn (v := some w) (fun h => by rw [hret] at h; cases h) hlk
  exact ⟨_, _, retOut X hx hret hn hi hd hr, hrun, hended, _, _, rfl, hQ, h1, h2, h3, h4.mono hk hs⟩
theorem ODW.retV {Q : Option Value → Heap → List Loc → Prop} {K N : Nat} {vm₁ : Vm} (X : Stand p l e R (s.setVm vm₁) m args below meth c T locs cells slots) (hx : p.tables.exec = Jvm.exec) (hlk : meth.locks = false) {n : Nat} (hS : s.Since vm₁ n) (hnn : n ≤ T.heap.size) {pc : Nat} {Ls : Array Slot} (hret : meth.sig.returnType = none)
    (hd : decode c.code pc = .ok (.return_, 1)) (hk : cells ≤ K) (hs : slots ≤ N) (hQ : Q none T.heap locs) : ODW p e s below Q K N (T.setTop (mkF m pc Ls [])) := by
  obtain ⟨fs, hr, hrun, hended, h1, h2, h3, h4⟩ := X.leaveW hS hnn (v := none) (fun _ => rfl) hlk
  exact ⟨_, _, X.returnOut hx hret hd hr, hrun, hended, _, _, rfl, hQ, h1, h2, h3, h4.mono hk hs⟩
end OwnKitW

section OwnKitH
open Jvm.Free.SB Jvm.Free.SBG
variable {p : Program} {l : Launch} {e : Env} {R : Room} {s : State} {m : MethodId} {args : Array Value} {below : List Frame} {meth : Method} {c : Code} {T : State} {locs : List Loc} {cells slots : Nat} {Z : State} {EL : List (String × Nat)}
/-- ODW that keeps the invariant of the held constants -/
def ODH (Z : State) (EL : List (String × Nat)) (p : Program) (e : Env) (s : State) (below : List Frame) (Q : Option Value → Heap → List Loc → Prop) (K N : Nat) (A : State) : Prop :=
  ∃ s₂ o, Steps p.tables e below A s₂ ∧ s₂.status = .running ∧ Ended s₂ below o ∧ ∃ v L, o = .returned v ∧ Q v s₂.heap L ∧ CHr Z EL s.vm s.heap s₂.vm s₂.heap ∧ ReturnedEndW s o s₂ L K N
theorem ODH.go {Q : Option Value → Heap → List Loc → Prop} {K N : Nat} {A B : State} (h : ∀ t, Steps p.tables e below B t → Steps p.tables e below A t) (k : ODH Z EL p e s below Q K N B) : ODH Z EL p e s below Q K N A := by
  obtain ⟨s₂, o, h1, r⟩ := k
  exact ⟨s₂, o, h _ h1, r⟩
theorem ODH.via {Q : Option Value → Heap → List Loc → Prop} {K N : Nat} {A B : State} (h : Steps p.tables e below A B) (k : ODH Z EL p e s below Q K N B) : ODH Z EL p e s below Q K N A := ODH.go (fun _ q => h.trans q) k
theorem ODH.cut {Q : Option Value → Heap → List Loc → Prop} {K N : Nat} {A B : State} (f : ODH Z EL p e s below Q K N B → ODH Z EL p e s below Q K N A) (g : ODH Z EL p e s below Q K N B) : ODH Z EL p e s below Q K N A := f g
theorem ODH.cutA {Q : Option Value → Heap → List Loc → Prop} {K N : Nat} {A : State} {P : State → Prop} {B : State → State} (f : (∀ T, P T → ODH Z EL p e s below Q K N (B T)) → ODH Z EL p e s below Q K N A) (g : ∀ T, P T → ODH Z EL p e s below Q K N (B T)) : ODH Z EL p e s below Q K N A := f g
theorem ODH.cutX {Q : Option Value → Heap → List Loc → Prop} {K N : Nat} {A s' T0 : State} {h : Heap} (X : Stand p l e R s' m args below meth c T0 locs cells slots) {B : State → State} (f : (∀ T, (Stand p l e R s' m args below meth c T locs cells slots ∧ T.heap = h) → ODH Z EL p e s below Q K N (B T)) → ODH Z EL p e s below Q K N A) (g : ∀ T, (Stand p l e R s' m args below meth c T locs cells slots ∧ T.heap = h) → ODH Z EL p e s below Q K N (B T)) : ODH Z EL p e s below Q K N A := f g
theorem ODH.ret {Q : Option Value → Heap → List Loc → Prop} {K N : Nat} {vm₁ : Vm} (X : Stand p l e R (s.setVm vm₁) m args below meth c T locs cells slots) (hx : p.tables.exec = Jvm.exec) (hlk : meth.locks = false) {n : Nat} (hS : s.Since vm₁ n) (hnn : n ≤ T.heap.size) (hch : CHr Z EL s.vm s.heap T.vm T.heap) {pc : Nat} {Ls : Array Slot} {w : Value} {t : FieldType} {i : Instr} {rest : List Value} (hret : meth.sig.returnType = some t) (hn : narrow t w = w)
    (hi : (i = .ireturn ∧ (t = .int ∨ t = .boolean ∨ t = .byte ∨ t = .char ∨ t = .short) ∧ ∃ z, w = .int z) ∨ (i = .lreturn ∧ t = .long ∧ ∃ z, w = .long z) ∨ (i = .dreturn ∧ t = .double ∧ ∃ z, w = .double z) ∨ (i = .freturn ∧ t = .float ∧ ∃ z, w = .float z) ∨ (i = .areturn ∧ t.isReference = true ∧ w.isRef = true))
    (hd : decode c.code pc = .ok (i, 1)) (hk : cells ≤ K) (hs : slots ≤ N) (hQ : Q (some w) T.heap locs) : ODH Z EL p e s below Q K N (T.setTop (mkF m pc Ls (w :: rest))) := by
  obtain ⟨fs, hr, hrun, hended, h1, h2, h3, h4⟩ := X.leaveW hS hnn (v := some w) (fun h => by rw [hret] at h; cases h) hlk
  exact ⟨_, _, retOut X hx hret hn hi hd hr, hrun, hended, _, _, rfl, hQ, hch, h1, h2, h3, h4.mono hk hs⟩
theorem ODH.retV {Q : Option Value → Heap → List Loc → Prop} {K N : Nat} {vm₁ : Vm} (X : Stand p l e R (s.setVm vm₁) m args below meth c T locs cells slots) (hx : p.tables.exec = Jvm.exec) (hlk : meth.locks = false) {n : Nat} (hS : s.Since vm₁ n) (hnn : n ≤ T.heap.size) (hch : CHr Z EL s.vm s.heap T.vm T.heap) {pc : Nat} {Ls : Array Slot} (hret : meth.sig.returnType = none)
    (hd : decode c.code pc = .ok (.return_, 1)) (hk : cells ≤ K) (hs : slots ≤ N) (hQ : Q none T.heap locs) : ODH Z EL p e s below Q K N (T.setTop (mkF m pc Ls [])) := by
  obtain ⟨fs, hr, hrun, hended, h1, h2, h3, h4⟩ := X.leaveW hS hnn (v := none) (fun _ => rfl) hlk
  exact ⟨_, _, X.returnOut hx hret hd hr, hrun, hended, _, _, rfl, hQ, hch, h1, h2, h3, h4.mono hk hs⟩
/-- a String whose value is still null is no booked one -/
theorem own_safeNull {vm : Vm} {h : Heap} {x : Addr} (hal : Z.vm.Alike vm) (E : Exa Z h x "java/lang/String") (F0 : Fld Z h x "java/lang/String" "value" "[B" .null) : Safe Z EL vm h x := fun B => by
  obtain ⟨p, -, u, a, -, q, -, F, rfl | rfl⟩ := B
  · obtain ⟨cell, c, k, i, f, g1, g2, g3, g4, g5, g6, g7⟩ := F0
    cases (show h[q.sa]? = some q.sC from F.ha).symm.trans g1
    obtain ⟨cS, ⟨⟨-, -, -, ⟨c1, k1, i1, f1, -⟩, -, -, -, v1, -⟩, -⟩, -⟩ := F
    obtain ⟨k3, e3, -⟩ := State.fieldFound?_setVm (s := ({ Z with heap := h } : State)) hal g2
    have e4 := (show (Wst Z vm h).fieldFound? _ _ _ = _ from e3).symm.trans f1
    simp only [Option.some.injEq, Prod.mk.injEq] at e4
    rw [← e4.2.2.2, g7] at v1
    cases v1
  · obtain ⟨cell, k, e1, e2, e3, -, -⟩ := E
    cases (show h[q.sd]? = some q.SA from F.hd).symm.trans e1
    obtain ⟨cS, -, -, f, -⟩ := F
    have f' : Z.vm.findClass "[B" = some q.SA.cls := by rw [← hal.findClass]; exact f
    obtain ⟨k1, q1, q2⟩ := Vm.findClass_spec f'
    obtain ⟨k2, q3, q4⟩ := Vm.findClass_spec e2
    cases q1.symm.trans q3
    exact absurd (q2.symm.trans q4) (by decide)
theorem own_safeArv {vm : Vm} {h : Heap} {x : Addr} {k : ClassId} {ty : FieldType} {z : Int32} {vs : List Value} {dv : Value} (hal : Z.vm.Alike vm) (A : Arv Z h x k ty z vs dv) (ht : ty ≠ .byte) : Safe Z EL vm h x := by
  obtain ⟨cl, A, -⟩ := A
  exact Safe.arr hal A ht
end OwnKitH
theorem own_b255 (x : Int32) : ¬ (x &&& 255) < 0 ∧ ¬ (255 : Int32) < (x &&& 255) := by
  have q := c_and x 255 (by decide)
  have e0 : (0 : Int32).toInt = 0 := rfl
  have e1 : (255 : Int32).toInt = 255 := rfl
  rw [Int32.lt_iff_toInt_lt, Int32.lt_iff_toInt_lt]
  omega
theorem own_c255 {x u : Int32} (h : (x &&& (255 : Int32)).toUInt32.toUInt16.toUInt32.toInt32 = u) : ¬ u < 0 ∧ ¬ (255 : Int32) < u := by
  rw [i2c_mask] at h
  subst h
  exact own_b255 x
theorem own_mask {u : Int32} (h : ¬ u < 0 ∧ ¬ (255 : Int32) < u) : u &&& 255 = u := by
  have q := c_mask u 255 8 (by decide) (by decide)
  have e0 : (0 : Int32).toInt = 0 := rfl
  have e1 : (255 : Int32).toInt = 255 := rfl
  obtain ⟨h1, h2⟩ := h
  rw [Int32.lt_iff_toInt_lt] at h1 h2
  refine Int32.toInt_inj.mp ?_
  rw [q]
  omega
theorem own_nar {u : Int32} (h : ¬ u < 0 ∧ ¬ (255 : Int32) < u) : nar .char u = u := by
  have q := i2c_mask u
  rw [own_mask h] at q
  exact q
theorem own_all1 {a : Int32} (h1 : ¬ a < 0 ∧ ¬ (255 : Int32) < a) : ∀ x ∈ ([a] : List Int32), ¬ x < 0 ∧ ¬ (255 : Int32) < x := by
  intro x hx
  simp only [List.mem_cons, List.not_mem_nil, or_false] at hx
  rcases hx with rfl
  exact h1
theorem own_all2 {a b : Int32} (h1 : ¬ a < 0 ∧ ¬ (255 : Int32) < a) (h2 : ¬ b < 0 ∧ ¬ (255 : Int32) < b) : ∀ x ∈ ([a, b] : List Int32), ¬ x < 0 ∧ ¬ (255 : Int32) < x := by
  intro x hx
  simp only [List.mem_cons, List.not_mem_nil, or_false] at hx
  rcases hx with rfl | rfl
  · exact h1
  · exact h2
theorem own_all3 {a b c : Int32} (h1 : ¬ a < 0 ∧ ¬ (255 : Int32) < a) (h2 : ¬ b < 0 ∧ ¬ (255 : Int32) < b) (h3 : ¬ c < 0 ∧ ¬ (255 : Int32) < c) : ∀ x ∈ ([a, b, c] : List Int32), ¬ x < 0 ∧ ¬ (255 : Int32) < x := by
  intro x hx
  simp only [List.mem_cons, List.not_mem_nil, or_false] at hx
  rcases hx with rfl | rfl | rfl
  · exact h1
  · exact h2
  · exact h3
def own_ce (x : Int32) : Int32 := if x < (0 : Int32) then (0 : Int32) else if (255 : Int32) < x then (0 : Int32) else (1 : Int32)
theorem own_ce_nar (x : Int32) : narrow .boolean (.int (own_ce x)) = .int (own_ce x) := by
  unfold own_ce
  split
  · rfl
  · split <;> rfl
def own_ix0 (x1 : Int32) : Int32 := (-1 : Int32)
def own_li0 (x1 : Int32) : Int32 := if own_ce x1 = (0 : Int32) then (-1 : Int32) else own_ix0  x1
def own_ix1 (c0 : Int32) (x1 : Int32) : Int32 := if c0 = x1.toInt8.toInt32 then (0 : Int32) else (-1 : Int32)
def own_li1 (c0 : Int32) (x1 : Int32) : Int32 := if own_ce x1 = (0 : Int32) then (-1 : Int32) else own_ix1 c0 x1
def own_ix2 (c0 c1 : Int32) (x1 : Int32) : Int32 := if c0 = x1.toInt8.toInt32 then (0 : Int32) else if c1 = x1.toInt8.toInt32 then (1 : Int32) else (-1 : Int32)
def own_li2 (c0 c1 : Int32) (x1 : Int32) : Int32 := if own_ce x1 = (0 : Int32) then (-1 : Int32) else own_ix2 c0 c1 x1
def own_ix3 (c0 c1 c2 : Int32) (x1 : Int32) : Int32 := if c0 = x1.toInt8.toInt32 then (0 : Int32) else if c1 = x1.toInt8.toInt32 then (1 : Int32) else if c2 = x1.toInt8.toInt32 then (2 : Int32) else (-1 : Int32)
def own_li3 (c0 c1 c2 : Int32) (x1 : Int32) : Int32 := if own_ce x1 = (0 : Int32) then (-1 : Int32) else own_ix3 c0 c1 c2 x1
def own_ix4 (c0 c1 c2 c3 : Int32) (x1 : Int32) : Int32 := if c0 = x1.toInt8.toInt32 then (0 : Int32) else if c1 = x1.toInt8.toInt32 then (1 : Int32) else if c2 = x1.toInt8.toInt32 then (2 : Int32) else if c3 = x1.toInt8.toInt32 then (3 : Int32) else (-1 : Int32)
def own_li4 (c0 c1 c2 c3 : Int32) (x1 : Int32) : Int32 := if own_ce x1 = (0 : Int32) then (-1 : Int32) else own_ix4 c0 c1 c2 c3 x1
def own_kept (al i j : Int32) : Int32 := if al = (0 : Int32) then (if i < (0 : Int32) then (if j < (0 : Int32) then (0 : Int32) else (1 : Int32)) else (1 : Int32)) else (1 : Int32)
def own_al (x0 : Int32) : Int32 := (if x0 < (97 : Int32) then (if x0 < (65 : Int32) then (if x0 < (48 : Int32) then (0 : Int32) else (if (57 : Int32) < x0 then (0 : Int32) else (1 : Int32))) else (if (90 : Int32) < x0 then (if x0 < (48 : Int32) then (0 : Int32) else (if (57 : Int32) < x0 then (0 : Int32) else (1 : Int32))) else (1 : Int32))) else (if (122 : Int32) < x0 then (if x0 < (65 : Int32) then (if x0 < (48 : Int32) then (0 : Int32) else (if (57 : Int32) < x0 then (0 : Int32) else (1 : Int32))) else (if (90 : Int32) < x0 then (if x0 < (48 : Int32) then (0 : Int32) else (if (57 : Int32) < x0 then (0 : Int32) else (1 : Int32))) else (1 : Int32))) else (1 : Int32)))
def own_btw (x0 x1 x2 : Int32) : Int32 := if x0 < x1 then (0 : Int32) else if x2 < x0 then (0 : Int32) else (1 : Int32)
theorem own_btw_nar (x y z : Int32) : narrow .boolean (.int (own_btw x y z)) = .int (own_btw x y z) := by
  unfold own_btw
  split
  · rfl
  · split <;> rfl
theorem own_m4 {x u : Int32} (h : (((x.toUInt32 >>> ((1 : Int32) &&& 31).toUInt32).toInt32) % (4 : Int32)) = u) : u = 0 ∨ u = 1 ∨ u = 2 ∨ u = 3 := by
  have hy : 0 ≤ ((x.toUInt32 >>> ((1 : Int32) &&& 31).toUInt32).toInt32).toInt := by
    have e : (x.toUInt32 >>> ((1 : Int32) &&& 31).toUInt32).toNat < 2 ^ 31 := by
      rw [show ((1 : Int32) &&& 31).toUInt32 = 1 from rfl, UInt32.toNat_shiftRight]
      have := x.toUInt32.toNat_lt
      simp [Nat.shiftRight_eq_div_pow]
      omega
    generalize x.toUInt32 >>> ((1 : Int32) &&& 31).toUInt32 = y at e
    show 0 ≤ (y.toBitVec).toInt
    rw [BitVec.toInt_eq_toNat_cond]
    have : y.toBitVec.toNat = y.toNat := rfl
    rw [if_pos (by omega)]
    omega
  have q : u.toInt = _ := congrArg Int32.toInt h.symm
  rw [Int32.toInt_mod, show (4 : Int32).toInt = 4 from rfl] at q
  have b1 := Int.tmod_nonneg 4 hy
  have b2 := Int.tmod_lt_of_pos (((x.toUInt32 >>> ((1 : Int32) &&& 31).toUInt32).toInt32).toInt) (show (0 : Int) < 4 by decide)
  rw [← q] at b1 b2
  have e : ∀ k : Int32, u.toInt = k.toInt → u = k := fun k hk => Int32.toInt_inj.mp hk
  have : u.toInt = 0 ∨ u.toInt = 1 ∨ u.toInt = 2 ∨ u.toInt = 3 := by omega
  rcases this with t | t | t | t
  · exact Or.inl (e 0 t)
  · exact Or.inr (Or.inl (e 1 t))
  · exact Or.inr (Or.inr (Or.inl (e 2 t)))
  · exact Or.inr (Or.inr (Or.inr (e 3 t)))
theorem own_byteinj {u c : Int32} (hu : ¬ u < 0 ∧ ¬ (255 : Int32) < u) (hc : ¬ c < 0 ∧ ¬ (255 : Int32) < c) : u.toInt8.toInt32 = c.toInt8.toInt32 ↔ u = c := by
  refine ⟨fun h => ?_, fun h => by rw [h]⟩
  have e0 : (0 : Int32).toInt = 0 := rfl
  have e1 : (255 : Int32).toInt = 255 := rfl
  obtain ⟨u1, u2⟩ := hu
  obtain ⟨c1, c2⟩ := hc
  rw [Int32.lt_iff_toInt_lt] at u1 u2 c1 c2
  have q := congrArg Int32.toInt h
  rw [Int8.toInt_toInt32, Int8.toInt_toInt32, Int32.toInt_toInt8, Int32.toInt_toInt8] at q
  refine Int32.toInt_inj.mp ?_
  simp only [Int.bmod] at q
  omega
theorem own_if2 (A B : Prop) [Decidable A] [Decidable B] : (if A then (if B then (0 : Int32) else (1 : Int32)) else (1 : Int32)) = 0 ↔ A ∧ B := by
  by_cases a : A <;> by_cases b : B <;> simp [a, b]
theorem own_if3 (A B C : Prop) [Decidable A] [Decidable B] [Decidable C] : (if A then (if B then (if C then (0 : Int32) else (1 : Int32)) else (1 : Int32)) else (1 : Int32)) = if A ∧ B ∧ C then 0 else 1 := by
  by_cases a : A <;> by_cases b : B <;> by_cases c : C <;> simp [a, b, c]
theorem own_if4 (A B C D : Prop) [Decidable A] [Decidable B] [Decidable C] [Decidable D] : (if A then (if B then (if C then (if D then (0 : Int32) else (1 : Int32)) else (1 : Int32)) else (1 : Int32)) else (1 : Int32)) = if A ∧ B ∧ C ∧ D then 0 else 1 := by
  by_cases a : A <;> by_cases b : B <;> by_cases c : C <;> by_cases d : D <;> simp [a, b, c, d]
theorem own_or1' (A : Prop) [Decidable A] : (if A then (1 : Int32) else (0 : Int32)) = 0 ↔ ¬ A := by
  by_cases a : A <;> simp [a]
theorem own_or2 (A B : Prop) [Decidable A] [Decidable B] : (if A then (1 : Int32) else (if B then (1 : Int32) else (0 : Int32))) = 0 ↔ ¬ A ∧ ¬ B := by
  by_cases a : A <;> by_cases b : B <;> simp [a, b]
theorem own_or3 (A B C : Prop) [Decidable A] [Decidable B] [Decidable C] : (if A then (1 : Int32) else (if B then (1 : Int32) else (if C then (1 : Int32) else (0 : Int32)))) = 0 ↔ ¬ A ∧ ¬ B ∧ ¬ C := by
  by_cases a : A <;> by_cases b : B <;> by_cases c : C <;> simp [a, b, c]
theorem own_or4 (A B C D : Prop) [Decidable A] [Decidable B] [Decidable C] [Decidable D] : (if A then (1 : Int32) else (if B then (1 : Int32) else (if C then (1 : Int32) else (if D then (1 : Int32) else (0 : Int32))))) = 0 ↔ ¬ A ∧ ¬ B ∧ ¬ C ∧ ¬ D := by
  by_cases a : A <;> by_cases b : B <;> by_cases c : C <;> by_cases d : D <;> simp [a, b, c, d]
theorem own_ce_in {c : Int32} (h : ¬ own_ce c = 0) : ¬ c < 0 ∧ ¬ (255 : Int32) < c := by
  unfold own_ce at h
  by_cases a : c < 0
  · simp [a] at h
  · by_cases b : (255 : Int32) < c
    · simp [a, b] at h
    · exact ⟨a, b⟩
theorem own_ce_ne {c u : Int32} (h : own_ce c = 0) (hu : ¬ u < 0 ∧ ¬ (255 : Int32) < u) : ¬ c = u := fun e => by
  subst e
  unfold own_ce at h
  rw [if_neg hu.1, if_neg hu.2] at h
  cases h
theorem own_al_iff (c : Int32) : own_al c = 0 ↔ own_btw c 97 122 = 0 ∧ own_btw c 65 90 = 0 ∧ own_btw c 48 57 = 0 := by
  unfold own_al own_btw
  by_cases a1 : c < (97 : Int32) <;> by_cases a2 : (122 : Int32) < c <;> by_cases a3 : c < (65 : Int32) <;> by_cases a4 : (90 : Int32) < c <;> by_cases a5 : c < (48 : Int32) <;> by_cases a6 : (57 : Int32) < c <;> simp [a1, a2, a3, a4, a5, a6]

theorem own_li0_iff {c  : Int32}  : own_li0  c < (0 : Int32) ↔ True := by
  unfold own_li0 own_ix0
  by_cases hc : own_ce c = 0
  · rw [if_pos hc]
    exact ⟨fun _ => trivial, fun _ => by decide⟩
  · rw [if_neg hc]
    exact ⟨fun _ => trivial, fun _ => by decide⟩
theorem own_li1_iff {c u0 : Int32} (h0 : ¬ u0 < 0 ∧ ¬ (255 : Int32) < u0) : own_li1 (u0.toInt8.toInt32) c < (0 : Int32) ↔ ¬ c = u0 := by
  unfold own_li1 own_ix1
  by_cases hc : own_ce c = 0
  · rw [if_pos hc]
    exact ⟨fun _ => own_ce_ne hc h0, fun _ => by decide⟩
  · rw [if_neg hc]
    have r := own_ce_in hc
    simp only [own_byteinj h0 r]
    by_cases e0 : u0 = c <;> simp [e0, eq_comm (a := c) (b := u0)]
theorem own_li2_iff {c u0 u1 : Int32} (h0 : ¬ u0 < 0 ∧ ¬ (255 : Int32) < u0) (h1 : ¬ u1 < 0 ∧ ¬ (255 : Int32) < u1) : own_li2 (u0.toInt8.toInt32) (u1.toInt8.toInt32) c < (0 : Int32) ↔ ¬ c = u0 ∧ ¬ c = u1 := by
  unfold own_li2 own_ix2
  by_cases hc : own_ce c = 0
  · rw [if_pos hc]
    exact ⟨fun _ => ⟨own_ce_ne hc h0, own_ce_ne hc h1⟩, fun _ => by decide⟩
  · rw [if_neg hc]
    have r := own_ce_in hc
    simp only [own_byteinj h0 r, own_byteinj h1 r]
    by_cases e0 : u0 = c <;> by_cases e1 : u1 = c <;> simp [e0, eq_comm (a := c) (b := u0), e1, eq_comm (a := c) (b := u1)]
theorem own_li3_iff {c u0 u1 u2 : Int32} (h0 : ¬ u0 < 0 ∧ ¬ (255 : Int32) < u0) (h1 : ¬ u1 < 0 ∧ ¬ (255 : Int32) < u1) (h2 : ¬ u2 < 0 ∧ ¬ (255 : Int32) < u2) : own_li3 (u0.toInt8.toInt32) (u1.toInt8.toInt32) (u2.toInt8.toInt32) c < (0 : Int32) ↔ ¬ c = u0 ∧ ¬ c = u1 ∧ ¬ c = u2 := by
  unfold own_li3 own_ix3
  by_cases hc : own_ce c = 0
  · rw [if_pos hc]
    exact ⟨fun _ => ⟨own_ce_ne hc h0, own_ce_ne hc h1, own_ce_ne hc h2⟩, fun _ => by decide⟩
  · rw [if_neg hc]
    have r := own_ce_in hc
    simp only [own_byteinj h0 r, own_byteinj h1 r, own_byteinj h2 r]
    by_cases e0 : u0 = c <;> by_cases e1 : u1 = c <;> by_cases e2 : u2 = c <;> simp [e0, eq_comm (a := c) (b := u0), e1, eq_comm (a := c) (b := u1), e2, eq_comm (a := c) (b := u2)]
theorem own_li4_iff {c u0 u1 u2 u3 : Int32} (h0 : ¬ u0 < 0 ∧ ¬ (255 : Int32) < u0) (h1 : ¬ u1 < 0 ∧ ¬ (255 : Int32) < u1) (h2 : ¬ u2 < 0 ∧ ¬ (255 : Int32) < u2) (h3 : ¬ u3 < 0 ∧ ¬ (255 : Int32) < u3) : own_li4 (u0.toInt8.toInt32) (u1.toInt8.toInt32) (u2.toInt8.toInt32) (u3.toInt8.toInt32) c < (0 : Int32) ↔ ¬ c = u0 ∧ ¬ c = u1 ∧ ¬ c = u2 ∧ ¬ c = u3 := by
  unfold own_li4 own_ix4
  by_cases hc : own_ce c = 0
  · rw [if_pos hc]
    exact ⟨fun _ => ⟨own_ce_ne hc h0, own_ce_ne hc h1, own_ce_ne hc h2, own_ce_ne hc h3⟩, fun _ => by decide⟩
  · rw [if_neg hc]
    have r := own_ce_in hc
    simp only [own_byteinj h0 r, own_byteinj h1 r, own_byteinj h2 r, own_byteinj h3 r]
    by_cases e0 : u0 = c <;> by_cases e1 : u1 = c <;> by_cases e2 : u2 = c <;> by_cases e3 : u3 = c <;> simp [e0, eq_comm (a := c) (b := u0), e1, eq_comm (a := c) (b := u1), e2, eq_comm (a := c) (b := u2), e3, eq_comm (a := c) (b := u3)]
theorem own_fin0 {v15_1 u29_5 u40_6 u51_7 u103_17 : Int32} (r0 : ¬ u29_5 < 0 ∧ ¬ (255 : Int32) < u29_5) (r1 : ¬ u40_6 < 0 ∧ ¬ (255 : Int32) < u40_6) (r2 : ¬ u51_7 < 0 ∧ ¬ (255 : Int32) < u51_7) {v93_10 : Int32} (hv93_10 : v93_10 = (if (own_btw v15_1 (97 : Int32) (122 : Int32)) = (0 : Int32) then (if (own_btw v15_1 (65 : Int32) (90 : Int32)) = (0 : Int32) then (0 : Int32) else (1 : Int32)) else (1 : Int32))) {v134_18 : Int32} (hv134_18 : v134_18 = (if v15_1 = (45 : Int32) then (1 : Int32) else (if v15_1 = (46 : Int32) then (1 : Int32) else (if v15_1 = (95 : Int32) then (1 : Int32) else (if v15_1 = (126 : Int32) then (1 : Int32) else (0 : Int32)))))) {v204_24 : Int32} (hv204_24 : v204_24 = (if v93_10 = (0 : Int32) then (if u103_17 = (0 : Int32) then (if v134_18 = (0 : Int32) then (0 : Int32) else (1 : Int32)) else (1 : Int32)) else (1 : Int32))) {v222_30 : Int32} (hv222_30 : v222_30 = (if (own_kept (own_al v15_1) (own_li4 (45 : Int32) (46 : Int32) (95 : Int32) (126 : Int32) v15_1) (own_li0  v15_1)) = v204_24 then (1 : Int32) else (0 : Int32))) (hu103_17 : (own_btw v15_1 (48 : Int32) (57 : Int32)) = u103_17) : v222_30 = 1 := by
  have hm : own_li4 (45 : Int32) (46 : Int32) (95 : Int32) (126 : Int32) v15_1 < (0 : Int32) ↔ ¬ v15_1 = 45 ∧ ¬ v15_1 = 46 ∧ ¬ v15_1 = 95 ∧ ¬ v15_1 = 126 := own_li4_iff (c := v15_1) (u0 := 45) (u1 := 46) (u2 := 95) (u3 := 126) (by decide) (by decide) (by decide) (by decide)
  have hl := own_li0_iff (c := v15_1)  
  have ha := own_al_iff v15_1
  have g1 : v93_10 = 0 ↔ own_btw v15_1 97 122 = 0 ∧ own_btw v15_1 65 90 = 0 := by rw [hv93_10]; exact own_if2 _ _
  have g2 : v134_18 = 0 ↔ ¬ v15_1 = 45 ∧ ¬ v15_1 = 46 ∧ ¬ v15_1 = 95 ∧ ¬ v15_1 = 126 := by rw [hv134_18]; exact own_or4 _ _ _ _
  have key : (own_al v15_1 = 0 ∧ own_li4 (45 : Int32) (46 : Int32) (95 : Int32) (126 : Int32) v15_1 < (0 : Int32) ∧ own_li0  v15_1 < (0 : Int32)) ↔ (v93_10 = 0 ∧ u103_17 = 0 ∧ v134_18 = 0) := by
    rw [ha, hm, hl, g1, g2, ← hu103_17]
    exact ⟨fun ⟨⟨a, b, c⟩, d, e⟩ => ⟨⟨a, b⟩, c, d⟩, fun ⟨⟨a, b⟩, c, d⟩ => ⟨⟨a, b, c⟩, d, trivial⟩⟩
  rw [hv222_30, if_pos]
  rw [hv204_24]
  unfold own_kept
  rw [own_if3, own_if3]
  by_cases hA : (own_al v15_1 = 0 ∧ own_li4 (45 : Int32) (46 : Int32) (95 : Int32) (126 : Int32) v15_1 < (0 : Int32) ∧ own_li0  v15_1 < (0 : Int32))
  · rw [if_pos hA, if_pos (key.mp hA)]
  · rw [if_neg hA, if_neg (fun b => hA (key.mpr b))]
theorem own_fin1 {v15_1 u29_5 u40_6 u51_7 u103_42 : Int32} (r0 : ¬ u29_5 < 0 ∧ ¬ (255 : Int32) < u29_5) (r1 : ¬ u40_6 < 0 ∧ ¬ (255 : Int32) < u40_6) (r2 : ¬ u51_7 < 0 ∧ ¬ (255 : Int32) < u51_7) {v93_35 : Int32} (hv93_35 : v93_35 = (if (own_btw v15_1 (97 : Int32) (122 : Int32)) = (0 : Int32) then (if (own_btw v15_1 (65 : Int32) (90 : Int32)) = (0 : Int32) then (0 : Int32) else (1 : Int32)) else (1 : Int32))) {v134_43 : Int32} (hv134_43 : v134_43 = (if v15_1 = (45 : Int32) then (1 : Int32) else (if v15_1 = (46 : Int32) then (1 : Int32) else (if v15_1 = (95 : Int32) then (1 : Int32) else (if v15_1 = (126 : Int32) then (1 : Int32) else (0 : Int32)))))) {v177_49 : Int32} (hv177_49 : v177_49 = (if v15_1 = u29_5 then (1 : Int32) else (0 : Int32))) {v204_52 : Int32} (hv204_52 : v204_52 = (if v93_35 = (0 : Int32) then (if u103_42 = (0 : Int32) then (if v134_43 = (0 : Int32) then (if v177_49 = (0 : Int32) then (0 : Int32) else (1 : Int32)) else (1 : Int32)) else (1 : Int32)) else (1 : Int32))) {v222_59 : Int32} (hv222_59 : v222_59 = (if (own_kept (own_al v15_1) (own_li4 (45 : Int32) (46 : Int32) (95 : Int32) (126 : Int32) v15_1) (own_li1 (u29_5.toInt8.toInt32) v15_1)) = v204_52 then (1 : Int32) else (0 : Int32))) (hu103_42 : (own_btw v15_1 (48 : Int32) (57 : Int32)) = u103_42) : v222_59 = 1 := by
  have hm : own_li4 (45 : Int32) (46 : Int32) (95 : Int32) (126 : Int32) v15_1 < (0 : Int32) ↔ ¬ v15_1 = 45 ∧ ¬ v15_1 = 46 ∧ ¬ v15_1 = 95 ∧ ¬ v15_1 = 126 := own_li4_iff (c := v15_1) (u0 := 45) (u1 := 46) (u2 := 95) (u3 := 126) (by decide) (by decide) (by decide) (by decide)
  have hl := own_li1_iff (c := v15_1) (u0 := u29_5) r0
  have ha := own_al_iff v15_1
  have g1 : v93_35 = 0 ↔ own_btw v15_1 97 122 = 0 ∧ own_btw v15_1 65 90 = 0 := by rw [hv93_35]; exact own_if2 _ _
  have g2 : v134_43 = 0 ↔ ¬ v15_1 = 45 ∧ ¬ v15_1 = 46 ∧ ¬ v15_1 = 95 ∧ ¬ v15_1 = 126 := by rw [hv134_43]; exact own_or4 _ _ _ _
  have g3 : v177_49 = 0 ↔ ¬ v15_1 = u29_5 := by rw [hv177_49]; exact own_or1' _
  have key : (own_al v15_1 = 0 ∧ own_li4 (45 : Int32) (46 : Int32) (95 : Int32) (126 : Int32) v15_1 < (0 : Int32) ∧ own_li1 (u29_5.toInt8.toInt32) v15_1 < (0 : Int32)) ↔ (v93_35 = 0 ∧ u103_42 = 0 ∧ v134_43 = 0 ∧ v177_49 = 0) := by
    rw [ha, hm, hl, g1, g2, g3, ← hu103_42]
    exact ⟨fun ⟨⟨a, b, c⟩, d, e⟩ => ⟨⟨a, b⟩, c, d, e⟩, fun ⟨⟨a, b⟩, c, d, e⟩ => ⟨⟨a, b, c⟩, d, e⟩⟩
  rw [hv222_59, if_pos]
  rw [hv204_52]
  unfold own_kept
  rw [own_if3, own_if4]
  by_cases hA : (own_al v15_1 = 0 ∧ own_li4 (45 : Int32) (46 : Int32) (95 : Int32) (126 : Int32) v15_1 < (0 : Int32) ∧ own_li1 (u29_5.toInt8.toInt32) v15_1 < (0 : Int32))
  · rw [if_pos hA, if_pos (key.mp hA)]
  · rw [if_neg hA, if_neg (fun b => hA (key.mpr b))]
theorem own_fin2 {v15_1 u29_5 u40_6 u51_7 u103_71 : Int32} (r0 : ¬ u29_5 < 0 ∧ ¬ (255 : Int32) < u29_5) (r1 : ¬ u40_6 < 0 ∧ ¬ (255 : Int32) < u40_6) (r2 : ¬ u51_7 < 0 ∧ ¬ (255 : Int32) < u51_7) {v93_64 : Int32} (hv93_64 : v93_64 = (if (own_btw v15_1 (97 : Int32) (122 : Int32)) = (0 : Int32) then (if (own_btw v15_1 (65 : Int32) (90 : Int32)) = (0 : Int32) then (0 : Int32) else (1 : Int32)) else (1 : Int32))) {v134_72 : Int32} (hv134_72 : v134_72 = (if v15_1 = (45 : Int32) then (1 : Int32) else (if v15_1 = (46 : Int32) then (1 : Int32) else (if v15_1 = (95 : Int32) then (1 : Int32) else (if v15_1 = (126 : Int32) then (1 : Int32) else (0 : Int32)))))) {v177_78 : Int32} (hv177_78 : v177_78 = (if v15_1 = u29_5 then (1 : Int32) else (if v15_1 = u40_6 then (1 : Int32) else (0 : Int32)))) {v204_82 : Int32} (hv204_82 : v204_82 = (if v93_64 = (0 : Int32) then (if u103_71 = (0 : Int32) then (if v134_72 = (0 : Int32) then (if v177_78 = (0 : Int32) then (0 : Int32) else (1 : Int32)) else (1 : Int32)) else (1 : Int32)) else (1 : Int32))) {v222_89 : Int32} (hv222_89 : v222_89 = (if (own_kept (own_al v15_1) (own_li4 (45 : Int32) (46 : Int32) (95 : Int32) (126 : Int32) v15_1) (own_li2 (u29_5.toInt8.toInt32) (u40_6.toInt8.toInt32) v15_1)) = v204_82 then (1 : Int32) else (0 : Int32))) (hu103_71 : (own_btw v15_1 (48 : Int32) (57 : Int32)) = u103_71) : v222_89 = 1 := by
  have hm : own_li4 (45 : Int32) (46 : Int32) (95 : Int32) (126 : Int32) v15_1 < (0 : Int32) ↔ ¬ v15_1 = 45 ∧ ¬ v15_1 = 46 ∧ ¬ v15_1 = 95 ∧ ¬ v15_1 = 126 := own_li4_iff (c := v15_1) (u0 := 45) (u1 := 46) (u2 := 95) (u3 := 126) (by decide) (by decide) (by decide) (by decide)
  have hl := own_li2_iff (c := v15_1) (u0 := u29_5) (u1 := u40_6) r0 r1
  have ha := own_al_iff v15_1
  have g1 : v93_64 = 0 ↔ own_btw v15_1 97 122 = 0 ∧ own_btw v15_1 65 90 = 0 := by rw [hv93_64]; exact own_if2 _ _
  have g2 : v134_72 = 0 ↔ ¬ v15_1 = 45 ∧ ¬ v15_1 = 46 ∧ ¬ v15_1 = 95 ∧ ¬ v15_1 = 126 := by rw [hv134_72]; exact own_or4 _ _ _ _
  have g3 : v177_78 = 0 ↔ ¬ v15_1 = u29_5 ∧ ¬ v15_1 = u40_6 := by rw [hv177_78]; exact own_or2 _ _
  have key : (own_al v15_1 = 0 ∧ own_li4 (45 : Int32) (46 : Int32) (95 : Int32) (126 : Int32) v15_1 < (0 : Int32) ∧ own_li2 (u29_5.toInt8.toInt32) (u40_6.toInt8.toInt32) v15_1 < (0 : Int32)) ↔ (v93_64 = 0 ∧ u103_71 = 0 ∧ v134_72 = 0 ∧ v177_78 = 0) := by
    rw [ha, hm, hl, g1, g2, g3, ← hu103_71]
    exact ⟨fun ⟨⟨a, b, c⟩, d, e⟩ => ⟨⟨a, b⟩, c, d, e⟩, fun ⟨⟨a, b⟩, c, d, e⟩ => ⟨⟨a, b, c⟩, d, e⟩⟩
  rw [hv222_89, if_pos]
  rw [hv204_82]
  unfold own_kept
  rw [own_if3, own_if4]
  by_cases hA : (own_al v15_1 = 0 ∧ own_li4 (45 : Int32) (46 : Int32) (95 : Int32) (126 : Int32) v15_1 < (0 : Int32) ∧ own_li2 (u29_5.toInt8.toInt32) (u40_6.toInt8.toInt32) v15_1 < (0 : Int32))
  · rw [if_pos hA, if_pos (key.mp hA)]
  · rw [if_neg hA, if_neg (fun b => hA (key.mpr b))]
theorem own_fin3 {v15_1 u29_5 u40_6 u51_7 u103_101 : Int32} (r0 : ¬ u29_5 < 0 ∧ ¬ (255 : Int32) < u29_5) (r1 : ¬ u40_6 < 0 ∧ ¬ (255 : Int32) < u40_6) (r2 : ¬ u51_7 < 0 ∧ ¬ (255 : Int32) < u51_7) {v93_94 : Int32} (hv93_94 : v93_94 = (if (own_btw v15_1 (97 : Int32) (122 : Int32)) = (0 : Int32) then (if (own_btw v15_1 (65 : Int32) (90 : Int32)) = (0 : Int32) then (0 : Int32) else (1 : Int32)) else (1 : Int32))) {v134_102 : Int32} (hv134_102 : v134_102 = (if v15_1 = (45 : Int32) then (1 : Int32) else (if v15_1 = (46 : Int32) then (1 : Int32) else (if v15_1 = (95 : Int32) then (1 : Int32) else (if v15_1 = (126 : Int32) then (1 : Int32) else (0 : Int32)))))) {v177_108 : Int32} (hv177_108 : v177_108 = (if v15_1 = u29_5 then (1 : Int32) else (if v15_1 = u40_6 then (1 : Int32) else (if v15_1 = u51_7 then (1 : Int32) else (0 : Int32))))) {v204_113 : Int32} (hv204_113 : v204_113 = (if v93_94 = (0 : Int32) then (if u103_101 = (0 : Int32) then (if v134_102 = (0 : Int32) then (if v177_108 = (0 : Int32) then (0 : Int32) else (1 : Int32)) else (1 : Int32)) else (1 : Int32)) else (1 : Int32))) {v222_120 : Int32} (hv222_120 : v222_120 = (if (own_kept (own_al v15_1) (own_li4 (45 : Int32) (46 : Int32) (95 : Int32) (126 : Int32) v15_1) (own_li3 (u29_5.toInt8.toInt32) (u40_6.toInt8.toInt32) (u51_7.toInt8.toInt32) v15_1)) = v204_113 then (1 : Int32) else (0 : Int32))) (hu103_101 : (own_btw v15_1 (48 : Int32) (57 : Int32)) = u103_101) : v222_120 = 1 := by
  have hm : own_li4 (45 : Int32) (46 : Int32) (95 : Int32) (126 : Int32) v15_1 < (0 : Int32) ↔ ¬ v15_1 = 45 ∧ ¬ v15_1 = 46 ∧ ¬ v15_1 = 95 ∧ ¬ v15_1 = 126 := own_li4_iff (c := v15_1) (u0 := 45) (u1 := 46) (u2 := 95) (u3 := 126) (by decide) (by decide) (by decide) (by decide)
  have hl := own_li3_iff (c := v15_1) (u0 := u29_5) (u1 := u40_6) (u2 := u51_7) r0 r1 r2
  have ha := own_al_iff v15_1
  have g1 : v93_94 = 0 ↔ own_btw v15_1 97 122 = 0 ∧ own_btw v15_1 65 90 = 0 := by rw [hv93_94]; exact own_if2 _ _
  have g2 : v134_102 = 0 ↔ ¬ v15_1 = 45 ∧ ¬ v15_1 = 46 ∧ ¬ v15_1 = 95 ∧ ¬ v15_1 = 126 := by rw [hv134_102]; exact own_or4 _ _ _ _
  have g3 : v177_108 = 0 ↔ ¬ v15_1 = u29_5 ∧ ¬ v15_1 = u40_6 ∧ ¬ v15_1 = u51_7 := by rw [hv177_108]; exact own_or3 _ _ _
  have key : (own_al v15_1 = 0 ∧ own_li4 (45 : Int32) (46 : Int32) (95 : Int32) (126 : Int32) v15_1 < (0 : Int32) ∧ own_li3 (u29_5.toInt8.toInt32) (u40_6.toInt8.toInt32) (u51_7.toInt8.toInt32) v15_1 < (0 : Int32)) ↔ (v93_94 = 0 ∧ u103_101 = 0 ∧ v134_102 = 0 ∧ v177_108 = 0) := by
    rw [ha, hm, hl, g1, g2, g3, ← hu103_101]
    exact ⟨fun ⟨⟨a, b, c⟩, d, e⟩ => ⟨⟨a, b⟩, c, d, e⟩, fun ⟨⟨a, b⟩, c, d, e⟩ => ⟨⟨a, b, c⟩, d, e⟩⟩
  rw [hv222_120, if_pos]
  rw [hv204_113]
  unfold own_kept
  rw [own_if3, own_if4]
  by_cases hA : (own_al v15_1 = 0 ∧ own_li4 (45 : Int32) (46 : Int32) (95 : Int32) (126 : Int32) v15_1 < (0 : Int32) ∧ own_li3 (u29_5.toInt8.toInt32) (u40_6.toInt8.toInt32) (u51_7.toInt8.toInt32) v15_1 < (0 : Int32))
  · rw [if_pos hA, if_pos (key.mp hA)]
  · rw [if_neg hA, if_neg (fun b => hA (key.mpr b))]
theorem Wd86 {Z : State} {a0 : Array Value} (hw : ∀ d ∈ tables_1, d.before a0 Z = true) : ((Jvm.Cond.stringLink "java/lang/String" (7 : Nat) "") : Jvm.Cond).before a0 Z = true := hw _ (List.mem_of_getElem? (i := 86) rfl)
theorem Wd41 {Z : State} {a0 : Array Value} (hw : ∀ d ∈ tables_1, d.before a0 Z = true) : ((Jvm.Cond.stringLink "com/example/triad/triad/rest/PercentEncoding" (9 : Nat) "-._~") : Jvm.Cond).before a0 Z = true := hw _ (List.mem_of_getElem? (i := 41) rfl)
theorem ef0 (m : MethodId) (x0 : Addr) (x1 : Addr) (x2 : Int32) (x3 : Int32) : entryFrame m #[(.ref x0), (.ref x1), (.int x2), (.int x3), .null] 6 = mkF m 0 #[.val (.ref x0), .val (.ref x1), .val (.int x2), .val (.int x3), .val .null, .unset] [] := by first | (simp [entryFrame, mkF, argsToLocals, Value.category]; done) | rfl
theorem pn0 : plainName "java/lang/String" = true := by first | (simp [plainName, overriddenIn]; done) | decide +kernel
theorem d3_0 : decode jdk_42_method_149_code 0 = .ok (.aload_n 0, 1) := by decide +kernel
theorem Wd15 {Z : State} {a0 : Array Value} (hw : ∀ d ∈ tables_1, d.before a0 Z = true) : ((Jvm.Cond.methodLink "java/lang/String" (1 : Nat) ({ cls := "java/lang/Object", name := "<init>", desc := "()V" } : Jvm.MethodName)) : Jvm.Cond).before a0 Z = true := hw _ (List.mem_of_getElem? (i := 15) rfl)
theorem Wd16 {Z : State} {a0 : Array Value} (hw : ∀ d ∈ tables_1, d.before a0 Z = true) : ((Jvm.Cond.instanceMethod ({ cls := "java/lang/Object", name := "<init>", desc := "()V" } : Jvm.MethodName)) : Jvm.Cond).before a0 Z = true := hw _ (List.mem_of_getElem? (i := 16) rfl)
theorem Wd17 {Z : State} {a0 : Array Value} (hw : ∀ d ∈ tables_1, d.before a0 Z = true) : ((Jvm.Cond.code ({ cls := "java/lang/Object", name := "<init>", desc := "()V" } : Jvm.MethodName) object_method_1_code (1 : Nat) (Option.none : Option Jvm.ClassFile.FieldType)) : Jvm.Cond).before a0 Z = true := hw _ (List.mem_of_getElem? (i := 17) rfl)
theorem d3_1 : decode jdk_42_method_149_code 1 = .ok (.invokespecial 1, 3) := by decide +kernel
theorem d3_4 : decode jdk_42_method_149_code 4 = .ok (.iload_n 3, 1) := by decide +kernel
theorem d3_5 : decode jdk_42_method_149_code 5 = .ok (.ifCond .ne 22, 3) := by decide +kernel
theorem d3_8 : decode jdk_42_method_149_code 8 = .ok (.aload_n 0, 1) := by decide +kernel
theorem d3_9 : decode jdk_42_method_149_code 9 = .ok (.ldc 7, 2) := by decide +kernel
theorem d3_11 : decode jdk_42_method_149_code 11 = .ok (.getfield 9, 3) := by decide +kernel
theorem Wd32 {Z : State} {a0 : Array Value} (hw : ∀ d ∈ tables_1, d.before a0 Z = true) : ((Jvm.Cond.fieldLink "java/lang/String" (9 : Nat) "java/lang/String" "value" "[B") : Jvm.Cond).before a0 Z = true := hw _ (List.mem_of_getElem? (i := 32) rfl)
theorem d3_14 : decode jdk_42_method_149_code 14 = .ok (.putfield 9, 3) := by decide +kernel
theorem Wd33 {Z : State} {a0 : Array Value} (hw : ∀ d ∈ tables_1, d.before a0 Z = true) : ((Jvm.Cond.laysFinal "java/lang/String" "java/lang/String" "value" "[B") : Jvm.Cond).before a0 Z = true := hw _ (List.mem_of_getElem? (i := 33) rfl)
theorem Wd5 {Z : State} {a0 : Array Value} (hw : ∀ d ∈ tables_1, d.before a0 Z = true) : ((Jvm.Cond.instantiable "java/lang/String" (4 : Nat)) : Jvm.Cond).before a0 Z = true := hw _ (List.mem_of_getElem? (i := 5) rfl)
theorem d3_17 : decode jdk_42_method_149_code 17 = .ok (.aload_n 0, 1) := by decide +kernel
theorem d3_18 : decode jdk_42_method_149_code 18 = .ok (.ldc 7, 2) := by decide +kernel
theorem d3_20 : decode jdk_42_method_149_code 20 = .ok (.getfield 15, 3) := by decide +kernel
theorem Wd30 {Z : State} {a0 : Array Value} (hw : ∀ d ∈ tables_1, d.before a0 Z = true) : ((Jvm.Cond.fieldLink "java/lang/String" (15 : Nat) "java/lang/String" "coder" "B") : Jvm.Cond).before a0 Z = true := hw _ (List.mem_of_getElem? (i := 30) rfl)
theorem d3_23 : decode jdk_42_method_149_code 23 = .ok (.putfield 15, 3) := by decide +kernel
theorem Wd31 {Z : State} {a0 : Array Value} (hw : ∀ d ∈ tables_1, d.before a0 Z = true) : ((Jvm.Cond.laysFinal "java/lang/String" "java/lang/String" "coder" "B") : Jvm.Cond).before a0 Z = true := hw _ (List.mem_of_getElem? (i := 31) rfl)
theorem d3_26 : decode jdk_42_method_149_code 26 = .ok (.return_, 1) := by decide +kernel
theorem ef1 (m : MethodId) (x0 : Addr) (x1 : Addr) : entryFrame m #[(.ref x0), (.ref x1)] 2 = mkF m 0 #[.val (.ref x0), .val (.ref x1)] [] := by first | (simp [entryFrame, mkF, argsToLocals, Value.category]; done) | rfl
theorem d2_0 : decode jdk_42_method_3_code 0 = .ok (.aload_n 0, 1) := by decide +kernel
theorem d2_1 : decode jdk_42_method_3_code 1 = .ok (.aload_n 1, 1) := by decide +kernel
theorem d2_2 : decode jdk_42_method_3_code 2 = .ok (.iconst 0, 1) := by decide +kernel
theorem d2_3 : decode jdk_42_method_3_code 3 = .ok (.aload_n 1, 1) := by decide +kernel
theorem d2_4 : decode jdk_42_method_3_code 4 = .ok (.arraylength, 1) := by decide +kernel
theorem d2_5 : decode jdk_42_method_3_code 5 = .ok (.aconst_null, 1) := by decide +kernel
theorem Wd11 {Z : State} {a0 : Array Value} (hw : ∀ d ∈ tables_1, d.before a0 Z = true) : ((Jvm.Cond.methodLink "java/lang/String" (27 : Nat) ({ cls := "java/lang/String", name := "<init>", desc := "([CIILjava/lang/Void;)V" } : Jvm.MethodName)) : Jvm.Cond).before a0 Z = true := hw _ (List.mem_of_getElem? (i := 11) rfl)
theorem Wd14 {Z : State} {a0 : Array Value} (hw : ∀ d ∈ tables_1, d.before a0 Z = true) : ((Jvm.Cond.code ({ cls := "java/lang/String", name := "<init>", desc := "([CIILjava/lang/Void;)V" } : Jvm.MethodName) jdk_42_method_149_code (6 : Nat) (Option.none : Option Jvm.ClassFile.FieldType)) : Jvm.Cond).before a0 Z = true := hw _ (List.mem_of_getElem? (i := 14) rfl)
theorem Wd6 {Z : State} {a0 : Array Value} (hw : ∀ d ∈ tables_1, d.before a0 Z = true) : ((Jvm.Cond.initialized "java/lang/String") : Jvm.Cond).before a0 Z = true := hw _ (List.mem_of_getElem? (i := 6) rfl)
theorem pd0 : parseMethodDescriptor "([CIILjava/lang/Void;)V" = some ⟨[(.array .char), .int, .int, (.object "java/lang/Void")], none⟩ := by decide +kernel
theorem d2_6 : decode jdk_42_method_3_code 6 = .ok (.invokespecial 27, 3) := by decide +kernel
theorem Wd12 {Z : State} {a0 : Array Value} (hw : ∀ d ∈ tables_1, d.before a0 Z = true) : ((Jvm.Cond.instanceMethod ({ cls := "java/lang/String", name := "<init>", desc := "([CIILjava/lang/Void;)V" } : Jvm.MethodName)) : Jvm.Cond).before a0 Z = true := hw _ (List.mem_of_getElem? (i := 12) rfl)
theorem d2_9 : decode jdk_42_method_3_code 9 = .ok (.return_, 1) := by decide +kernel
theorem ef2 (m : MethodId) (x0 : Addr) : entryFrame m #[(.ref x0)] 1 = mkF m 0 #[.val (.ref x0)] [] := by first | (simp [entryFrame, mkF, argsToLocals, Value.category]; done) | rfl
theorem d12_0 : decode jdk_42_method_154_code 0 = .ok (.getstatic 38, 3) := by decide +kernel
theorem Wd18 {Z : State} {a0 : Array Value} (hw : ∀ d ∈ tables_1, d.before a0 Z = true) : ((Jvm.Cond.fieldLink "java/lang/String" (38 : Nat) "java/lang/String" "COMPACT_STRINGS" "Z") : Jvm.Cond).before a0 Z = true := hw _ (List.mem_of_getElem? (i := 18) rfl)
theorem d12_3 : decode jdk_42_method_154_code 3 = .ok (.ifCond .eq 14, 3) := by decide +kernel
theorem d12_6 : decode jdk_42_method_154_code 6 = .ok (.aload_n 0, 1) := by decide +kernel
theorem d12_7 : decode jdk_42_method_154_code 7 = .ok (.getfield 15, 3) := by decide +kernel
theorem d12_10 : decode jdk_42_method_154_code 10 = .ok (.ifCond .ne 7, 3) := by decide +kernel
theorem d12_13 : decode jdk_42_method_154_code 13 = .ok (.iconst 1, 1) := by decide +kernel
theorem d12_14 : decode jdk_42_method_154_code 14 = .ok (.goto 4, 3) := by decide +kernel
theorem d12_18 : decode jdk_42_method_154_code 18 = .ok (.ireturn, 1) := by decide +kernel
theorem d14_0 : decode jdk_42_method_152_code 0 = .ok (.getstatic 38, 3) := by decide +kernel
theorem d14_3 : decode jdk_42_method_152_code 3 = .ok (.ifCond .eq 10, 3) := by decide +kernel
theorem d14_6 : decode jdk_42_method_152_code 6 = .ok (.aload_n 0, 1) := by decide +kernel
theorem d14_7 : decode jdk_42_method_152_code 7 = .ok (.getfield 15, 3) := by decide +kernel
theorem d14_10 : decode jdk_42_method_152_code 10 = .ok (.goto 4, 3) := by decide +kernel
theorem d14_14 : decode jdk_42_method_152_code 14 = .ok (.ireturn, 1) := by decide +kernel
theorem d13_0 : decode jdk_42_method_54_code 0 = .ok (.aload_n 0, 1) := by decide +kernel
theorem d13_1 : decode jdk_42_method_54_code 1 = .ok (.getfield 9, 3) := by decide +kernel
theorem d13_4 : decode jdk_42_method_54_code 4 = .ok (.arraylength, 1) := by decide +kernel
theorem d13_5 : decode jdk_42_method_54_code 5 = .ok (.aload_n 0, 1) := by decide +kernel
theorem Wd64 {Z : State} {a0 : Array Value} (hw : ∀ d ∈ tables_1, d.before a0 Z = true) : ((Jvm.Cond.methodLink "java/lang/String" (335 : Nat) ({ cls := "java/lang/String", name := "coder", desc := "()B" } : Jvm.MethodName)) : Jvm.Cond).before a0 Z = true := hw _ (List.mem_of_getElem? (i := 64) rfl)
theorem Wd67 {Z : State} {a0 : Array Value} (hw : ∀ d ∈ tables_1, d.before a0 Z = true) : ((Jvm.Cond.selects "java/lang/String" ({ cls := "java/lang/String", name := "coder", desc := "()B" } : Jvm.MethodName) ({ cls := "java/lang/String", name := "coder", desc := "()B" } : Jvm.MethodName)) : Jvm.Cond).before a0 Z = true := hw _ (List.mem_of_getElem? (i := 67) rfl)
theorem Wd68 {Z : State} {a0 : Array Value} (hw : ∀ d ∈ tables_1, d.before a0 Z = true) : ((Jvm.Cond.code ({ cls := "java/lang/String", name := "coder", desc := "()B" } : Jvm.MethodName) jdk_42_method_152_code (1 : Nat) (Option.some Jvm.ClassFile.FieldType.byte)) : Jvm.Cond).before a0 Z = true := hw _ (List.mem_of_getElem? (i := 68) rfl)
theorem pd1 : parseMethodDescriptor "()B" = some ⟨[], some .byte⟩ := by decide +kernel
theorem d13_6 : decode jdk_42_method_54_code 6 = .ok (.invokevirtual 335, 3) := by decide +kernel
theorem Wd65 {Z : State} {a0 : Array Value} (hw : ∀ d ∈ tables_1, d.before a0 Z = true) : ((Jvm.Cond.declares ({ cls := "java/lang/String", name := "coder", desc := "()B" } : Jvm.MethodName)) : Jvm.Cond).before a0 Z = true := hw _ (List.mem_of_getElem? (i := 65) rfl)
theorem Wd66 {Z : State} {a0 : Array Value} (hw : ∀ d ∈ tables_1, d.before a0 Z = true) : ((Jvm.Cond.instanceMethod ({ cls := "java/lang/String", name := "coder", desc := "()B" } : Jvm.MethodName)) : Jvm.Cond).before a0 Z = true := hw _ (List.mem_of_getElem? (i := 66) rfl)
theorem d13_9 : decode jdk_42_method_54_code 9 = .ok (.ishr, 1) := by decide +kernel
theorem d13_10 : decode jdk_42_method_54_code 10 = .ok (.ireturn, 1) := by decide +kernel
theorem ef3 (m : MethodId) (x0 : Int32) : entryFrame m #[(.int x0)] 1 = mkF m 0 #[.val (.int x0)] [] := by first | (simp [entryFrame, mkF, argsToLocals, Value.category]; done) | rfl
theorem pn1 : plainName "java/lang/StringLatin1" = true := by first | (simp [plainName, overriddenIn]; done) | decide +kernel
theorem d16_0 : decode jdk_43_method_4_code 0 = .ok (.iload_n 0, 1) := by decide +kernel
theorem d16_1 : decode jdk_43_method_4_code 1 = .ok (.ifCond .lt 14, 3) := by decide +kernel
theorem d16_15 : decode jdk_43_method_4_code 15 = .ok (.iconst 0, 1) := by decide +kernel
theorem d16_4 : decode jdk_43_method_4_code 4 = .ok (.iload_n 0, 1) := by decide +kernel
theorem d16_5 : decode jdk_43_method_4_code 5 = .ok (.sipush 255, 3) := by decide +kernel
theorem d16_8 : decode jdk_43_method_4_code 8 = .ok (.if_icmp .gt 7, 3) := by decide +kernel
theorem d16_11 : decode jdk_43_method_4_code 11 = .ok (.iconst 1, 1) := by decide +kernel
theorem d16_12 : decode jdk_43_method_4_code 12 = .ok (.goto 4, 3) := by decide +kernel
theorem d16_16 : decode jdk_43_method_4_code 16 = .ok (.ireturn, 1) := by decide +kernel
theorem ef4 (m : MethodId) (x0 : Int32) (x1 : Int32) : entryFrame m #[(.int x0), (.int x1)] 2 = mkF m 0 #[.val (.int x0), .val (.int x1)] [] := by first | (simp [entryFrame, mkF, argsToLocals, Value.category]; done) | rfl
theorem d17_0 : decode jdk_29_method_65_code 0 = .ok (.iload_n 0, 1) := by decide +kernel
theorem d17_1 : decode jdk_29_method_65_code 1 = .ok (.iload_n 1, 1) := by decide +kernel
theorem d17_2 : decode jdk_29_method_65_code 2 = .ok (.if_icmp .lt 7, 3) := by decide +kernel
theorem d17_5 : decode jdk_29_method_65_code 5 = .ok (.iload_n 0, 1) := by decide +kernel
theorem d17_6 : decode jdk_29_method_65_code 6 = .ok (.goto 4, 3) := by decide +kernel
theorem d17_10 : decode jdk_29_method_65_code 10 = .ok (.ireturn, 1) := by decide +kernel
theorem d18_0 : decode jdk_29_method_69_code 0 = .ok (.iload_n 0, 1) := by decide +kernel
theorem d18_1 : decode jdk_29_method_69_code 1 = .ok (.iload_n 1, 1) := by decide +kernel
theorem d18_2 : decode jdk_29_method_69_code 2 = .ok (.if_icmp .gt 7, 3) := by decide +kernel
theorem d18_5 : decode jdk_29_method_69_code 5 = .ok (.iload_n 0, 1) := by decide +kernel
theorem d18_6 : decode jdk_29_method_69_code 6 = .ok (.goto 4, 3) := by decide +kernel
theorem d18_10 : decode jdk_29_method_69_code 10 = .ok (.ireturn, 1) := by decide +kernel
theorem ef5 (m : MethodId) (x0 : Addr) (x1 : Int32) (x2 : Int32) (x3 : Int32) : entryFrame m #[(.ref x0), (.int x1), (.int x2), (.int x3)] 4 = mkF m 0 #[.val (.ref x0), .val (.int x1), .val (.int x2), .val (.int x3)] [] := by first | (simp [entryFrame, mkF, argsToLocals, Value.category]; done) | rfl
theorem d15_0 : decode jdk_43_method_22_code 0 = .ok (.iload_n 1, 1) := by decide +kernel
theorem Wd73 {Z : State} {a0 : Array Value} (hw : ∀ d ∈ tables_1, d.before a0 Z = true) : ((Jvm.Cond.methodLink "java/lang/StringLatin1" (88 : Nat) ({ cls := "java/lang/StringLatin1", name := "canEncode", desc := "(I)Z" } : Jvm.MethodName)) : Jvm.Cond).before a0 Z = true := hw _ (List.mem_of_getElem? (i := 73) rfl)
theorem Wd75 {Z : State} {a0 : Array Value} (hw : ∀ d ∈ tables_1, d.before a0 Z = true) : ((Jvm.Cond.code ({ cls := "java/lang/StringLatin1", name := "canEncode", desc := "(I)Z" } : Jvm.MethodName) jdk_43_method_4_code (1 : Nat) (Option.some Jvm.ClassFile.FieldType.boolean)) : Jvm.Cond).before a0 Z = true := hw _ (List.mem_of_getElem? (i := 75) rfl)
theorem Wd71 {Z : State} {a0 : Array Value} (hw : ∀ d ∈ tables_1, d.before a0 Z = true) : ((Jvm.Cond.initialized "java/lang/StringLatin1") : Jvm.Cond).before a0 Z = true := hw _ (List.mem_of_getElem? (i := 71) rfl)
theorem pd2 : parseMethodDescriptor "(I)Z" = some ⟨[.int], some .boolean⟩ := by decide +kernel
theorem d15_1 : decode jdk_43_method_22_code 1 = .ok (.invokestatic 88, 3) := by decide +kernel
theorem Wd74 {Z : State} {a0 : Array Value} (hw : ∀ d ∈ tables_1, d.before a0 Z = true) : ((Jvm.Cond.static ({ cls := "java/lang/StringLatin1", name := "canEncode", desc := "(I)Z" } : Jvm.MethodName)) : Jvm.Cond).before a0 Z = true := hw _ (List.mem_of_getElem? (i := 74) rfl)
theorem d15_4 : decode jdk_43_method_22_code 4 = .ok (.ifCond .ne 5, 3) := by decide +kernel
theorem d15_7 : decode jdk_43_method_22_code 7 = .ok (.iconst (-1), 1) := by decide +kernel
theorem d15_8 : decode jdk_43_method_22_code 8 = .ok (.ireturn, 1) := by decide +kernel
theorem d15_9 : decode jdk_43_method_22_code 9 = .ok (.iload_n 2, 1) := by decide +kernel
theorem d15_10 : decode jdk_43_method_22_code 10 = .ok (.iconst 0, 1) := by decide +kernel
theorem Wd76 {Z : State} {a0 : Array Value} (hw : ∀ d ∈ tables_1, d.before a0 Z = true) : ((Jvm.Cond.methodLink "java/lang/StringLatin1" (92 : Nat) ({ cls := "java/lang/Math", name := "max", desc := "(II)I" } : Jvm.MethodName)) : Jvm.Cond).before a0 Z = true := hw _ (List.mem_of_getElem? (i := 76) rfl)
theorem Wd79 {Z : State} {a0 : Array Value} (hw : ∀ d ∈ tables_1, d.before a0 Z = true) : ((Jvm.Cond.code ({ cls := "java/lang/Math", name := "max", desc := "(II)I" } : Jvm.MethodName) jdk_29_method_65_code (2 : Nat) (Option.some Jvm.ClassFile.FieldType.int)) : Jvm.Cond).before a0 Z = true := hw _ (List.mem_of_getElem? (i := 79) rfl)
theorem Wd78 {Z : State} {a0 : Array Value} (hw : ∀ d ∈ tables_1, d.before a0 Z = true) : ((Jvm.Cond.initialized "java/lang/Math") : Jvm.Cond).before a0 Z = true := hw _ (List.mem_of_getElem? (i := 78) rfl)
theorem pd3 : parseMethodDescriptor "(II)I" = some ⟨[.int, .int], some .int⟩ := by decide +kernel
theorem d15_11 : decode jdk_43_method_22_code 11 = .ok (.invokestatic 92, 3) := by decide +kernel
theorem Wd77 {Z : State} {a0 : Array Value} (hw : ∀ d ∈ tables_1, d.before a0 Z = true) : ((Jvm.Cond.static ({ cls := "java/lang/Math", name := "max", desc := "(II)I" } : Jvm.MethodName)) : Jvm.Cond).before a0 Z = true := hw _ (List.mem_of_getElem? (i := 77) rfl)
theorem d15_14 : decode jdk_43_method_22_code 14 = .ok (.istore_n 2, 1) := by decide +kernel
theorem d15_15 : decode jdk_43_method_22_code 15 = .ok (.iload_n 3, 1) := by decide +kernel
theorem d15_16 : decode jdk_43_method_22_code 16 = .ok (.aload_n 0, 1) := by decide +kernel
theorem d15_17 : decode jdk_43_method_22_code 17 = .ok (.arraylength, 1) := by decide +kernel
theorem Wd80 {Z : State} {a0 : Array Value} (hw : ∀ d ∈ tables_1, d.before a0 Z = true) : ((Jvm.Cond.methodLink "java/lang/StringLatin1" (38 : Nat) ({ cls := "java/lang/Math", name := "min", desc := "(II)I" } : Jvm.MethodName)) : Jvm.Cond).before a0 Z = true := hw _ (List.mem_of_getElem? (i := 80) rfl)
theorem Wd82 {Z : State} {a0 : Array Value} (hw : ∀ d ∈ tables_1, d.before a0 Z = true) : ((Jvm.Cond.code ({ cls := "java/lang/Math", name := "min", desc := "(II)I" } : Jvm.MethodName) jdk_29_method_69_code (2 : Nat) (Option.some Jvm.ClassFile.FieldType.int)) : Jvm.Cond).before a0 Z = true := hw _ (List.mem_of_getElem? (i := 82) rfl)
theorem d15_18 : decode jdk_43_method_22_code 18 = .ok (.invokestatic 38, 3) := by decide +kernel
theorem Wd81 {Z : State} {a0 : Array Value} (hw : ∀ d ∈ tables_1, d.before a0 Z = true) : ((Jvm.Cond.static ({ cls := "java/lang/Math", name := "min", desc := "(II)I" } : Jvm.MethodName)) : Jvm.Cond).before a0 Z = true := hw _ (List.mem_of_getElem? (i := 81) rfl)
theorem d15_21 : decode jdk_43_method_22_code 21 = .ok (.istore_n 3, 1) := by decide +kernel
theorem d15_22 : decode jdk_43_method_22_code 22 = .ok (.iload_n 2, 1) := by decide +kernel
theorem d15_23 : decode jdk_43_method_22_code 23 = .ok (.iload_n 3, 1) := by decide +kernel
theorem d15_24 : decode jdk_43_method_22_code 24 = .ok (.if_icmp .lt 5, 3) := by decide +kernel
theorem d15_27 : decode jdk_43_method_22_code 27 = .ok (.iconst (-1), 1) := by decide +kernel
theorem d15_28 : decode jdk_43_method_22_code 28 = .ok (.ireturn, 1) := by decide +kernel
theorem ef6 (m : MethodId) (x0 : Addr) (x1 : Int32) (x2 : Int32) (x3 : Int32) : entryFrame m #[(.ref x0), (.int x1), (.int x2), (.int x3)] 6 = mkF m 0 #[.val (.ref x0), .val (.int x1), .val (.int x2), .val (.int x3), .unset, .unset] [] := by first | (simp [entryFrame, mkF, argsToLocals, Value.category]; done) | rfl
theorem d19_0 : decode jdk_43_method_23_code 0 = .ok (.iload_n 1, 1) := by decide +kernel
theorem d19_1 : decode jdk_43_method_23_code 1 = .ok (.i2b, 1) := by decide +kernel
theorem d19_2 : decode jdk_43_method_23_code 2 = .ok (.istore 4, 2) := by decide +kernel
theorem d19_4 : decode jdk_43_method_23_code 4 = .ok (.iload_n 2, 1) := by decide +kernel
theorem d19_5 : decode jdk_43_method_23_code 5 = .ok (.istore 5, 2) := by decide +kernel
theorem d19_7 : decode jdk_43_method_23_code 7 = .ok (.iload 5, 2) := by decide +kernel
theorem d19_9 : decode jdk_43_method_23_code 9 = .ok (.iload_n 3, 1) := by decide +kernel
theorem d19_10 : decode jdk_43_method_23_code 10 = .ok (.if_icmp .ge 21, 3) := by decide +kernel
theorem d19_13 : decode jdk_43_method_23_code 13 = .ok (.aload_n 0, 1) := by decide +kernel
theorem d19_14 : decode jdk_43_method_23_code 14 = .ok (.iload 5, 2) := by decide +kernel
theorem d19_16 : decode jdk_43_method_23_code 16 = .ok (.baload, 1) := by decide +kernel
theorem d19_17 : decode jdk_43_method_23_code 17 = .ok (.iload 4, 2) := by decide +kernel
theorem d19_19 : decode jdk_43_method_23_code 19 = .ok (.if_icmp .ne 6, 3) := by decide +kernel
theorem d19_22 : decode jdk_43_method_23_code 22 = .ok (.iload 5, 2) := by decide +kernel
theorem d19_24 : decode jdk_43_method_23_code 24 = .ok (.ireturn, 1) := by decide +kernel
theorem d19_25 : decode jdk_43_method_23_code 25 = .ok (.iinc 5 1, 3) := by decide +kernel
theorem d19_28 : decode jdk_43_method_23_code 28 = .ok (.goto (-21), 3) := by decide +kernel
theorem d19_31 : decode jdk_43_method_23_code 31 = .ok (.iconst (-1), 1) := by decide +kernel
theorem d19_32 : decode jdk_43_method_23_code 32 = .ok (.ireturn, 1) := by decide +kernel
theorem d15_29 : decode jdk_43_method_22_code 29 = .ok (.aload_n 0, 1) := by decide +kernel
theorem d15_30 : decode jdk_43_method_22_code 30 = .ok (.iload_n 1, 1) := by decide +kernel
theorem d15_31 : decode jdk_43_method_22_code 31 = .ok (.iload_n 2, 1) := by decide +kernel
theorem d15_32 : decode jdk_43_method_22_code 32 = .ok (.iload_n 3, 1) := by decide +kernel
theorem Wd83 {Z : State} {a0 : Array Value} (hw : ∀ d ∈ tables_1, d.before a0 Z = true) : ((Jvm.Cond.methodLink "java/lang/StringLatin1" (95 : Nat) ({ cls := "java/lang/StringLatin1", name := "indexOfChar", desc := "([BIII)I" } : Jvm.MethodName)) : Jvm.Cond).before a0 Z = true := hw _ (List.mem_of_getElem? (i := 83) rfl)
theorem Wd85 {Z : State} {a0 : Array Value} (hw : ∀ d ∈ tables_1, d.before a0 Z = true) : ((Jvm.Cond.code ({ cls := "java/lang/StringLatin1", name := "indexOfChar", desc := "([BIII)I" } : Jvm.MethodName) jdk_43_method_23_code (6 : Nat) (Option.some Jvm.ClassFile.FieldType.int)) : Jvm.Cond).before a0 Z = true := hw _ (List.mem_of_getElem? (i := 85) rfl)
theorem pd4 : parseMethodDescriptor "([BIII)I" = some ⟨[(.array .byte), .int, .int, .int], some .int⟩ := by decide +kernel
theorem d15_33 : decode jdk_43_method_22_code 33 = .ok (.invokestatic 95, 3) := by decide +kernel
theorem Wd84 {Z : State} {a0 : Array Value} (hw : ∀ d ∈ tables_1, d.before a0 Z = true) : ((Jvm.Cond.static ({ cls := "java/lang/StringLatin1", name := "indexOfChar", desc := "([BIII)I" } : Jvm.MethodName)) : Jvm.Cond).before a0 Z = true := hw _ (List.mem_of_getElem? (i := 84) rfl)
theorem d15_36 : decode jdk_43_method_22_code 36 = .ok (.ireturn, 1) := by decide +kernel
theorem ef7 (m : MethodId) (x0 : Addr) (x1 : Int32) (x2 : Int32) : entryFrame m #[(.ref x0), (.int x1), (.int x2)] 3 = mkF m 0 #[.val (.ref x0), .val (.int x1), .val (.int x2)] [] := by first | (simp [entryFrame, mkF, argsToLocals, Value.category]; done) | rfl
theorem d11_0 : decode jdk_42_method_80_code 0 = .ok (.aload_n 0, 1) := by decide +kernel
theorem Wd54 {Z : State} {a0 : Array Value} (hw : ∀ d ∈ tables_1, d.before a0 Z = true) : ((Jvm.Cond.methodLink "java/lang/String" (492 : Nat) ({ cls := "java/lang/String", name := "isLatin1", desc := "()Z" } : Jvm.MethodName)) : Jvm.Cond).before a0 Z = true := hw _ (List.mem_of_getElem? (i := 54) rfl)
theorem Wd57 {Z : State} {a0 : Array Value} (hw : ∀ d ∈ tables_1, d.before a0 Z = true) : ((Jvm.Cond.selects "java/lang/String" ({ cls := "java/lang/String", name := "isLatin1", desc := "()Z" } : Jvm.MethodName) ({ cls := "java/lang/String", name := "isLatin1", desc := "()Z" } : Jvm.MethodName)) : Jvm.Cond).before a0 Z = true := hw _ (List.mem_of_getElem? (i := 57) rfl)
theorem Wd58 {Z : State} {a0 : Array Value} (hw : ∀ d ∈ tables_1, d.before a0 Z = true) : ((Jvm.Cond.code ({ cls := "java/lang/String", name := "isLatin1", desc := "()Z" } : Jvm.MethodName) jdk_42_method_154_code (1 : Nat) (Option.some Jvm.ClassFile.FieldType.boolean)) : Jvm.Cond).before a0 Z = true := hw _ (List.mem_of_getElem? (i := 58) rfl)
theorem pd5 : parseMethodDescriptor "()Z" = some ⟨[], some .boolean⟩ := by decide +kernel
theorem d11_1 : decode jdk_42_method_80_code 1 = .ok (.invokevirtual 492, 3) := by decide +kernel
theorem Wd55 {Z : State} {a0 : Array Value} (hw : ∀ d ∈ tables_1, d.before a0 Z = true) : ((Jvm.Cond.declares ({ cls := "java/lang/String", name := "isLatin1", desc := "()Z" } : Jvm.MethodName)) : Jvm.Cond).before a0 Z = true := hw _ (List.mem_of_getElem? (i := 55) rfl)
theorem Wd56 {Z : State} {a0 : Array Value} (hw : ∀ d ∈ tables_1, d.before a0 Z = true) : ((Jvm.Cond.instanceMethod ({ cls := "java/lang/String", name := "isLatin1", desc := "()Z" } : Jvm.MethodName)) : Jvm.Cond).before a0 Z = true := hw _ (List.mem_of_getElem? (i := 56) rfl)
theorem d11_4 : decode jdk_42_method_80_code 4 = .ok (.ifCond .eq 19, 3) := by decide +kernel
theorem d11_7 : decode jdk_42_method_80_code 7 = .ok (.aload_n 0, 1) := by decide +kernel
theorem d11_8 : decode jdk_42_method_80_code 8 = .ok (.getfield 9, 3) := by decide +kernel
theorem d11_11 : decode jdk_42_method_80_code 11 = .ok (.iload_n 1, 1) := by decide +kernel
theorem d11_12 : decode jdk_42_method_80_code 12 = .ok (.iload_n 2, 1) := by decide +kernel
theorem d11_13 : decode jdk_42_method_80_code 13 = .ok (.aload_n 0, 1) := by decide +kernel
theorem Wd59 {Z : State} {a0 : Array Value} (hw : ∀ d ∈ tables_1, d.before a0 Z = true) : ((Jvm.Cond.methodLink "java/lang/String" (505 : Nat) ({ cls := "java/lang/String", name := "length", desc := "()I" } : Jvm.MethodName)) : Jvm.Cond).before a0 Z = true := hw _ (List.mem_of_getElem? (i := 59) rfl)
theorem Wd62 {Z : State} {a0 : Array Value} (hw : ∀ d ∈ tables_1, d.before a0 Z = true) : ((Jvm.Cond.selects "java/lang/String" ({ cls := "java/lang/String", name := "length", desc := "()I" } : Jvm.MethodName) ({ cls := "java/lang/String", name := "length", desc := "()I" } : Jvm.MethodName)) : Jvm.Cond).before a0 Z = true := hw _ (List.mem_of_getElem? (i := 62) rfl)
theorem Wd63 {Z : State} {a0 : Array Value} (hw : ∀ d ∈ tables_1, d.before a0 Z = true) : ((Jvm.Cond.code ({ cls := "java/lang/String", name := "length", desc := "()I" } : Jvm.MethodName) jdk_42_method_54_code (1 : Nat) (Option.some Jvm.ClassFile.FieldType.int)) : Jvm.Cond).before a0 Z = true := hw _ (List.mem_of_getElem? (i := 63) rfl)
theorem pd6 : parseMethodDescriptor "()I" = some ⟨[], some .int⟩ := by decide +kernel
theorem d11_14 : decode jdk_42_method_80_code 14 = .ok (.invokevirtual 505, 3) := by decide +kernel
theorem Wd60 {Z : State} {a0 : Array Value} (hw : ∀ d ∈ tables_1, d.before a0 Z = true) : ((Jvm.Cond.declares ({ cls := "java/lang/String", name := "length", desc := "()I" } : Jvm.MethodName)) : Jvm.Cond).before a0 Z = true := hw _ (List.mem_of_getElem? (i := 60) rfl)
theorem Wd61 {Z : State} {a0 : Array Value} (hw : ∀ d ∈ tables_1, d.before a0 Z = true) : ((Jvm.Cond.instanceMethod ({ cls := "java/lang/String", name := "length", desc := "()I" } : Jvm.MethodName)) : Jvm.Cond).before a0 Z = true := hw _ (List.mem_of_getElem? (i := 61) rfl)
theorem Wd69 {Z : State} {a0 : Array Value} (hw : ∀ d ∈ tables_1, d.before a0 Z = true) : ((Jvm.Cond.methodLink "java/lang/String" (637 : Nat) ({ cls := "java/lang/StringLatin1", name := "indexOf", desc := "([BIII)I" } : Jvm.MethodName)) : Jvm.Cond).before a0 Z = true := hw _ (List.mem_of_getElem? (i := 69) rfl)
theorem Wd72 {Z : State} {a0 : Array Value} (hw : ∀ d ∈ tables_1, d.before a0 Z = true) : ((Jvm.Cond.code ({ cls := "java/lang/StringLatin1", name := "indexOf", desc := "([BIII)I" } : Jvm.MethodName) jdk_43_method_22_code (4 : Nat) (Option.some Jvm.ClassFile.FieldType.int)) : Jvm.Cond).before a0 Z = true := hw _ (List.mem_of_getElem? (i := 72) rfl)
theorem d11_17 : decode jdk_42_method_80_code 17 = .ok (.invokestatic 637, 3) := by decide +kernel
theorem Wd70 {Z : State} {a0 : Array Value} (hw : ∀ d ∈ tables_1, d.before a0 Z = true) : ((Jvm.Cond.static ({ cls := "java/lang/StringLatin1", name := "indexOf", desc := "([BIII)I" } : Jvm.MethodName)) : Jvm.Cond).before a0 Z = true := hw _ (List.mem_of_getElem? (i := 70) rfl)
theorem d11_20 : decode jdk_42_method_80_code 20 = .ok (.goto 16, 3) := by decide +kernel
theorem d11_36 : decode jdk_42_method_80_code 36 = .ok (.ireturn, 1) := by decide +kernel
theorem ef8 (m : MethodId) (x0 : Addr) (x1 : Int32) : entryFrame m #[(.ref x0), (.int x1)] 2 = mkF m 0 #[.val (.ref x0), .val (.int x1)] [] := by first | (simp [entryFrame, mkF, argsToLocals, Value.category]; done) | rfl
theorem d10_0 : decode jdk_42_method_79_code 0 = .ok (.aload_n 0, 1) := by decide +kernel
theorem d10_1 : decode jdk_42_method_79_code 1 = .ok (.iload_n 1, 1) := by decide +kernel
theorem d10_2 : decode jdk_42_method_79_code 2 = .ok (.iconst 0, 1) := by decide +kernel
theorem Wd49 {Z : State} {a0 : Array Value} (hw : ∀ d ∈ tables_1, d.before a0 Z = true) : ((Jvm.Cond.methodLink "java/lang/String" (633 : Nat) ({ cls := "java/lang/String", name := "indexOf", desc := "(II)I" } : Jvm.MethodName)) : Jvm.Cond).before a0 Z = true := hw _ (List.mem_of_getElem? (i := 49) rfl)
theorem Wd52 {Z : State} {a0 : Array Value} (hw : ∀ d ∈ tables_1, d.before a0 Z = true) : ((Jvm.Cond.selects "java/lang/String" ({ cls := "java/lang/String", name := "indexOf", desc := "(II)I" } : Jvm.MethodName) ({ cls := "java/lang/String", name := "indexOf", desc := "(II)I" } : Jvm.MethodName)) : Jvm.Cond).before a0 Z = true := hw _ (List.mem_of_getElem? (i := 52) rfl)
theorem Wd53 {Z : State} {a0 : Array Value} (hw : ∀ d ∈ tables_1, d.before a0 Z = true) : ((Jvm.Cond.code ({ cls := "java/lang/String", name := "indexOf", desc := "(II)I" } : Jvm.MethodName) jdk_42_method_80_code (3 : Nat) (Option.some Jvm.ClassFile.FieldType.int)) : Jvm.Cond).before a0 Z = true := hw _ (List.mem_of_getElem? (i := 53) rfl)
theorem d10_3 : decode jdk_42_method_79_code 3 = .ok (.invokevirtual 633, 3) := by decide +kernel
theorem Wd50 {Z : State} {a0 : Array Value} (hw : ∀ d ∈ tables_1, d.before a0 Z = true) : ((Jvm.Cond.declares ({ cls := "java/lang/String", name := "indexOf", desc := "(II)I" } : Jvm.MethodName)) : Jvm.Cond).before a0 Z = true := hw _ (List.mem_of_getElem? (i := 50) rfl)
theorem Wd51 {Z : State} {a0 : Array Value} (hw : ∀ d ∈ tables_1, d.before a0 Z = true) : ((Jvm.Cond.instanceMethod ({ cls := "java/lang/String", name := "indexOf", desc := "(II)I" } : Jvm.MethodName)) : Jvm.Cond).before a0 Z = true := hw _ (List.mem_of_getElem? (i := 51) rfl)
theorem d10_6 : decode jdk_42_method_79_code 6 = .ok (.ireturn, 1) := by decide +kernel
theorem ef9 (m : MethodId) (x0 : Int32) (x1 : Addr) : entryFrame m #[(.int x0), (.ref x1)] 3 = mkF m 0 #[.val (.int x0), .val (.ref x1), .unset] [] := by first | (simp [entryFrame, mkF, argsToLocals, Value.category]; done) | rfl
theorem pn2 : plainName "com/example/triad/triad/rest/PercentEncoding" = true := by first | (simp [plainName, overriddenIn]; done) | decide +kernel
theorem d9_0 : decode prog_9_method_2_code 0 = .ok (.iload_n 0, 1) := by decide +kernel
theorem d9_1 : decode prog_9_method_2_code 1 = .ok (.bipush 97, 2) := by decide +kernel
theorem d9_3 : decode prog_9_method_2_code 3 = .ok (.if_icmp .lt 9, 3) := by decide +kernel
theorem d9_12 : decode prog_9_method_2_code 12 = .ok (.iload_n 0, 1) := by decide +kernel
theorem d9_13 : decode prog_9_method_2_code 13 = .ok (.bipush 65, 2) := by decide +kernel
theorem d9_15 : decode prog_9_method_2_code 15 = .ok (.if_icmp .lt 9, 3) := by decide +kernel
theorem d9_24 : decode prog_9_method_2_code 24 = .ok (.iload_n 0, 1) := by decide +kernel
theorem d9_25 : decode prog_9_method_2_code 25 = .ok (.bipush 48, 2) := by decide +kernel
theorem d9_27 : decode prog_9_method_2_code 27 = .ok (.if_icmp .lt 13, 3) := by decide +kernel
theorem d9_40 : decode prog_9_method_2_code 40 = .ok (.iconst 0, 1) := by decide +kernel
theorem d9_30 : decode prog_9_method_2_code 30 = .ok (.iload_n 0, 1) := by decide +kernel
theorem d9_31 : decode prog_9_method_2_code 31 = .ok (.bipush 57, 2) := by decide +kernel
theorem d9_33 : decode prog_9_method_2_code 33 = .ok (.if_icmp .gt 7, 3) := by decide +kernel
theorem d9_36 : decode prog_9_method_2_code 36 = .ok (.iconst 1, 1) := by decide +kernel
theorem d9_37 : decode prog_9_method_2_code 37 = .ok (.goto 4, 3) := by decide +kernel
theorem d9_18 : decode prog_9_method_2_code 18 = .ok (.iload_n 0, 1) := by decide +kernel
theorem d9_19 : decode prog_9_method_2_code 19 = .ok (.bipush 90, 2) := by decide +kernel
theorem d9_21 : decode prog_9_method_2_code 21 = .ok (.if_icmp .le 15, 3) := by decide +kernel
theorem d9_6 : decode prog_9_method_2_code 6 = .ok (.iload_n 0, 1) := by decide +kernel
theorem d9_7 : decode prog_9_method_2_code 7 = .ok (.bipush 122, 2) := by decide +kernel
theorem d9_9 : decode prog_9_method_2_code 9 = .ok (.if_icmp .le 27, 3) := by decide +kernel
theorem d9_41 : decode prog_9_method_2_code 41 = .ok (.istore_n 2, 1) := by decide +kernel
theorem d9_42 : decode prog_9_method_2_code 42 = .ok (.iload_n 2, 1) := by decide +kernel
theorem d9_43 : decode prog_9_method_2_code 43 = .ok (.ifCond .ne 20, 3) := by decide +kernel
theorem d9_46 : decode prog_9_method_2_code 46 = .ok (.ldc 9, 2) := by decide +kernel
theorem d9_48 : decode prog_9_method_2_code 48 = .ok (.iload_n 0, 1) := by decide +kernel
theorem Wd44 {Z : State} {a0 : Array Value} (hw : ∀ d ∈ tables_1, d.before a0 Z = true) : ((Jvm.Cond.methodLink "com/example/triad/triad/rest/PercentEncoding" (11 : Nat) ({ cls := "java/lang/String", name := "indexOf", desc := "(I)I" } : Jvm.MethodName)) : Jvm.Cond).before a0 Z = true := hw _ (List.mem_of_getElem? (i := 44) rfl)
theorem Wd47 {Z : State} {a0 : Array Value} (hw : ∀ d ∈ tables_1, d.before a0 Z = true) : ((Jvm.Cond.selects "java/lang/String" ({ cls := "java/lang/String", name := "indexOf", desc := "(I)I" } : Jvm.MethodName) ({ cls := "java/lang/String", name := "indexOf", desc := "(I)I" } : Jvm.MethodName)) : Jvm.Cond).before a0 Z = true := hw _ (List.mem_of_getElem? (i := 47) rfl)
theorem Wd48 {Z : State} {a0 : Array Value} (hw : ∀ d ∈ tables_1, d.before a0 Z = true) : ((Jvm.Cond.code ({ cls := "java/lang/String", name := "indexOf", desc := "(I)I" } : Jvm.MethodName) jdk_42_method_79_code (2 : Nat) (Option.some Jvm.ClassFile.FieldType.int)) : Jvm.Cond).before a0 Z = true := hw _ (List.mem_of_getElem? (i := 48) rfl)
theorem pd7 : parseMethodDescriptor "(I)I" = some ⟨[.int], some .int⟩ := by decide +kernel
theorem d9_49 : decode prog_9_method_2_code 49 = .ok (.invokevirtual 11, 3) := by decide +kernel
theorem Wd45 {Z : State} {a0 : Array Value} (hw : ∀ d ∈ tables_1, d.before a0 Z = true) : ((Jvm.Cond.declares ({ cls := "java/lang/String", name := "indexOf", desc := "(I)I" } : Jvm.MethodName)) : Jvm.Cond).before a0 Z = true := hw _ (List.mem_of_getElem? (i := 45) rfl)
theorem Wd46 {Z : State} {a0 : Array Value} (hw : ∀ d ∈ tables_1, d.before a0 Z = true) : ((Jvm.Cond.instanceMethod ({ cls := "java/lang/String", name := "indexOf", desc := "(I)I" } : Jvm.MethodName)) : Jvm.Cond).before a0 Z = true := hw _ (List.mem_of_getElem? (i := 46) rfl)
theorem d9_52 : decode prog_9_method_2_code 52 = .ok (.ifCond .ge 11, 3) := by decide +kernel
theorem d9_55 : decode prog_9_method_2_code 55 = .ok (.aload_n 1, 1) := by decide +kernel
theorem d9_56 : decode prog_9_method_2_code 56 = .ok (.iload_n 0, 1) := by decide +kernel
theorem d9_57 : decode prog_9_method_2_code 57 = .ok (.invokevirtual 11, 3) := by decide +kernel
theorem d9_60 : decode prog_9_method_2_code 60 = .ok (.ifCond .lt 7, 3) := by decide +kernel
theorem d9_67 : decode prog_9_method_2_code 67 = .ok (.iconst 0, 1) := by decide +kernel
theorem d9_68 : decode prog_9_method_2_code 68 = .ok (.ireturn, 1) := by decide +kernel
theorem d9_63 : decode prog_9_method_2_code 63 = .ok (.iconst 1, 1) := by decide +kernel
theorem d9_64 : decode prog_9_method_2_code 64 = .ok (.goto 4, 3) := by decide +kernel
theorem ef10 (m : MethodId) (x0 : Int32) (x1 : Int32) (x2 : Int32) : entryFrame m #[(.int x0), (.int x1), (.int x2)] 3 = mkF m 0 #[.val (.int x0), .val (.int x1), .val (.int x2)] [] := by first | (simp [entryFrame, mkF, argsToLocals, Value.category]; done) | rfl
theorem pn3 : plainName "com/example/triad/triad/rest/PercentEncodingIsKeptPinLaw" = true := by first | (simp [plainName, overriddenIn]; done) | decide +kernel
theorem d8_0 : decode method_2_code 0 = .ok (.iload_n 1, 1) := by decide +kernel
theorem d8_1 : decode method_2_code 1 = .ok (.iload_n 0, 1) := by decide +kernel
theorem d8_2 : decode method_2_code 2 = .ok (.if_icmp .gt 12, 3) := by decide +kernel
theorem d8_14 : decode method_2_code 14 = .ok (.iconst 0, 1) := by decide +kernel
theorem d8_5 : decode method_2_code 5 = .ok (.iload_n 0, 1) := by decide +kernel
theorem d8_6 : decode method_2_code 6 = .ok (.iload_n 2, 1) := by decide +kernel
theorem d8_7 : decode method_2_code 7 = .ok (.if_icmp .gt 7, 3) := by decide +kernel
theorem d8_10 : decode method_2_code 10 = .ok (.iconst 1, 1) := by decide +kernel
theorem d8_11 : decode method_2_code 11 = .ok (.goto 4, 3) := by decide +kernel
theorem d8_15 : decode method_2_code 15 = .ok (.ireturn, 1) := by decide +kernel
theorem ef11 (m : MethodId) (x0 : Int32) (x1 : Int32) (x2 : Int32) (x3 : Int32) : entryFrame m #[(.int x0), (.int x1), (.int x2), (.int x3)] 4 = mkF m 0 #[.val (.int x0), .val (.int x1), .val (.int x2), .val (.int x3)] [] := by first | (simp [entryFrame, mkF, argsToLocals, Value.category]; done) | rfl
theorem d1_0 : decode method_3_code 0 = .ok (.iload_n 0, 1) := by decide +kernel
theorem d1_1 : decode method_3_code 1 = .ok (.ifCond .ne 14, 3) := by decide +kernel
theorem d1_4 : decode method_3_code 4 = .ok (.new 7, 3) := by decide +kernel
theorem Wd4 {Z : State} {a0 : Array Value} (hw : ∀ d ∈ tables_1, d.before a0 Z = true) : ((Jvm.Cond.classLink "com/example/triad/triad/rest/PercentEncodingIsKeptPinLaw" (7 : Nat) "java/lang/String") : Jvm.Cond).before a0 Z = true := hw _ (List.mem_of_getElem? (i := 4) rfl)
theorem d1_7 : decode method_3_code 7 = .ok (.dup, 1) := by decide +kernel
theorem d1_8 : decode method_3_code 8 = .ok (.iconst 0, 1) := by decide +kernel
theorem d1_9 : decode method_3_code 9 = .ok (.newarray .char, 2) := by decide +kernel
theorem Wd7 {Z : State} {a0 : Array Value} (hw : ∀ d ∈ tables_1, d.before a0 Z = true) : ((Jvm.Cond.arrayClass Jvm.ClassFile.FieldType.char) : Jvm.Cond).before a0 Z = true := hw _ (List.mem_of_getElem? (i := 7) rfl)
theorem Wd8 {Z : State} {a0 : Array Value} (hw : ∀ d ∈ tables_1, d.before a0 Z = true) : ((Jvm.Cond.methodLink "com/example/triad/triad/rest/PercentEncodingIsKeptPinLaw" (9 : Nat) ({ cls := "java/lang/String", name := "<init>", desc := "([C)V" } : Jvm.MethodName)) : Jvm.Cond).before a0 Z = true := hw _ (List.mem_of_getElem? (i := 8) rfl)
theorem Wd10 {Z : State} {a0 : Array Value} (hw : ∀ d ∈ tables_1, d.before a0 Z = true) : ((Jvm.Cond.code ({ cls := "java/lang/String", name := "<init>", desc := "([C)V" } : Jvm.MethodName) jdk_42_method_3_code (2 : Nat) (Option.none : Option Jvm.ClassFile.FieldType)) : Jvm.Cond).before a0 Z = true := hw _ (List.mem_of_getElem? (i := 10) rfl)
theorem pd8 : parseMethodDescriptor "([C)V" = some ⟨[(.array .char)], none⟩ := by decide +kernel
theorem d1_11 : decode method_3_code 11 = .ok (.invokespecial 9, 3) := by decide +kernel
theorem Wd9 {Z : State} {a0 : Array Value} (hw : ∀ d ∈ tables_1, d.before a0 Z = true) : ((Jvm.Cond.instanceMethod ({ cls := "java/lang/String", name := "<init>", desc := "([C)V" } : Jvm.MethodName)) : Jvm.Cond).before a0 Z = true := hw _ (List.mem_of_getElem? (i := 9) rfl)
theorem d1_14 : decode method_3_code 14 = .ok (.areturn, 1) := by decide +kernel
theorem d1_15 : decode method_3_code 15 = .ok (.iload_n 0, 1) := by decide +kernel
theorem d1_16 : decode method_3_code 16 = .ok (.iconst 1, 1) := by decide +kernel
theorem d1_17 : decode method_3_code 17 = .ok (.if_icmp .ne 18, 3) := by decide +kernel
theorem d1_20 : decode method_3_code 20 = .ok (.new 7, 3) := by decide +kernel
theorem d1_23 : decode method_3_code 23 = .ok (.dup, 1) := by decide +kernel
theorem d1_24 : decode method_3_code 24 = .ok (.iconst 1, 1) := by decide +kernel
theorem d1_25 : decode method_3_code 25 = .ok (.newarray .char, 2) := by decide +kernel
theorem d1_27 : decode method_3_code 27 = .ok (.dup, 1) := by decide +kernel
theorem d1_28 : decode method_3_code 28 = .ok (.iconst 0, 1) := by decide +kernel
theorem d1_29 : decode method_3_code 29 = .ok (.iload_n 1, 1) := by decide +kernel
theorem d1_30 : decode method_3_code 30 = .ok (.castore, 1) := by decide +kernel
theorem d1_31 : decode method_3_code 31 = .ok (.invokespecial 9, 3) := by decide +kernel
theorem d1_34 : decode method_3_code 34 = .ok (.areturn, 1) := by decide +kernel
theorem d1_35 : decode method_3_code 35 = .ok (.iload_n 0, 1) := by decide +kernel
theorem d1_36 : decode method_3_code 36 = .ok (.iconst 2, 1) := by decide +kernel
theorem d1_37 : decode method_3_code 37 = .ok (.if_icmp .ne 22, 3) := by decide +kernel
theorem d1_40 : decode method_3_code 40 = .ok (.new 7, 3) := by decide +kernel
theorem d1_43 : decode method_3_code 43 = .ok (.dup, 1) := by decide +kernel
theorem d1_44 : decode method_3_code 44 = .ok (.iconst 2, 1) := by decide +kernel
theorem d1_45 : decode method_3_code 45 = .ok (.newarray .char, 2) := by decide +kernel
theorem d1_47 : decode method_3_code 47 = .ok (.dup, 1) := by decide +kernel
theorem d1_48 : decode method_3_code 48 = .ok (.iconst 0, 1) := by decide +kernel
theorem d1_49 : decode method_3_code 49 = .ok (.iload_n 1, 1) := by decide +kernel
theorem d1_50 : decode method_3_code 50 = .ok (.castore, 1) := by decide +kernel
theorem d1_51 : decode method_3_code 51 = .ok (.dup, 1) := by decide +kernel
theorem d1_52 : decode method_3_code 52 = .ok (.iconst 1, 1) := by decide +kernel
theorem d1_53 : decode method_3_code 53 = .ok (.iload_n 2, 1) := by decide +kernel
theorem d1_54 : decode method_3_code 54 = .ok (.castore, 1) := by decide +kernel
theorem d1_55 : decode method_3_code 55 = .ok (.invokespecial 9, 3) := by decide +kernel
theorem d1_58 : decode method_3_code 58 = .ok (.areturn, 1) := by decide +kernel
theorem d1_59 : decode method_3_code 59 = .ok (.new 7, 3) := by decide +kernel
theorem d1_62 : decode method_3_code 62 = .ok (.dup, 1) := by decide +kernel
theorem d1_63 : decode method_3_code 63 = .ok (.iconst 3, 1) := by decide +kernel
theorem d1_64 : decode method_3_code 64 = .ok (.newarray .char, 2) := by decide +kernel
theorem d1_66 : decode method_3_code 66 = .ok (.dup, 1) := by decide +kernel
theorem d1_67 : decode method_3_code 67 = .ok (.iconst 0, 1) := by decide +kernel
theorem d1_68 : decode method_3_code 68 = .ok (.iload_n 1, 1) := by decide +kernel
theorem d1_69 : decode method_3_code 69 = .ok (.castore, 1) := by decide +kernel
theorem d1_70 : decode method_3_code 70 = .ok (.dup, 1) := by decide +kernel
theorem d1_71 : decode method_3_code 71 = .ok (.iconst 1, 1) := by decide +kernel
theorem d1_72 : decode method_3_code 72 = .ok (.iload_n 2, 1) := by decide +kernel
theorem d1_73 : decode method_3_code 73 = .ok (.castore, 1) := by decide +kernel
theorem d1_74 : decode method_3_code 74 = .ok (.dup, 1) := by decide +kernel
theorem d1_75 : decode method_3_code 75 = .ok (.iconst 2, 1) := by decide +kernel
theorem d1_76 : decode method_3_code 76 = .ok (.iload_n 3, 1) := by decide +kernel
theorem d1_77 : decode method_3_code 77 = .ok (.castore, 1) := by decide +kernel
theorem d1_78 : decode method_3_code 78 = .ok (.invokespecial 9, 3) := by decide +kernel
theorem d1_81 : decode method_3_code 81 = .ok (.areturn, 1) := by decide +kernel
theorem ef12 (m : MethodId) (x0 : Int32) (x1 : Int32) (x2 : Int32) : entryFrame m #[(.int x0), (.int x1), (.int x2)] maxLocals = mkF m 0 #[.val (.int x0), .val (.int x1), .val (.int x2), .unset, .unset, .unset, .unset, .unset, .unset, .unset, .unset, .unset, .unset, .unset] [] := by first | (simp [entryFrame, mkF, argsToLocals, Value.category, maxLocals]; done) | rfl
theorem Wd0 {Z : State} {a0 : Array Value} (hw : ∀ d ∈ tables_1, d.before a0 Z = true) : ((Jvm.Cond.methodLink "com/example/triad/triad/rest/PercentEncodingIsKeptPinLaw" (12 : Nat) ({ cls := "com/example/triad/triad/rest/PercentEncodingIsKeptPinLaw", name := "keptOf", desc := "(ICCC)Ljava/lang/String;" } : Jvm.MethodName)) : Jvm.Cond).before a0 Z = true := hw _ (List.mem_of_getElem? (i := 0) rfl)
theorem Wd3 {Z : State} {a0 : Array Value} (hw : ∀ d ∈ tables_1, d.before a0 Z = true) : ((Jvm.Cond.code ({ cls := "com/example/triad/triad/rest/PercentEncodingIsKeptPinLaw", name := "keptOf", desc := "(ICCC)Ljava/lang/String;" } : Jvm.MethodName) method_3_code (4 : Nat) (Option.some (Jvm.ClassFile.FieldType.object "java/lang/String"))) : Jvm.Cond).before a0 Z = true := hw _ (List.mem_of_getElem? (i := 3) rfl)
theorem Wd2 {Z : State} {a0 : Array Value} (hw : ∀ d ∈ tables_1, d.before a0 Z = true) : ((Jvm.Cond.initialized "com/example/triad/triad/rest/PercentEncodingIsKeptPinLaw") : Jvm.Cond).before a0 Z = true := hw _ (List.mem_of_getElem? (i := 2) rfl)
theorem pd9 : parseMethodDescriptor "(ICCC)Ljava/lang/String;" = some ⟨[.int, .char, .char, .char], some (.object "java/lang/String")⟩ := by decide +kernel
theorem Wd1 {Z : State} {a0 : Array Value} (hw : ∀ d ∈ tables_1, d.before a0 Z = true) : ((Jvm.Cond.static ({ cls := "com/example/triad/triad/rest/PercentEncodingIsKeptPinLaw", name := "keptOf", desc := "(ICCC)Ljava/lang/String;" } : Jvm.MethodName)) : Jvm.Cond).before a0 Z = true := hw _ (List.mem_of_getElem? (i := 1) rfl)
theorem Wd34 {Z : State} {a0 : Array Value} (hw : ∀ d ∈ tables_1, d.before a0 Z = true) : ((Jvm.Cond.methodLink "com/example/triad/triad/rest/PercentEncodingIsKeptPinLaw" (18 : Nat) ({ cls := "com/example/triad/triad/rest/PercentEncodingIsKeptPinLaw", name := "between", desc := "(III)Z" } : Jvm.MethodName)) : Jvm.Cond).before a0 Z = true := hw _ (List.mem_of_getElem? (i := 34) rfl)
theorem Wd36 {Z : State} {a0 : Array Value} (hw : ∀ d ∈ tables_1, d.before a0 Z = true) : ((Jvm.Cond.code ({ cls := "com/example/triad/triad/rest/PercentEncodingIsKeptPinLaw", name := "between", desc := "(III)Z" } : Jvm.MethodName) method_2_code (3 : Nat) (Option.some Jvm.ClassFile.FieldType.boolean)) : Jvm.Cond).before a0 Z = true := hw _ (List.mem_of_getElem? (i := 36) rfl)
theorem pd10 : parseMethodDescriptor "(III)Z" = some ⟨[.int, .int, .int], some .boolean⟩ := by decide +kernel
theorem Wd35 {Z : State} {a0 : Array Value} (hw : ∀ d ∈ tables_1, d.before a0 Z = true) : ((Jvm.Cond.static ({ cls := "com/example/triad/triad/rest/PercentEncodingIsKeptPinLaw", name := "between", desc := "(III)Z" } : Jvm.MethodName)) : Jvm.Cond).before a0 Z = true := hw _ (List.mem_of_getElem? (i := 35) rfl)
theorem Wd37 {Z : State} {a0 : Array Value} (hw : ∀ d ∈ tables_1, d.before a0 Z = true) : ((Jvm.Cond.methodLink "com/example/triad/triad/rest/PercentEncodingIsKeptPinLaw" (22 : Nat) ({ cls := "com/example/triad/triad/rest/PercentEncoding", name := "isKept", desc := "(ILjava/lang/String;)Z" } : Jvm.MethodName)) : Jvm.Cond).before a0 Z = true := hw _ (List.mem_of_getElem? (i := 37) rfl)
theorem Wd40 {Z : State} {a0 : Array Value} (hw : ∀ d ∈ tables_1, d.before a0 Z = true) : ((Jvm.Cond.code ({ cls := "com/example/triad/triad/rest/PercentEncoding", name := "isKept", desc := "(ILjava/lang/String;)Z" } : Jvm.MethodName) prog_9_method_2_code (3 : Nat) (Option.some Jvm.ClassFile.FieldType.boolean)) : Jvm.Cond).before a0 Z = true := hw _ (List.mem_of_getElem? (i := 40) rfl)
theorem Wd39 {Z : State} {a0 : Array Value} (hw : ∀ d ∈ tables_1, d.before a0 Z = true) : ((Jvm.Cond.initialized "com/example/triad/triad/rest/PercentEncoding") : Jvm.Cond).before a0 Z = true := hw _ (List.mem_of_getElem? (i := 39) rfl)
theorem pd11 : parseMethodDescriptor "(ILjava/lang/String;)Z" = some ⟨[.int, (.object "java/lang/String")], some .boolean⟩ := by decide +kernel
theorem Wd38 {Z : State} {a0 : Array Value} (hw : ∀ d ∈ tables_1, d.before a0 Z = true) : ((Jvm.Cond.static ({ cls := "com/example/triad/triad/rest/PercentEncoding", name := "isKept", desc := "(ILjava/lang/String;)Z" } : Jvm.MethodName)) : Jvm.Cond).before a0 Z = true := hw _ (List.mem_of_getElem? (i := 38) rfl)
abbrev own_EL : List (String × Nat) := [("com/example/triad/triad/rest/PercentEncoding", 9), ("java/lang/String", 7)]
theorem EL_in {Z : State} {a0 : Array Value} (hw : ∀ d ∈ tables_1, d.before a0 Z = true) : EW Z a0 own_EL := (EW.cons (Wd41 hw) (by decide) (EW.cons (Wd86 hw) (by decide) EW.nil))
def Q_rmE4 (Z : State) (a1 : Addr) (a2 : Addr) (h0 : Heap) (n0 : Nat) (v : Option Value) (h : Heap) (L : List Loc) : Prop := v = none ∧ Fr n0 L ∧ Keep h0 h [a1] ∧ Exa Z h a1 "java/lang/String" ∧ Fld Z h a1 "java/lang/String" "coder" "B" (.int (0 : Int32)) ∧ ∃ (b : Addr) (k : ClassId), b ≠ a1 ∧ Fld Z h a1 "java/lang/String" "value" "[B" (.ref b) ∧ Arv Z h b k .byte (0 : Int32) [] (.int 0)
set_option maxRecDepth 65536 in
set_option maxHeartbeats 40000000 in
theorem rmE4 (l : Launch) (Z : State) (a0 : Array Value) (hw : ∀ d ∈ tables_1, d.before a0 Z = true) (ws : List Jvm.Cond) (a1 : Addr) (a2 : Addr) (h0 : Heap) (n0 : Nat) (Z0 : n0 ≤ h0.size) (E1 : Exa Z h0 a1 "java/lang/String") (F1 : Fld Z h0 a1 "java/lang/String" "value" "[B" .null) (F2 : Fld Z h0 a1 "java/lang/String" "coder" "B" (.int (0 : Int32))) (g1 : n0 ≤ a1) :
    MetFree l (⟨"java/lang/String", "<init>", "([CIILjava/lang/Void;)V"⟩ : MethodName) (head1 (Jvm.Cond.code (⟨"java/lang/String", "<init>", "([CIILjava/lang/Void;)V"⟩ : MethodName) jdk_42_method_149_code 6 none :: ws) ({ frames := 1, cells := 4, slots := 8, locals := 12 } : Room)) (fun a U => a = #[(.ref a1), (.ref a2), (.int (0 : Int32)), (.int (0 : Int32)), .null] ∧ Z.Warmed39 U.vm ∧ U.heap = h0 ∧ CHv Z own_EL U.vm h0) (fun _ _ _ _ _ => True) (fun _ U o U' => ∃ v L, o = .returned v ∧ Q_rmE4 Z a1 a2 h0 n0 v U'.heap L ∧ CHr Z own_EL U.vm U.heap U'.vm U'.heap ∧ ReturnedEndW U o U' L ({ frames := 1, cells := 4, slots := 8, locals := 12 } : Room).cells ({ frames := 1, cells := 4, slots := 8, locals := 12 } : Room).slots) := by
  refine MetFree.of_bodySF (plainFor_of_name pn0) hisR ?_
  intro p e s m args below meth c s₁ Bd hml0 hP hK
  obtain ⟨rfl, hZ, hh, hH0⟩ := hP
  have hx := Bd.exec
  have hby := Bd.bytes
  have hlk : meth.locks = false := Bd.notSynchronized
  have hml : c.maxLocals = 6 := hml0
  have hown : s.vm.findClass "java/lang/String" = some m.cls := findClass_of_methodNamed Bd.named
  have hnm := (name_of_methodNamed Bd.named Bd.method).1
  have X0 : Stand p l e ({ frames := 1, cells := 4, slots := 8, locals := 12 } : Room) s m #[(.ref a1), (.ref a2), (.int (0 : Int32)), (.int (0 : Int32)), .null] below meth c s₁ [] 0 0 := Stand.of_body Bd
  have e0 : s₁.heap = h0 := by rw [← hh, Bd.state]; rfl
  have hS0 : s.Since s.vm s.heap.size := (State.WarmedH.refl s).since _
  have hk0 : s.heap.size ≤ h0.size := Nat.le_of_eq (by rw [hh])
  have X0 : Stand p l e ({ frames := 1, cells := 4, slots := 8, locals := 12 } : Room) (s.setVm s.vm) m #[(.ref a1), (.ref a2), (.int (0 : Int32)), (.int (0 : Int32)), .null] below meth c s₁ [] 0 0 := X0
  have hZ : Z.Warmed39 (s.setVm s.vm).vm := hZ
  have hown : (s.setVm s.vm).vm.findClass "java/lang/String" = some m.cls := hown
  have ch0 : CHr Z own_EL s.vm s.heap s.vm h0 := by have q := CHr.refl hH0; rw [← hh] at q ⊢; exact q
  have N0 := Fr.nil n0
  suffices hgo : ODH Z own_EL p e s below (Q_rmE4 Z a1 a2 h0 n0) ({ frames := 1, cells := 4, slots := 8, locals := 12 } : Room).cells ({ frames := 1, cells := 4, slots := 8, locals := 12 } : Room).slots (s₁.setTop (mkF m 0 #[.val (.ref a1), .val (.ref a2), .val (.int (0 : Int32)), .val (.int (0 : Int32)), .val .null, .unset] [])) by
    obtain ⟨s₂, o, hgo1, hgo2⟩ := hgo
    exact ⟨s₂, o, castTop (ef0 m a1 a2 (0 : Int32) (0 : Int32)) hgo1, hgo2⟩
  refine ODH.go (B := (s₁.setTop (mkF m 1 #[.val (.ref a1), .val (.ref a2), .val (.int (0 : Int32)), .val (.int (0 : Int32)), .val .null, .unset] [(.ref a1)]))) (fun t k => XS.aloadN X0.here hx rfl (hb hby d3_0) rfl rfl k) ?_
  obtain ⟨T1, X1, e1, st1⟩ := initO X0 hx hZ hown (Wd15 hw) (Wd16 hw) (Wd17 hw) e0 (g := (mkF m 1 #[.val (.ref a1), .val (.ref a2), .val (.int (0 : Int32)), .val (.int (0 : Int32)), .val .null, .unset] [(.ref a1)])) rfl (by rw [hml]; rfl) rfl (hb hby d3_1) (by decide) (W := 0) (by show 2 * 0 + _ ≤ _; exact Nat.le_of_eq rfl) (by decide)
  refine ODH.go (B := (T1.setTop (mkF m 4 #[.val (.ref a1), .val (.ref a2), .val (.int (0 : Int32)), .val (.int (0 : Int32)), .val .null, .unset] []))) st1 ?_
  refine ODH.go (B := (T1.setTop (mkF m 5 #[.val (.ref a1), .val (.ref a2), .val (.int (0 : Int32)), .val (.int (0 : Int32)), .val .null, .unset] [(.int (0 : Int32))]))) (fun t k => XS.iloadN X1.here hx rfl (hb hby d3_4) rfl k) ?_
  refine ODH.go (B := (T1.setTop (mkF m 8 #[.val (.ref a1), .val (.ref a2), .val (.int (0 : Int32)), .val (.int (0 : Int32)), .val .null, .unset] []))) (fun t k => XS.ifNo X1.here hx rfl (hb hby d3_5) rfl (by rw [if0]; exact (teq (by decide : (0 : Int32) = (0 : Int32))).2) k) ?_
  refine ODH.go (B := (T1.setTop (mkF m 9 #[.val (.ref a1), .val (.ref a2), .val (.int (0 : Int32)), .val (.int (0 : Int32)), .val .null, .unset] [(.ref a1)]))) (fun t k => XS.aloadN X1.here hx rfl (hb hby d3_8) rfl rfl k) ?_
  obtain ⟨b2, T2, h2, k2, t2, kb2, X2, e2, E2, hS2, hk2, hZ, hown, Ea2, Ca2, Va2, Ab2, la2, lb2, cr2, -, ns2, st2⟩ := ldcCH X1 hx hZ hown (Wd86 hw) (wS_in hw) e1 hS0 hk0 (EL_in hw) (List.mem_of_getElem? (i := 1) rfl) ch0.1 (vs := []) (z := (0 : Int32)) ⟨by decide, by decide⟩ (by decide) (by decide) (g := (mkF m 9 #[.val (.ref a1), .val (.ref a2), .val (.int (0 : Int32)), .val (.int (0 : Int32)), .val .null, .unset] [(.ref a1)])) rfl (hb hby d3_9) (n := 0) (by decide) (by decide) (Nat.le_of_ble_eq_true rfl) (Nat.le_of_ble_eq_true rfl)
  have ch2 := ch0.trans cr2
  have na2_a1 := ns2 a1 (own_safeNull hZ.alike (E1.ext E2) (F1.ext E2))
  refine ODH.go (B := (T2.setTop (mkF m 11 #[.val (.ref a1), .val (.ref a2), .val (.int (0 : Int32)), .val (.int (0 : Int32)), .val .null, .unset] [(.ref b2), (.ref a1)]))) st2 ?_
  obtain ⟨T3, X3, e3, st3⟩ := getF X2 hx hZ hown (host := "") (Or.inl (Wd32 hw)) Via.refl e2 Va2 (g := (mkF m 11 #[.val (.ref a1), .val (.ref a2), .val (.int (0 : Int32)), .val (.int (0 : Int32)), .val .null, .unset] [(.ref b2), (.ref a1)])) rfl rfl (hb hby d3_11)
  refine ODH.go (B := (T3.setTop (mkF m 14 #[.val (.ref a1), .val (.ref a2), .val (.int (0 : Int32)), .val (.int (0 : Int32)), .val .null, .unset] [(.ref t2), (.ref a1)]))) st3 ?_
  have f4 := (F1.ext E2)
  have f5 := (E1.ext E2)
  obtain ⟨T6, h6, X6, e6, W6, st6⟩ := putF X3 hx hZ hown (host := "") (Or.inl (Wd32 hw)) Via.refl e3 f4 f5 (Or.inr ⟨(Wd33 hw), rfl, hnm⟩) (Wd5 hw) (ty := (.array .byte)) (by decide) rfl rfl (g := (mkF m 14 #[.val (.ref a1), .val (.ref a2), .val (.int (0 : Int32)), .val (.int (0 : Int32)), .val .null, .unset] [(.ref t2), (.ref a1)])) rfl rfl (hb hby d3_14)
  have Fx6 := f4.same W6
  have N6 := Fr.snoc X6 N0 g1
  refine ODH.go (B := (T6.setTop (mkF m 17 #[.val (.ref a1), .val (.ref a2), .val (.int (0 : Int32)), .val (.int (0 : Int32)), .val .null, .unset] []))) st6 ?_
  have sfch7_a1 := Safe.wr W6 (own_safeNull hZ.alike (E1.ext E2) (F1.ext E2)) ch2.1 (own_safeNull hZ.alike (E1.ext E2) (F1.ext E2))
  have ch7 := ch2.trans (CHr.wr W6 (own_safeNull hZ.alike (E1.ext E2) (F1.ext E2)) ch2.1)
  refine ODH.go (B := (T6.setTop (mkF m 18 #[.val (.ref a1), .val (.ref a2), .val (.int (0 : Int32)), .val (.int (0 : Int32)), .val .null, .unset] [(.ref a1)]))) (fun t k => XS.aloadN X6.here hx rfl (hb hby d3_17) rfl rfl k) ?_
  obtain ⟨b8, T8, h8, k8, t8, kb8, X8, e8, E8, hS8, hk8, hZ, hown, Ea8, Ca8, Va8, Ab8, la8, lb8, cr8, -, ns8, st8⟩ := ldcCH X6 hx hZ hown (Wd86 hw) (wS_in hw) e6 hS2 (Nat.le_trans hk2 (Keep.of_wr W6).1) (EL_in hw) (List.mem_of_getElem? (i := 1) rfl) ch7.1 (vs := []) (z := (0 : Int32)) ⟨by decide, by decide⟩ (by decide) (by decide) (g := (mkF m 18 #[.val (.ref a1), .val (.ref a2), .val (.int (0 : Int32)), .val (.int (0 : Int32)), .val .null, .unset] [(.ref a1)])) rfl (hb hby d3_18) (n := 0) (by decide) (by decide) (Nat.le_of_ble_eq_true rfl) (Nat.le_of_ble_eq_true rfl)
  have ch8 := ch7.trans cr8
  have sf8_a1 := cr8.safe (Nat.lt_of_lt_of_le (Nat.lt_of_lt_of_le E1.lt E2.1) (Keep.of_wr W6).1) sfch7_a1
  have na8_a1 := ns8 a1 sf8_a1
  refine ODH.go (B := (T8.setTop (mkF m 20 #[.val (.ref a1), .val (.ref a2), .val (.int (0 : Int32)), .val (.int (0 : Int32)), .val .null, .unset] [(.ref b8), (.ref a1)]))) st8 ?_
  obtain ⟨T9, X9, e9, st9⟩ := getF X8 hx hZ hown (host := "") (Or.inl (Wd30 hw)) Via.refl e8 Ca8 (g := (mkF m 20 #[.val (.ref a1), .val (.ref a2), .val (.int (0 : Int32)), .val (.int (0 : Int32)), .val .null, .unset] [(.ref b8), (.ref a1)])) rfl rfl (hb hby d3_20)
  refine ODH.go (B := (T9.setTop (mkF m 23 #[.val (.ref a1), .val (.ref a2), .val (.int (0 : Int32)), .val (.int (0 : Int32)), .val .null, .unset] [(.int (0 : Int32)), (.ref a1)]))) st9 ?_
  have f10 := (((F2.ext E2).other W6 (Or.inr (slot_ne (Or.inr (Wd31 hw)) (Or.inr (Wd33 hw)) (by decide) (t := .byte) (t' := (.array .byte)) (by decide) (by decide)))).ext E8)
  have f11 := ((f5.wr W6).ext E8)
  obtain ⟨T12, h12, X12, e12, W12, st12⟩ := putFN X9 hx hZ hown (Wd30 hw) Via.refl e9 f10 f11 (Or.inr ⟨(Wd31 hw), rfl, hnm⟩) (Wd5 hw) (ty := .byte) (v' := (.int (0 : Int32))) (by decide) rfl (by decide) (g := (mkF m 23 #[.val (.ref a1), .val (.ref a2), .val (.int (0 : Int32)), .val (.int (0 : Int32)), .val .null, .unset] [(.int (0 : Int32)), (.ref a1)])) rfl rfl (hb hby d3_23)
  have Fx12 := f10.same W12
  have N12 := Fr.snoc X12 N6 g1
  refine ODH.go (B := (T12.setTop (mkF m 26 #[.val (.ref a1), .val (.ref a2), .val (.int (0 : Int32)), .val (.int (0 : Int32)), .val .null, .unset] []))) st12 ?_
  have sfch13_a1 := Safe.wr W12 sf8_a1 ch8.1 sf8_a1
  have ch13 := ch8.trans (CHr.wr W12 sf8_a1 ch8.1)
  exact ODH.retV X12 hx hlk hS8 (by rw [e12]; exact (Nat.le_trans hk8 (Keep.of_wr W12).1)) (by rw [e12]; exact ch13.trans (CHv.at X12 hZ (EL_in hw) ch13.1)) Bd.returns (hb hby d3_26) (Nat.le_of_ble_eq_true rfl) (Nat.le_of_ble_eq_true rfl) ⟨rfl, N12, by rw [e12]; exact (((((Keep.refl h0 [a1]).ext E2).wr W6 (Or.inl (List.mem_of_getElem? (i := 0) rfl))).ext E8).wr W12 (Or.inl (List.mem_of_getElem? (i := 0) rfl))), by rw [e12]; exact (f11.wr W12), by rw [e12]; exact Fx12, _, _, (Ne.symm na2_a1.2), by rw [e12]; exact ((Fx6.ext E8).other W12 (Or.inr (slot_ne (Or.inr (Wd33 hw)) (Or.inr (Wd31 hw)) (by decide) (t := (.array .byte)) (t' := .byte) (by decide) (by decide)))), by rw [e12]; exact (((Ab2.other W6 (Ne.symm na2_a1.2)).ext E8).other W12 (Ne.symm na2_a1.2))⟩
def Q_rmE1 (Z : State) (a1 : Addr) (a2 : Addr) (h0 : Heap) (n0 : Nat) (v : Option Value) (h : Heap) (L : List Loc) : Prop := v = none ∧ Fr n0 L ∧ Keep h0 h [a1] ∧ Exa Z h a1 "java/lang/String" ∧ Fld Z h a1 "java/lang/String" "coder" "B" (.int (0 : Int32)) ∧ ∃ (b : Addr) (k : ClassId), b ≠ a1 ∧ Fld Z h a1 "java/lang/String" "value" "[B" (.ref b) ∧ Arv Z h b k .byte (0 : Int32) [] (.int 0)
set_option maxRecDepth 65536 in
set_option maxHeartbeats 40000000 in
theorem rmE1 (l : Launch) (Z : State) (a0 : Array Value) (hw : ∀ d ∈ tables_1, d.before a0 Z = true) (ws : List Jvm.Cond) (a1 : Addr) (a2 : Addr) (h0 : Heap) (n0 : Nat) (Z0 : n0 ≤ h0.size) (E1 : Exa Z h0 a1 "java/lang/String") (F1 : Fld Z h0 a1 "java/lang/String" "value" "[B" .null) (F2 : Fld Z h0 a1 "java/lang/String" "coder" "B" (.int (0 : Int32))) (g1 : n0 ≤ a1) (k2 : ClassId) (A2 : Arv Z h0 a2 k2 .char (0 : Int32) [] (.int (0 : Int32))) :
    MetFree l (⟨"java/lang/String", "<init>", "([C)V"⟩ : MethodName) (head1 (Jvm.Cond.code (⟨"java/lang/String", "<init>", "([C)V"⟩ : MethodName) jdk_42_method_3_code 2 none :: ws) ({ frames := 3, cells := 4, slots := 8, locals := 48 } : Room)) (fun a U => a = #[(.ref a1), (.ref a2)] ∧ Z.Warmed39 U.vm ∧ U.heap = h0 ∧ CHv Z own_EL U.vm h0) (fun _ _ _ _ _ => True) (fun _ U o U' => ∃ v L, o = .returned v ∧ Q_rmE1 Z a1 a2 h0 n0 v U'.heap L ∧ CHr Z own_EL U.vm U.heap U'.vm U'.heap ∧ ReturnedEndW U o U' L ({ frames := 3, cells := 4, slots := 8, locals := 48 } : Room).cells ({ frames := 3, cells := 4, slots := 8, locals := 48 } : Room).slots) := by
  refine MetFree.of_bodySF (plainFor_of_name pn0) hisR ?_
  intro p e s m args below meth c s₁ Bd hml0 hP hK
  obtain ⟨rfl, hZ, hh, hH0⟩ := hP
  have hx := Bd.exec
  have hby := Bd.bytes
  have hlk : meth.locks = false := Bd.notSynchronized
  have hml : c.maxLocals = 2 := hml0
  have hown : s.vm.findClass "java/lang/String" = some m.cls := findClass_of_methodNamed Bd.named
  have hnm := (name_of_methodNamed Bd.named Bd.method).1
  have X0 : Stand p l e ({ frames := 3, cells := 4, slots := 8, locals := 48 } : Room) s m #[(.ref a1), (.ref a2)] below meth c s₁ [] 0 0 := Stand.of_body Bd
  have e0 : s₁.heap = h0 := by rw [← hh, Bd.state]; rfl
  have hS0 : s.Since s.vm s.heap.size := (State.WarmedH.refl s).since _
  have hk0 : s.heap.size ≤ h0.size := Nat.le_of_eq (by rw [hh])
  have X0 : Stand p l e ({ frames := 3, cells := 4, slots := 8, locals := 48 } : Room) (s.setVm s.vm) m #[(.ref a1), (.ref a2)] below meth c s₁ [] 0 0 := X0
  have hZ : Z.Warmed39 (s.setVm s.vm).vm := hZ
  have hown : (s.setVm s.vm).vm.findClass "java/lang/String" = some m.cls := hown
  have ch0 : CHr Z own_EL s.vm s.heap s.vm h0 := by have q := CHr.refl hH0; rw [← hh] at q ⊢; exact q
  have N0 := Fr.nil n0
  suffices hgo : ODH Z own_EL p e s below (Q_rmE1 Z a1 a2 h0 n0) ({ frames := 3, cells := 4, slots := 8, locals := 48 } : Room).cells ({ frames := 3, cells := 4, slots := 8, locals := 48 } : Room).slots (s₁.setTop (mkF m 0 #[.val (.ref a1), .val (.ref a2)] [])) by
    obtain ⟨s₂, o, hgo1, hgo2⟩ := hgo
    exact ⟨s₂, o, castTop (ef1 m a1 a2) hgo1, hgo2⟩
  refine ODH.go (B := (s₁.setTop (mkF m 1 #[.val (.ref a1), .val (.ref a2)] [(.ref a1)]))) (fun t k => XS.aloadN X0.here hx rfl (hb hby d2_0) rfl rfl k) ?_
  refine ODH.go (B := (s₁.setTop (mkF m 2 #[.val (.ref a1), .val (.ref a2)] [(.ref a2), (.ref a1)]))) (fun t k => XS.aloadN X0.here hx rfl (hb hby d2_1) rfl rfl k) ?_
  refine ODH.go (B := (s₁.setTop (mkF m 3 #[.val (.ref a1), .val (.ref a2)] [(.int (0 : Int32)), (.ref a2), (.ref a1)]))) (fun t k => XS.iconst X0.here hx rfl (hb hby d2_2) k) ?_
  refine ODH.go (B := (s₁.setTop (mkF m 4 #[.val (.ref a1), .val (.ref a2)] [(.ref a2), (.int (0 : Int32)), (.ref a2), (.ref a1)]))) (fun t k => XS.aloadN X0.here hx rfl (hb hby d2_3) rfl rfl k) ?_
  obtain ⟨cl1, Ar1, hl1⟩ := own_len A2
  refine ODH.go (B := (s₁.setTop (mkF m 5 #[.val (.ref a1), .val (.ref a2)] [(.int (0 : Int32)), (.int (0 : Int32)), (.ref a2), (.ref a1)]))) (fun t k => X0.arraylength hx (by rw [e0]; exact Ar1.1) (State.isArrayOf_alike hZ.alike Ar1.2.1) (g := (mkF m 4 #[.val (.ref a1), .val (.ref a2)] [(.ref a2), (.int (0 : Int32)), (.ref a2), (.ref a1)])) rfl rfl (hb hby d2_4) _ (by rw [hl1]; exact k)) ?_
  refine ODH.go (B := (s₁.setTop (mkF m 6 #[.val (.ref a1), .val (.ref a2)] [.null, (.int (0 : Int32)), (.int (0 : Int32)), (.ref a2), (.ref a1)]))) (fun t k => XS.aconstNull X0.here hx rfl (hb hby d2_5) k) ?_
  obtain ⟨_, _, ⟨T2, L2, k2, n2⟩, -, X2, hs2, gr2, ⟨Lc2, hQ2, l2, y2, z2, cr2⟩, st2⟩ := X0.specialBackS hx (y := (⟨"java/lang/String", "<init>", "([CIILjava/lang/Void;)V"⟩ : MethodName)) rfl hown (mvT hZ (Wd11 hw)) (mvT hZ (Wd12 hw)) (mvT hZ (Wd14 hw)) (by decide) (backOfSH (W := 0) (rmE4 l Z a0 hw [] a1 a2 h0 n0 Z0 E1 F1 F2 g1) hZ (Wd14 hw) (Wd6 hw) (by decide) (by decide) (EL_in hw) ch0.1) (g := (mkF m 6 #[.val (.ref a1), .val (.ref a2)] [.null, (.int (0 : Int32)), (.int (0 : Int32)), (.ref a2), (.ref a1)])) rfl (by rw [hml]; rfl) (Steps.refl _) (a := a1) (argsL := [(.ref a2), (.int (0 : Int32)), (.int (0 : Int32)), .null]) (rest := []) (lenOf pd0 rfl) rfl (by show 2 * 0 + _ ≤ _; exact Nat.le_of_eq rfl) (hb hby d2_6) (fun _ _ => ⟨rfl, e0, (Nat.le_of_ble_eq_true rfl), (Nat.le_of_ble_eq_true rfl)⟩)
  dsimp only [Pt.U, Pt.locs, Pt.cells, Pt.slots] at X2 l2 y2 z2 st2 hQ2 hs2 gr2 cr2
  subst l2 y2 z2
  have X2 : Stand p l e _ (s.setVm T2.vm) m _ below meth c T2 _ _ _ := X2
  have hZ : Z.Warmed39 (s.setVm T2.vm).vm := State.Warmed39.trans (t := (s.setVm s.vm)) hZ hs2.1
  have hown : (s.setVm T2.vm).vm.findClass "java/lang/String" = some m.cls := by rw [show (s.setVm T2.vm).vm = T2.vm from rfl, hs2.1.alike.findClass]; exact hown
  have hS2 : s.Since T2.vm T2.heap.size := hS0.trans hs2 (Nat.le_trans (by rw [e0]; exact hk0) gr2)
  have hk2 : T2.heap.size ≤ T2.heap.size := Nat.le_refl _
  have ch2 := ch0.trans cr2
  obtain ⟨rfl, Nq2, K2, E2, C2, t2, kb2, nt2, V2, A2⟩ := hQ2
  have N2 := Fr.app N0 Nq2
  refine ODH.via (B := (T2.setTop (mkF m 9 #[.val (.ref a1), .val (.ref a2)] []))) st2 ?_
  exact ODH.retV X2 hx hlk hS2 hk2 (ch2.trans (CHv.at X2 hZ (EL_in hw) ch2.1)) Bd.returns (hb hby d2_9) (Nat.le_of_ble_eq_true rfl) (Nat.le_of_ble_eq_true rfl) ⟨rfl, N2, by exact ((Keep.refl h0 [a1]).trans K2 (allS (Or.inl (List.mem_of_getElem? (i := 0) rfl)) all0)), by exact E2, by exact C2, _, _, nt2, by exact V2, by exact A2⟩
def Q_rmIL_0 (Z : State) (a1 : Addr) (h0 : Heap) (v : Option Value) (h : Heap) (L : List Loc) : Prop := v = some (.int (1 : Int32)) ∧ L = [] ∧ h = h0
set_option maxRecDepth 65536 in
set_option maxHeartbeats 40000000 in
theorem rmIL_0 (l : Launch) (Z : State) (a0 : Array Value) (hw : ∀ d ∈ tables_1, d.before a0 Z = true) (ws : List Jvm.Cond) (a1 : Addr) (h0 : Heap) (E1 : Exa Z h0 a1 "java/lang/String") (C1 : Fld Z h0 a1 "java/lang/String" "coder" "B" (.int (0 : Int32))) (t1 : Addr) (kt : ClassId) (V1 : Fld Z h0 a1 "java/lang/String" "value" "[B" (.ref t1)) (A1 : Arv Z h0 t1 kt .byte (0 : Int32) [] (.int 0)) (n0 : Nat) (X00 : Old Z n0 h0) (zc : Int32) (O2 : Sta Z Z.heap "java/lang/String" "COMPACT_STRINGS" "Z" (.int zc)) (P5 : ¬ zc = 0) :
    MetFree l (⟨"java/lang/String", "isLatin1", "()Z"⟩ : MethodName) (head1 (Jvm.Cond.code (⟨"java/lang/String", "isLatin1", "()Z"⟩ : MethodName) jdk_42_method_154_code 1 (some .boolean) :: ws) ({ frames := 0, cells := 0, slots := 0, locals := 0 } : Room)) (fun a U => a = #[(.ref a1)] ∧ Z.Warmed39 U.vm ∧ U.heap = h0) (fun _ _ _ _ _ => True) (fun _ U o U' => ∃ v L, o = .returned v ∧ Q_rmIL_0 Z a1 h0 v U'.heap L ∧ FrameEnd U o U' L ({ frames := 0, cells := 0, slots := 0, locals := 0 } : Room).cells ({ frames := 0, cells := 0, slots := 0, locals := 0 } : Room).slots) := by
  refine MetFree.of_bodySF (plainFor_of_name pn0) hisR ?_
  intro p e s m args below meth c s₁ Bd hml0 hP hK
  obtain ⟨rfl, hZ, hh⟩ := hP
  have hx := Bd.exec
  have hby := Bd.bytes
  have hlk : meth.locks = false := Bd.notSynchronized
  have hml : c.maxLocals = 1 := hml0
  have hown : s.vm.findClass "java/lang/String" = some m.cls := findClass_of_methodNamed Bd.named
  have hnm := (name_of_methodNamed Bd.named Bd.method).1
  have X0 : Stand p l e ({ frames := 0, cells := 0, slots := 0, locals := 0 } : Room) s m #[(.ref a1)] below meth c s₁ [] 0 0 := Stand.of_body Bd
  have e0 : s₁.heap = h0 := by rw [← hh, Bd.state]; rfl
  suffices hgo : OD p e s below (Q_rmIL_0 Z a1 h0) ({ frames := 0, cells := 0, slots := 0, locals := 0 } : Room).cells ({ frames := 0, cells := 0, slots := 0, locals := 0 } : Room).slots (s₁.setTop (mkF m 0 #[.val (.ref a1)] [])) by
    obtain ⟨s₂, o, hgo1, hgo2⟩ := hgo
    exact ⟨s₂, o, castTop (ef2 m a1) hgo1, hgo2⟩
  have f1 := (O2.ext X00.2)
  obtain ⟨T2, X2, e2, st2⟩ := getS2 X0 hx hZ hown (host := "") (Or.inl (Wd18 hw)) Via.refl e0 f1 (g := (mkF m 0 #[.val (.ref a1)] [])) rfl (hb hby d12_0)
  refine OD.go (B := (T2.setTop (mkF m 3 #[.val (.ref a1)] [(.int zc)]))) st2 ?_
  refine OD.go (B := (T2.setTop (mkF m 6 #[.val (.ref a1)] []))) (fun t k => XS.ifNo X2.here hx rfl (hb hby d12_3) rfl (by rw [if0]; exact (feq P5).1) k) ?_
  refine OD.go (B := (T2.setTop (mkF m 7 #[.val (.ref a1)] [(.ref a1)]))) (fun t k => XS.aloadN X2.here hx rfl (hb hby d12_6) rfl rfl k) ?_
  obtain ⟨T3, X3, e3, st3⟩ := getF X2 hx hZ hown (host := "") (Or.inl (Wd30 hw)) Via.refl e2 C1 (g := (mkF m 7 #[.val (.ref a1)] [(.ref a1)])) rfl rfl (hb hby d12_7)
  refine OD.go (B := (T3.setTop (mkF m 10 #[.val (.ref a1)] [(.int (0 : Int32))]))) st3 ?_
  refine OD.go (B := (T3.setTop (mkF m 13 #[.val (.ref a1)] []))) (fun t k => XS.ifNo X3.here hx rfl (hb hby d12_10) rfl (by rw [if0]; exact (teq (by decide : (0 : Int32) = (0 : Int32))).2) k) ?_
  refine OD.go (B := (T3.setTop (mkF m 14 #[.val (.ref a1)] [(.int (1 : Int32))]))) (fun t k => XS.iconst X3.here hx rfl (hb hby d12_13) k) ?_
  refine OD.go (B := (T3.setTop (mkF m 18 #[.val (.ref a1)] [(.int (1 : Int32))]))) (fun t k => XS.goto X3.here hx rfl (pc0 := 14) (pc' := 18) rfl (hb hby d12_14) (by decide) (by decide) k) ?_
  exact OD.ret X3 hx hlk (t := .boolean) Bd.returns rfl (Or.inl ⟨rfl, Or.inr (Or.inl rfl), _, rfl⟩) (hb hby d12_18) (Nat.le_of_ble_eq_true rfl) (Nat.le_of_ble_eq_true rfl) ⟨rfl, rfl, e3⟩
def Q_rmIL_1 (Z : State) (a1 : Addr) (h0 : Heap) (v : Option Value) (h : Heap) (L : List Loc) : Prop := v = some (.int (1 : Int32)) ∧ L = [] ∧ h = h0
set_option maxRecDepth 65536 in
set_option maxHeartbeats 40000000 in
theorem rmIL_1 (l : Launch) (Z : State) (a0 : Array Value) (hw : ∀ d ∈ tables_1, d.before a0 Z = true) (ws : List Jvm.Cond) (a1 : Addr) (h0 : Heap) (E1 : Exa Z h0 a1 "java/lang/String") (C1 : Fld Z h0 a1 "java/lang/String" "coder" "B" (.int (0 : Int32))) (t1 : Addr) (kt : ClassId) (V1 : Fld Z h0 a1 "java/lang/String" "value" "[B" (.ref t1)) (c0 : Int32) (A1 : Arv Z h0 t1 kt .byte (1 : Int32) [(.int c0)] (.int 0)) (n0 : Nat) (X00 : Old Z n0 h0) (zc : Int32) (O2 : Sta Z Z.heap "java/lang/String" "COMPACT_STRINGS" "Z" (.int zc)) (P5 : ¬ zc = 0) :
    MetFree l (⟨"java/lang/String", "isLatin1", "()Z"⟩ : MethodName) (head1 (Jvm.Cond.code (⟨"java/lang/String", "isLatin1", "()Z"⟩ : MethodName) jdk_42_method_154_code 1 (some .boolean) :: ws) ({ frames := 0, cells := 0, slots := 0, locals := 0 } : Room)) (fun a U => a = #[(.ref a1)] ∧ Z.Warmed39 U.vm ∧ U.heap = h0) (fun _ _ _ _ _ => True) (fun _ U o U' => ∃ v L, o = .returned v ∧ Q_rmIL_1 Z a1 h0 v U'.heap L ∧ FrameEnd U o U' L ({ frames := 0, cells := 0, slots := 0, locals := 0 } : Room).cells ({ frames := 0, cells := 0, slots := 0, locals := 0 } : Room).slots) := by
  refine MetFree.of_bodySF (plainFor_of_name pn0) hisR ?_
  intro p e s m args below meth c s₁ Bd hml0 hP hK
  obtain ⟨rfl, hZ, hh⟩ := hP
  have hx := Bd.exec
  have hby := Bd.bytes
  have hlk : meth.locks = false := Bd.notSynchronized
  have hml : c.maxLocals = 1 := hml0
  have hown : s.vm.findClass "java/lang/String" = some m.cls := findClass_of_methodNamed Bd.named
  have hnm := (name_of_methodNamed Bd.named Bd.method).1
  have X0 : Stand p l e ({ frames := 0, cells := 0, slots := 0, locals := 0 } : Room) s m #[(.ref a1)] below meth c s₁ [] 0 0 := Stand.of_body Bd
  have e0 : s₁.heap = h0 := by rw [← hh, Bd.state]; rfl
  suffices hgo : OD p e s below (Q_rmIL_1 Z a1 h0) ({ frames := 0, cells := 0, slots := 0, locals := 0 } : Room).cells ({ frames := 0, cells := 0, slots := 0, locals := 0 } : Room).slots (s₁.setTop (mkF m 0 #[.val (.ref a1)] [])) by
    obtain ⟨s₂, o, hgo1, hgo2⟩ := hgo
    exact ⟨s₂, o, castTop (ef2 m a1) hgo1, hgo2⟩
  have f1 := (O2.ext X00.2)
  obtain ⟨T2, X2, e2, st2⟩ := getS2 X0 hx hZ hown (host := "") (Or.inl (Wd18 hw)) Via.refl e0 f1 (g := (mkF m 0 #[.val (.ref a1)] [])) rfl (hb hby d12_0)
  refine OD.go (B := (T2.setTop (mkF m 3 #[.val (.ref a1)] [(.int zc)]))) st2 ?_
  refine OD.go (B := (T2.setTop (mkF m 6 #[.val (.ref a1)] []))) (fun t k => XS.ifNo X2.here hx rfl (hb hby d12_3) rfl (by rw [if0]; exact (feq P5).1) k) ?_
  refine OD.go (B := (T2.setTop (mkF m 7 #[.val (.ref a1)] [(.ref a1)]))) (fun t k => XS.aloadN X2.here hx rfl (hb hby d12_6) rfl rfl k) ?_
  obtain ⟨T3, X3, e3, st3⟩ := getF X2 hx hZ hown (host := "") (Or.inl (Wd30 hw)) Via.refl e2 C1 (g := (mkF m 7 #[.val (.ref a1)] [(.ref a1)])) rfl rfl (hb hby d12_7)
  refine OD.go (B := (T3.setTop (mkF m 10 #[.val (.ref a1)] [(.int (0 : Int32))]))) st3 ?_
  refine OD.go (B := (T3.setTop (mkF m 13 #[.val (.ref a1)] []))) (fun t k => XS.ifNo X3.here hx rfl (hb hby d12_10) rfl (by rw [if0]; exact (teq (by decide : (0 : Int32) = (0 : Int32))).2) k) ?_
  refine OD.go (B := (T3.setTop (mkF m 14 #[.val (.ref a1)] [(.int (1 : Int32))]))) (fun t k => XS.iconst X3.here hx rfl (hb hby d12_13) k) ?_
  refine OD.go (B := (T3.setTop (mkF m 18 #[.val (.ref a1)] [(.int (1 : Int32))]))) (fun t k => XS.goto X3.here hx rfl (pc0 := 14) (pc' := 18) rfl (hb hby d12_14) (by decide) (by decide) k) ?_
  exact OD.ret X3 hx hlk (t := .boolean) Bd.returns rfl (Or.inl ⟨rfl, Or.inr (Or.inl rfl), _, rfl⟩) (hb hby d12_18) (Nat.le_of_ble_eq_true rfl) (Nat.le_of_ble_eq_true rfl) ⟨rfl, rfl, e3⟩
def Q_rmIL_2 (Z : State) (a1 : Addr) (h0 : Heap) (v : Option Value) (h : Heap) (L : List Loc) : Prop := v = some (.int (1 : Int32)) ∧ L = [] ∧ h = h0
set_option maxRecDepth 65536 in
set_option maxHeartbeats 40000000 in
theorem rmIL_2 (l : Launch) (Z : State) (a0 : Array Value) (hw : ∀ d ∈ tables_1, d.before a0 Z = true) (ws : List Jvm.Cond) (a1 : Addr) (h0 : Heap) (E1 : Exa Z h0 a1 "java/lang/String") (C1 : Fld Z h0 a1 "java/lang/String" "coder" "B" (.int (0 : Int32))) (t1 : Addr) (kt : ClassId) (V1 : Fld Z h0 a1 "java/lang/String" "value" "[B" (.ref t1)) (c0 c1 : Int32) (A1 : Arv Z h0 t1 kt .byte (2 : Int32) [(.int c0), (.int c1)] (.int 0)) (n0 : Nat) (X00 : Old Z n0 h0) (zc : Int32) (O2 : Sta Z Z.heap "java/lang/String" "COMPACT_STRINGS" "Z" (.int zc)) (P5 : ¬ zc = 0) :
    MetFree l (⟨"java/lang/String", "isLatin1", "()Z"⟩ : MethodName) (head1 (Jvm.Cond.code (⟨"java/lang/String", "isLatin1", "()Z"⟩ : MethodName) jdk_42_method_154_code 1 (some .boolean) :: ws) ({ frames := 0, cells := 0, slots := 0, locals := 0 } : Room)) (fun a U => a = #[(.ref a1)] ∧ Z.Warmed39 U.vm ∧ U.heap = h0) (fun _ _ _ _ _ => True) (fun _ U o U' => ∃ v L, o = .returned v ∧ Q_rmIL_2 Z a1 h0 v U'.heap L ∧ FrameEnd U o U' L ({ frames := 0, cells := 0, slots := 0, locals := 0 } : Room).cells ({ frames := 0, cells := 0, slots := 0, locals := 0 } : Room).slots) := by
  refine MetFree.of_bodySF (plainFor_of_name pn0) hisR ?_
  intro p e s m args below meth c s₁ Bd hml0 hP hK
  obtain ⟨rfl, hZ, hh⟩ := hP
  have hx := Bd.exec
  have hby := Bd.bytes
  have hlk : meth.locks = false := Bd.notSynchronized
  have hml : c.maxLocals = 1 := hml0
  have hown : s.vm.findClass "java/lang/String" = some m.cls := findClass_of_methodNamed Bd.named
  have hnm := (name_of_methodNamed Bd.named Bd.method).1
  have X0 : Stand p l e ({ frames := 0, cells := 0, slots := 0, locals := 0 } : Room) s m #[(.ref a1)] below meth c s₁ [] 0 0 := Stand.of_body Bd
  have e0 : s₁.heap = h0 := by rw [← hh, Bd.state]; rfl
  suffices hgo : OD p e s below (Q_rmIL_2 Z a1 h0) ({ frames := 0, cells := 0, slots := 0, locals := 0 } : Room).cells ({ frames := 0, cells := 0, slots := 0, locals := 0 } : Room).slots (s₁.setTop (mkF m 0 #[.val (.ref a1)] [])) by
    obtain ⟨s₂, o, hgo1, hgo2⟩ := hgo
    exact ⟨s₂, o, castTop (ef2 m a1) hgo1, hgo2⟩
  have f1 := (O2.ext X00.2)
  obtain ⟨T2, X2, e2, st2⟩ := getS2 X0 hx hZ hown (host := "") (Or.inl (Wd18 hw)) Via.refl e0 f1 (g := (mkF m 0 #[.val (.ref a1)] [])) rfl (hb hby d12_0)
  refine OD.go (B := (T2.setTop (mkF m 3 #[.val (.ref a1)] [(.int zc)]))) st2 ?_
  refine OD.go (B := (T2.setTop (mkF m 6 #[.val (.ref a1)] []))) (fun t k => XS.ifNo X2.here hx rfl (hb hby d12_3) rfl (by rw [if0]; exact (feq P5).1) k) ?_
  refine OD.go (B := (T2.setTop (mkF m 7 #[.val (.ref a1)] [(.ref a1)]))) (fun t k => XS.aloadN X2.here hx rfl (hb hby d12_6) rfl rfl k) ?_
  obtain ⟨T3, X3, e3, st3⟩ := getF X2 hx hZ hown (host := "") (Or.inl (Wd30 hw)) Via.refl e2 C1 (g := (mkF m 7 #[.val (.ref a1)] [(.ref a1)])) rfl rfl (hb hby d12_7)
  refine OD.go (B := (T3.setTop (mkF m 10 #[.val (.ref a1)] [(.int (0 : Int32))]))) st3 ?_
  refine OD.go (B := (T3.setTop (mkF m 13 #[.val (.ref a1)] []))) (fun t k => XS.ifNo X3.here hx rfl (hb hby d12_10) rfl (by rw [if0]; exact (teq (by decide : (0 : Int32) = (0 : Int32))).2) k) ?_
  refine OD.go (B := (T3.setTop (mkF m 14 #[.val (.ref a1)] [(.int (1 : Int32))]))) (fun t k => XS.iconst X3.here hx rfl (hb hby d12_13) k) ?_
  refine OD.go (B := (T3.setTop (mkF m 18 #[.val (.ref a1)] [(.int (1 : Int32))]))) (fun t k => XS.goto X3.here hx rfl (pc0 := 14) (pc' := 18) rfl (hb hby d12_14) (by decide) (by decide) k) ?_
  exact OD.ret X3 hx hlk (t := .boolean) Bd.returns rfl (Or.inl ⟨rfl, Or.inr (Or.inl rfl), _, rfl⟩) (hb hby d12_18) (Nat.le_of_ble_eq_true rfl) (Nat.le_of_ble_eq_true rfl) ⟨rfl, rfl, e3⟩
def Q_rmIL_3 (Z : State) (a1 : Addr) (h0 : Heap) (v : Option Value) (h : Heap) (L : List Loc) : Prop := v = some (.int (1 : Int32)) ∧ L = [] ∧ h = h0
set_option maxRecDepth 65536 in
set_option maxHeartbeats 40000000 in
theorem rmIL_3 (l : Launch) (Z : State) (a0 : Array Value) (hw : ∀ d ∈ tables_1, d.before a0 Z = true) (ws : List Jvm.Cond) (a1 : Addr) (h0 : Heap) (E1 : Exa Z h0 a1 "java/lang/String") (C1 : Fld Z h0 a1 "java/lang/String" "coder" "B" (.int (0 : Int32))) (t1 : Addr) (kt : ClassId) (V1 : Fld Z h0 a1 "java/lang/String" "value" "[B" (.ref t1)) (c0 c1 c2 : Int32) (A1 : Arv Z h0 t1 kt .byte (3 : Int32) [(.int c0), (.int c1), (.int c2)] (.int 0)) (n0 : Nat) (X00 : Old Z n0 h0) (zc : Int32) (O2 : Sta Z Z.heap "java/lang/String" "COMPACT_STRINGS" "Z" (.int zc)) (P5 : ¬ zc = 0) :
    MetFree l (⟨"java/lang/String", "isLatin1", "()Z"⟩ : MethodName) (head1 (Jvm.Cond.code (⟨"java/lang/String", "isLatin1", "()Z"⟩ : MethodName) jdk_42_method_154_code 1 (some .boolean) :: ws) ({ frames := 0, cells := 0, slots := 0, locals := 0 } : Room)) (fun a U => a = #[(.ref a1)] ∧ Z.Warmed39 U.vm ∧ U.heap = h0) (fun _ _ _ _ _ => True) (fun _ U o U' => ∃ v L, o = .returned v ∧ Q_rmIL_3 Z a1 h0 v U'.heap L ∧ FrameEnd U o U' L ({ frames := 0, cells := 0, slots := 0, locals := 0 } : Room).cells ({ frames := 0, cells := 0, slots := 0, locals := 0 } : Room).slots) := by
  refine MetFree.of_bodySF (plainFor_of_name pn0) hisR ?_
  intro p e s m args below meth c s₁ Bd hml0 hP hK
  obtain ⟨rfl, hZ, hh⟩ := hP
  have hx := Bd.exec
  have hby := Bd.bytes
  have hlk : meth.locks = false := Bd.notSynchronized
  have hml : c.maxLocals = 1 := hml0
  have hown : s.vm.findClass "java/lang/String" = some m.cls := findClass_of_methodNamed Bd.named
  have hnm := (name_of_methodNamed Bd.named Bd.method).1
  have X0 : Stand p l e ({ frames := 0, cells := 0, slots := 0, locals := 0 } : Room) s m #[(.ref a1)] below meth c s₁ [] 0 0 := Stand.of_body Bd
  have e0 : s₁.heap = h0 := by rw [← hh, Bd.state]; rfl
  suffices hgo : OD p e s below (Q_rmIL_3 Z a1 h0) ({ frames := 0, cells := 0, slots := 0, locals := 0 } : Room).cells ({ frames := 0, cells := 0, slots := 0, locals := 0 } : Room).slots (s₁.setTop (mkF m 0 #[.val (.ref a1)] [])) by
    obtain ⟨s₂, o, hgo1, hgo2⟩ := hgo
    exact ⟨s₂, o, castTop (ef2 m a1) hgo1, hgo2⟩
  have f1 := (O2.ext X00.2)
  obtain ⟨T2, X2, e2, st2⟩ := getS2 X0 hx hZ hown (host := "") (Or.inl (Wd18 hw)) Via.refl e0 f1 (g := (mkF m 0 #[.val (.ref a1)] [])) rfl (hb hby d12_0)
  refine OD.go (B := (T2.setTop (mkF m 3 #[.val (.ref a1)] [(.int zc)]))) st2 ?_
  refine OD.go (B := (T2.setTop (mkF m 6 #[.val (.ref a1)] []))) (fun t k => XS.ifNo X2.here hx rfl (hb hby d12_3) rfl (by rw [if0]; exact (feq P5).1) k) ?_
  refine OD.go (B := (T2.setTop (mkF m 7 #[.val (.ref a1)] [(.ref a1)]))) (fun t k => XS.aloadN X2.here hx rfl (hb hby d12_6) rfl rfl k) ?_
  obtain ⟨T3, X3, e3, st3⟩ := getF X2 hx hZ hown (host := "") (Or.inl (Wd30 hw)) Via.refl e2 C1 (g := (mkF m 7 #[.val (.ref a1)] [(.ref a1)])) rfl rfl (hb hby d12_7)
  refine OD.go (B := (T3.setTop (mkF m 10 #[.val (.ref a1)] [(.int (0 : Int32))]))) st3 ?_
  refine OD.go (B := (T3.setTop (mkF m 13 #[.val (.ref a1)] []))) (fun t k => XS.ifNo X3.here hx rfl (hb hby d12_10) rfl (by rw [if0]; exact (teq (by decide : (0 : Int32) = (0 : Int32))).2) k) ?_
  refine OD.go (B := (T3.setTop (mkF m 14 #[.val (.ref a1)] [(.int (1 : Int32))]))) (fun t k => XS.iconst X3.here hx rfl (hb hby d12_13) k) ?_
  refine OD.go (B := (T3.setTop (mkF m 18 #[.val (.ref a1)] [(.int (1 : Int32))]))) (fun t k => XS.goto X3.here hx rfl (pc0 := 14) (pc' := 18) rfl (hb hby d12_14) (by decide) (by decide) k) ?_
  exact OD.ret X3 hx hlk (t := .boolean) Bd.returns rfl (Or.inl ⟨rfl, Or.inr (Or.inl rfl), _, rfl⟩) (hb hby d12_18) (Nat.le_of_ble_eq_true rfl) (Nat.le_of_ble_eq_true rfl) ⟨rfl, rfl, e3⟩
def Q_rmIL_4 (Z : State) (a1 : Addr) (h0 : Heap) (v : Option Value) (h : Heap) (L : List Loc) : Prop := v = some (.int (1 : Int32)) ∧ L = [] ∧ h = h0
set_option maxRecDepth 65536 in
set_option maxHeartbeats 40000000 in
theorem rmIL_4 (l : Launch) (Z : State) (a0 : Array Value) (hw : ∀ d ∈ tables_1, d.before a0 Z = true) (ws : List Jvm.Cond) (a1 : Addr) (h0 : Heap) (E1 : Exa Z h0 a1 "java/lang/String") (C1 : Fld Z h0 a1 "java/lang/String" "coder" "B" (.int (0 : Int32))) (t1 : Addr) (kt : ClassId) (V1 : Fld Z h0 a1 "java/lang/String" "value" "[B" (.ref t1)) (c0 c1 c2 c3 : Int32) (A1 : Arv Z h0 t1 kt .byte (4 : Int32) [(.int c0), (.int c1), (.int c2), (.int c3)] (.int 0)) (n0 : Nat) (X00 : Old Z n0 h0) (zc : Int32) (O2 : Sta Z Z.heap "java/lang/String" "COMPACT_STRINGS" "Z" (.int zc)) (P5 : ¬ zc = 0) :
    MetFree l (⟨"java/lang/String", "isLatin1", "()Z"⟩ : MethodName) (head1 (Jvm.Cond.code (⟨"java/lang/String", "isLatin1", "()Z"⟩ : MethodName) jdk_42_method_154_code 1 (some .boolean) :: ws) ({ frames := 0, cells := 0, slots := 0, locals := 0 } : Room)) (fun a U => a = #[(.ref a1)] ∧ Z.Warmed39 U.vm ∧ U.heap = h0) (fun _ _ _ _ _ => True) (fun _ U o U' => ∃ v L, o = .returned v ∧ Q_rmIL_4 Z a1 h0 v U'.heap L ∧ FrameEnd U o U' L ({ frames := 0, cells := 0, slots := 0, locals := 0 } : Room).cells ({ frames := 0, cells := 0, slots := 0, locals := 0 } : Room).slots) := by
  refine MetFree.of_bodySF (plainFor_of_name pn0) hisR ?_
  intro p e s m args below meth c s₁ Bd hml0 hP hK
  obtain ⟨rfl, hZ, hh⟩ := hP
  have hx := Bd.exec
  have hby := Bd.bytes
  have hlk : meth.locks = false := Bd.notSynchronized
  have hml : c.maxLocals = 1 := hml0
  have hown : s.vm.findClass "java/lang/String" = some m.cls := findClass_of_methodNamed Bd.named
  have hnm := (name_of_methodNamed Bd.named Bd.method).1
  have X0 : Stand p l e ({ frames := 0, cells := 0, slots := 0, locals := 0 } : Room) s m #[(.ref a1)] below meth c s₁ [] 0 0 := Stand.of_body Bd
  have e0 : s₁.heap = h0 := by rw [← hh, Bd.state]; rfl
  suffices hgo : OD p e s below (Q_rmIL_4 Z a1 h0) ({ frames := 0, cells := 0, slots := 0, locals := 0 } : Room).cells ({ frames := 0, cells := 0, slots := 0, locals := 0 } : Room).slots (s₁.setTop (mkF m 0 #[.val (.ref a1)] [])) by
    obtain ⟨s₂, o, hgo1, hgo2⟩ := hgo
    exact ⟨s₂, o, castTop (ef2 m a1) hgo1, hgo2⟩
  have f1 := (O2.ext X00.2)
  obtain ⟨T2, X2, e2, st2⟩ := getS2 X0 hx hZ hown (host := "") (Or.inl (Wd18 hw)) Via.refl e0 f1 (g := (mkF m 0 #[.val (.ref a1)] [])) rfl (hb hby d12_0)
  refine OD.go (B := (T2.setTop (mkF m 3 #[.val (.ref a1)] [(.int zc)]))) st2 ?_
  refine OD.go (B := (T2.setTop (mkF m 6 #[.val (.ref a1)] []))) (fun t k => XS.ifNo X2.here hx rfl (hb hby d12_3) rfl (by rw [if0]; exact (feq P5).1) k) ?_
  refine OD.go (B := (T2.setTop (mkF m 7 #[.val (.ref a1)] [(.ref a1)]))) (fun t k => XS.aloadN X2.here hx rfl (hb hby d12_6) rfl rfl k) ?_
  obtain ⟨T3, X3, e3, st3⟩ := getF X2 hx hZ hown (host := "") (Or.inl (Wd30 hw)) Via.refl e2 C1 (g := (mkF m 7 #[.val (.ref a1)] [(.ref a1)])) rfl rfl (hb hby d12_7)
  refine OD.go (B := (T3.setTop (mkF m 10 #[.val (.ref a1)] [(.int (0 : Int32))]))) st3 ?_
  refine OD.go (B := (T3.setTop (mkF m 13 #[.val (.ref a1)] []))) (fun t k => XS.ifNo X3.here hx rfl (hb hby d12_10) rfl (by rw [if0]; exact (teq (by decide : (0 : Int32) = (0 : Int32))).2) k) ?_
  refine OD.go (B := (T3.setTop (mkF m 14 #[.val (.ref a1)] [(.int (1 : Int32))]))) (fun t k => XS.iconst X3.here hx rfl (hb hby d12_13) k) ?_
  refine OD.go (B := (T3.setTop (mkF m 18 #[.val (.ref a1)] [(.int (1 : Int32))]))) (fun t k => XS.goto X3.here hx rfl (pc0 := 14) (pc' := 18) rfl (hb hby d12_14) (by decide) (by decide) k) ?_
  exact OD.ret X3 hx hlk (t := .boolean) Bd.returns rfl (Or.inl ⟨rfl, Or.inr (Or.inl rfl), _, rfl⟩) (hb hby d12_18) (Nat.le_of_ble_eq_true rfl) (Nat.le_of_ble_eq_true rfl) ⟨rfl, rfl, e3⟩
def Q_rmCo_0 (Z : State) (a1 : Addr) (h0 : Heap) (v : Option Value) (h : Heap) (L : List Loc) : Prop := v = some (.int (0 : Int32)) ∧ L = [] ∧ h = h0
set_option maxRecDepth 65536 in
set_option maxHeartbeats 40000000 in
theorem rmCo_0 (l : Launch) (Z : State) (a0 : Array Value) (hw : ∀ d ∈ tables_1, d.before a0 Z = true) (ws : List Jvm.Cond) (a1 : Addr) (h0 : Heap) (E1 : Exa Z h0 a1 "java/lang/String") (C1 : Fld Z h0 a1 "java/lang/String" "coder" "B" (.int (0 : Int32))) (t1 : Addr) (kt : ClassId) (V1 : Fld Z h0 a1 "java/lang/String" "value" "[B" (.ref t1)) (A1 : Arv Z h0 t1 kt .byte (0 : Int32) [] (.int 0)) (n0 : Nat) (X00 : Old Z n0 h0) (zc : Int32) (O2 : Sta Z Z.heap "java/lang/String" "COMPACT_STRINGS" "Z" (.int zc)) (P5 : ¬ zc = 0) :
    MetFree l (⟨"java/lang/String", "coder", "()B"⟩ : MethodName) (head1 (Jvm.Cond.code (⟨"java/lang/String", "coder", "()B"⟩ : MethodName) jdk_42_method_152_code 1 (some .byte) :: ws) ({ frames := 0, cells := 0, slots := 0, locals := 0 } : Room)) (fun a U => a = #[(.ref a1)] ∧ Z.Warmed39 U.vm ∧ U.heap = h0) (fun _ _ _ _ _ => True) (fun _ U o U' => ∃ v L, o = .returned v ∧ Q_rmCo_0 Z a1 h0 v U'.heap L ∧ FrameEnd U o U' L ({ frames := 0, cells := 0, slots := 0, locals := 0 } : Room).cells ({ frames := 0, cells := 0, slots := 0, locals := 0 } : Room).slots) := by
  refine MetFree.of_bodySF (plainFor_of_name pn0) hisR ?_
  intro p e s m args below meth c s₁ Bd hml0 hP hK
  obtain ⟨rfl, hZ, hh⟩ := hP
  have hx := Bd.exec
  have hby := Bd.bytes
  have hlk : meth.locks = false := Bd.notSynchronized
  have hml : c.maxLocals = 1 := hml0
  have hown : s.vm.findClass "java/lang/String" = some m.cls := findClass_of_methodNamed Bd.named
  have hnm := (name_of_methodNamed Bd.named Bd.method).1
  have X0 : Stand p l e ({ frames := 0, cells := 0, slots := 0, locals := 0 } : Room) s m #[(.ref a1)] below meth c s₁ [] 0 0 := Stand.of_body Bd
  have e0 : s₁.heap = h0 := by rw [← hh, Bd.state]; rfl
  suffices hgo : OD p e s below (Q_rmCo_0 Z a1 h0) ({ frames := 0, cells := 0, slots := 0, locals := 0 } : Room).cells ({ frames := 0, cells := 0, slots := 0, locals := 0 } : Room).slots (s₁.setTop (mkF m 0 #[.val (.ref a1)] [])) by
    obtain ⟨s₂, o, hgo1, hgo2⟩ := hgo
    exact ⟨s₂, o, castTop (ef2 m a1) hgo1, hgo2⟩
  have f1 := (O2.ext X00.2)
  obtain ⟨T2, X2, e2, st2⟩ := getS2 X0 hx hZ hown (host := "") (Or.inl (Wd18 hw)) Via.refl e0 f1 (g := (mkF m 0 #[.val (.ref a1)] [])) rfl (hb hby d14_0)
  refine OD.go (B := (T2.setTop (mkF m 3 #[.val (.ref a1)] [(.int zc)]))) st2 ?_
  refine OD.go (B := (T2.setTop (mkF m 6 #[.val (.ref a1)] []))) (fun t k => XS.ifNo X2.here hx rfl (hb hby d14_3) rfl (by rw [if0]; exact (feq P5).1) k) ?_
  refine OD.go (B := (T2.setTop (mkF m 7 #[.val (.ref a1)] [(.ref a1)]))) (fun t k => XS.aloadN X2.here hx rfl (hb hby d14_6) rfl rfl k) ?_
  obtain ⟨T3, X3, e3, st3⟩ := getF X2 hx hZ hown (host := "") (Or.inl (Wd30 hw)) Via.refl e2 C1 (g := (mkF m 7 #[.val (.ref a1)] [(.ref a1)])) rfl rfl (hb hby d14_7)
  refine OD.go (B := (T3.setTop (mkF m 10 #[.val (.ref a1)] [(.int (0 : Int32))]))) st3 ?_
  refine OD.go (B := (T3.setTop (mkF m 14 #[.val (.ref a1)] [(.int (0 : Int32))]))) (fun t k => XS.goto X3.here hx rfl (pc0 := 10) (pc' := 14) rfl (hb hby d14_10) (by decide) (by decide) k) ?_
  exact OD.ret X3 hx hlk (t := .byte) Bd.returns rfl (Or.inl ⟨rfl, Or.inr (Or.inr (Or.inl rfl)), _, rfl⟩) (hb hby d14_14) (Nat.le_of_ble_eq_true rfl) (Nat.le_of_ble_eq_true rfl) ⟨rfl, rfl, e3⟩
def Q_rmCo_1 (Z : State) (a1 : Addr) (h0 : Heap) (v : Option Value) (h : Heap) (L : List Loc) : Prop := v = some (.int (0 : Int32)) ∧ L = [] ∧ h = h0
set_option maxRecDepth 65536 in
set_option maxHeartbeats 40000000 in
theorem rmCo_1 (l : Launch) (Z : State) (a0 : Array Value) (hw : ∀ d ∈ tables_1, d.before a0 Z = true) (ws : List Jvm.Cond) (a1 : Addr) (h0 : Heap) (E1 : Exa Z h0 a1 "java/lang/String") (C1 : Fld Z h0 a1 "java/lang/String" "coder" "B" (.int (0 : Int32))) (t1 : Addr) (kt : ClassId) (V1 : Fld Z h0 a1 "java/lang/String" "value" "[B" (.ref t1)) (c0 : Int32) (A1 : Arv Z h0 t1 kt .byte (1 : Int32) [(.int c0)] (.int 0)) (n0 : Nat) (X00 : Old Z n0 h0) (zc : Int32) (O2 : Sta Z Z.heap "java/lang/String" "COMPACT_STRINGS" "Z" (.int zc)) (P5 : ¬ zc = 0) :
    MetFree l (⟨"java/lang/String", "coder", "()B"⟩ : MethodName) (head1 (Jvm.Cond.code (⟨"java/lang/String", "coder", "()B"⟩ : MethodName) jdk_42_method_152_code 1 (some .byte) :: ws) ({ frames := 0, cells := 0, slots := 0, locals := 0 } : Room)) (fun a U => a = #[(.ref a1)] ∧ Z.Warmed39 U.vm ∧ U.heap = h0) (fun _ _ _ _ _ => True) (fun _ U o U' => ∃ v L, o = .returned v ∧ Q_rmCo_1 Z a1 h0 v U'.heap L ∧ FrameEnd U o U' L ({ frames := 0, cells := 0, slots := 0, locals := 0 } : Room).cells ({ frames := 0, cells := 0, slots := 0, locals := 0 } : Room).slots) := by
  refine MetFree.of_bodySF (plainFor_of_name pn0) hisR ?_
  intro p e s m args below meth c s₁ Bd hml0 hP hK
  obtain ⟨rfl, hZ, hh⟩ := hP
  have hx := Bd.exec
  have hby := Bd.bytes
  have hlk : meth.locks = false := Bd.notSynchronized
  have hml : c.maxLocals = 1 := hml0
  have hown : s.vm.findClass "java/lang/String" = some m.cls := findClass_of_methodNamed Bd.named
  have hnm := (name_of_methodNamed Bd.named Bd.method).1
  have X0 : Stand p l e ({ frames := 0, cells := 0, slots := 0, locals := 0 } : Room) s m #[(.ref a1)] below meth c s₁ [] 0 0 := Stand.of_body Bd
  have e0 : s₁.heap = h0 := by rw [← hh, Bd.state]; rfl
  suffices hgo : OD p e s below (Q_rmCo_1 Z a1 h0) ({ frames := 0, cells := 0, slots := 0, locals := 0 } : Room).cells ({ frames := 0, cells := 0, slots := 0, locals := 0 } : Room).slots (s₁.setTop (mkF m 0 #[.val (.ref a1)] [])) by
    obtain ⟨s₂, o, hgo1, hgo2⟩ := hgo
    exact ⟨s₂, o, castTop (ef2 m a1) hgo1, hgo2⟩
  have f1 := (O2.ext X00.2)
  obtain ⟨T2, X2, e2, st2⟩ := getS2 X0 hx hZ hown (host := "") (Or.inl (Wd18 hw)) Via.refl e0 f1 (g := (mkF m 0 #[.val (.ref a1)] [])) rfl (hb hby d14_0)
  refine OD.go (B := (T2.setTop (mkF m 3 #[.val (.ref a1)] [(.int zc)]))) st2 ?_
  refine OD.go (B := (T2.setTop (mkF m 6 #[.val (.ref a1)] []))) (fun t k => XS.ifNo X2.here hx rfl (hb hby d14_3) rfl (by rw [if0]; exact (feq P5).1) k) ?_
  refine OD.go (B := (T2.setTop (mkF m 7 #[.val (.ref a1)] [(.ref a1)]))) (fun t k => XS.aloadN X2.here hx rfl (hb hby d14_6) rfl rfl k) ?_
  obtain ⟨T3, X3, e3, st3⟩ := getF X2 hx hZ hown (host := "") (Or.inl (Wd30 hw)) Via.refl e2 C1 (g := (mkF m 7 #[.val (.ref a1)] [(.ref a1)])) rfl rfl (hb hby d14_7)
  refine OD.go (B := (T3.setTop (mkF m 10 #[.val (.ref a1)] [(.int (0 : Int32))]))) st3 ?_
  refine OD.go (B := (T3.setTop (mkF m 14 #[.val (.ref a1)] [(.int (0 : Int32))]))) (fun t k => XS.goto X3.here hx rfl (pc0 := 10) (pc' := 14) rfl (hb hby d14_10) (by decide) (by decide) k) ?_
  exact OD.ret X3 hx hlk (t := .byte) Bd.returns rfl (Or.inl ⟨rfl, Or.inr (Or.inr (Or.inl rfl)), _, rfl⟩) (hb hby d14_14) (Nat.le_of_ble_eq_true rfl) (Nat.le_of_ble_eq_true rfl) ⟨rfl, rfl, e3⟩
def Q_rmCo_2 (Z : State) (a1 : Addr) (h0 : Heap) (v : Option Value) (h : Heap) (L : List Loc) : Prop := v = some (.int (0 : Int32)) ∧ L = [] ∧ h = h0
set_option maxRecDepth 65536 in
set_option maxHeartbeats 40000000 in
theorem rmCo_2 (l : Launch) (Z : State) (a0 : Array Value) (hw : ∀ d ∈ tables_1, d.before a0 Z = true) (ws : List Jvm.Cond) (a1 : Addr) (h0 : Heap) (E1 : Exa Z h0 a1 "java/lang/String") (C1 : Fld Z h0 a1 "java/lang/String" "coder" "B" (.int (0 : Int32))) (t1 : Addr) (kt : ClassId) (V1 : Fld Z h0 a1 "java/lang/String" "value" "[B" (.ref t1)) (c0 c1 : Int32) (A1 : Arv Z h0 t1 kt .byte (2 : Int32) [(.int c0), (.int c1)] (.int 0)) (n0 : Nat) (X00 : Old Z n0 h0) (zc : Int32) (O2 : Sta Z Z.heap "java/lang/String" "COMPACT_STRINGS" "Z" (.int zc)) (P5 : ¬ zc = 0) :
    MetFree l (⟨"java/lang/String", "coder", "()B"⟩ : MethodName) (head1 (Jvm.Cond.code (⟨"java/lang/String", "coder", "()B"⟩ : MethodName) jdk_42_method_152_code 1 (some .byte) :: ws) ({ frames := 0, cells := 0, slots := 0, locals := 0 } : Room)) (fun a U => a = #[(.ref a1)] ∧ Z.Warmed39 U.vm ∧ U.heap = h0) (fun _ _ _ _ _ => True) (fun _ U o U' => ∃ v L, o = .returned v ∧ Q_rmCo_2 Z a1 h0 v U'.heap L ∧ FrameEnd U o U' L ({ frames := 0, cells := 0, slots := 0, locals := 0 } : Room).cells ({ frames := 0, cells := 0, slots := 0, locals := 0 } : Room).slots) := by
  refine MetFree.of_bodySF (plainFor_of_name pn0) hisR ?_
  intro p e s m args below meth c s₁ Bd hml0 hP hK
  obtain ⟨rfl, hZ, hh⟩ := hP
  have hx := Bd.exec
  have hby := Bd.bytes
  have hlk : meth.locks = false := Bd.notSynchronized
  have hml : c.maxLocals = 1 := hml0
  have hown : s.vm.findClass "java/lang/String" = some m.cls := findClass_of_methodNamed Bd.named
  have hnm := (name_of_methodNamed Bd.named Bd.method).1
  have X0 : Stand p l e ({ frames := 0, cells := 0, slots := 0, locals := 0 } : Room) s m #[(.ref a1)] below meth c s₁ [] 0 0 := Stand.of_body Bd
  have e0 : s₁.heap = h0 := by rw [← hh, Bd.state]; rfl
  suffices hgo : OD p e s below (Q_rmCo_2 Z a1 h0) ({ frames := 0, cells := 0, slots := 0, locals := 0 } : Room).cells ({ frames := 0, cells := 0, slots := 0, locals := 0 } : Room).slots (s₁.setTop (mkF m 0 #[.val (.ref a1)] [])) by
    obtain ⟨s₂, o, hgo1, hgo2⟩ := hgo
    exact ⟨s₂, o, castTop (ef2 m a1) hgo1, hgo2⟩
  have f1 := (O2.ext X00.2)
  obtain ⟨T2, X2, e2, st2⟩ := getS2 X0 hx hZ hown (host := "") (Or.inl (Wd18 hw)) Via.refl e0 f1 (g := (mkF m 0 #[.val (.ref a1)] [])) rfl (hb hby d14_0)
  refine OD.go (B := (T2.setTop (mkF m 3 #[.val (.ref a1)] [(.int zc)]))) st2 ?_
  refine OD.go (B := (T2.setTop (mkF m 6 #[.val (.ref a1)] []))) (fun t k => XS.ifNo X2.here hx rfl (hb hby d14_3) rfl (by rw [if0]; exact (feq P5).1) k) ?_
  refine OD.go (B := (T2.setTop (mkF m 7 #[.val (.ref a1)] [(.ref a1)]))) (fun t k => XS.aloadN X2.here hx rfl (hb hby d14_6) rfl rfl k) ?_
  obtain ⟨T3, X3, e3, st3⟩ := getF X2 hx hZ hown (host := "") (Or.inl (Wd30 hw)) Via.refl e2 C1 (g := (mkF m 7 #[.val (.ref a1)] [(.ref a1)])) rfl rfl (hb hby d14_7)
  refine OD.go (B := (T3.setTop (mkF m 10 #[.val (.ref a1)] [(.int (0 : Int32))]))) st3 ?_
  refine OD.go (B := (T3.setTop (mkF m 14 #[.val (.ref a1)] [(.int (0 : Int32))]))) (fun t k => XS.goto X3.here hx rfl (pc0 := 10) (pc' := 14) rfl (hb hby d14_10) (by decide) (by decide) k) ?_
  exact OD.ret X3 hx hlk (t := .byte) Bd.returns rfl (Or.inl ⟨rfl, Or.inr (Or.inr (Or.inl rfl)), _, rfl⟩) (hb hby d14_14) (Nat.le_of_ble_eq_true rfl) (Nat.le_of_ble_eq_true rfl) ⟨rfl, rfl, e3⟩
def Q_rmCo_3 (Z : State) (a1 : Addr) (h0 : Heap) (v : Option Value) (h : Heap) (L : List Loc) : Prop := v = some (.int (0 : Int32)) ∧ L = [] ∧ h = h0
set_option maxRecDepth 65536 in
set_option maxHeartbeats 40000000 in
theorem rmCo_3 (l : Launch) (Z : State) (a0 : Array Value) (hw : ∀ d ∈ tables_1, d.before a0 Z = true) (ws : List Jvm.Cond) (a1 : Addr) (h0 : Heap) (E1 : Exa Z h0 a1 "java/lang/String") (C1 : Fld Z h0 a1 "java/lang/String" "coder" "B" (.int (0 : Int32))) (t1 : Addr) (kt : ClassId) (V1 : Fld Z h0 a1 "java/lang/String" "value" "[B" (.ref t1)) (c0 c1 c2 : Int32) (A1 : Arv Z h0 t1 kt .byte (3 : Int32) [(.int c0), (.int c1), (.int c2)] (.int 0)) (n0 : Nat) (X00 : Old Z n0 h0) (zc : Int32) (O2 : Sta Z Z.heap "java/lang/String" "COMPACT_STRINGS" "Z" (.int zc)) (P5 : ¬ zc = 0) :
    MetFree l (⟨"java/lang/String", "coder", "()B"⟩ : MethodName) (head1 (Jvm.Cond.code (⟨"java/lang/String", "coder", "()B"⟩ : MethodName) jdk_42_method_152_code 1 (some .byte) :: ws) ({ frames := 0, cells := 0, slots := 0, locals := 0 } : Room)) (fun a U => a = #[(.ref a1)] ∧ Z.Warmed39 U.vm ∧ U.heap = h0) (fun _ _ _ _ _ => True) (fun _ U o U' => ∃ v L, o = .returned v ∧ Q_rmCo_3 Z a1 h0 v U'.heap L ∧ FrameEnd U o U' L ({ frames := 0, cells := 0, slots := 0, locals := 0 } : Room).cells ({ frames := 0, cells := 0, slots := 0, locals := 0 } : Room).slots) := by
  refine MetFree.of_bodySF (plainFor_of_name pn0) hisR ?_
  intro p e s m args below meth c s₁ Bd hml0 hP hK
  obtain ⟨rfl, hZ, hh⟩ := hP
  have hx := Bd.exec
  have hby := Bd.bytes
  have hlk : meth.locks = false := Bd.notSynchronized
  have hml : c.maxLocals = 1 := hml0
  have hown : s.vm.findClass "java/lang/String" = some m.cls := findClass_of_methodNamed Bd.named
  have hnm := (name_of_methodNamed Bd.named Bd.method).1
  have X0 : Stand p l e ({ frames := 0, cells := 0, slots := 0, locals := 0 } : Room) s m #[(.ref a1)] below meth c s₁ [] 0 0 := Stand.of_body Bd
  have e0 : s₁.heap = h0 := by rw [← hh, Bd.state]; rfl
  suffices hgo : OD p e s below (Q_rmCo_3 Z a1 h0) ({ frames := 0, cells := 0, slots := 0, locals := 0 } : Room).cells ({ frames := 0, cells := 0, slots := 0, locals := 0 } : Room).slots (s₁.setTop (mkF m 0 #[.val (.ref a1)] [])) by
    obtain ⟨s₂, o, hgo1, hgo2⟩ := hgo
    exact ⟨s₂, o, castTop (ef2 m a1) hgo1, hgo2⟩
  have f1 := (O2.ext X00.2)
  obtain ⟨T2, X2, e2, st2⟩ := getS2 X0 hx hZ hown (host := "") (Or.inl (Wd18 hw)) Via.refl e0 f1 (g := (mkF m 0 #[.val (.ref a1)] [])) rfl (hb hby d14_0)
  refine OD.go (B := (T2.setTop (mkF m 3 #[.val (.ref a1)] [(.int zc)]))) st2 ?_
  refine OD.go (B := (T2.setTop (mkF m 6 #[.val (.ref a1)] []))) (fun t k => XS.ifNo X2.here hx rfl (hb hby d14_3) rfl (by rw [if0]; exact (feq P5).1) k) ?_
  refine OD.go (B := (T2.setTop (mkF m 7 #[.val (.ref a1)] [(.ref a1)]))) (fun t k => XS.aloadN X2.here hx rfl (hb hby d14_6) rfl rfl k) ?_
  obtain ⟨T3, X3, e3, st3⟩ := getF X2 hx hZ hown (host := "") (Or.inl (Wd30 hw)) Via.refl e2 C1 (g := (mkF m 7 #[.val (.ref a1)] [(.ref a1)])) rfl rfl (hb hby d14_7)
  refine OD.go (B := (T3.setTop (mkF m 10 #[.val (.ref a1)] [(.int (0 : Int32))]))) st3 ?_
  refine OD.go (B := (T3.setTop (mkF m 14 #[.val (.ref a1)] [(.int (0 : Int32))]))) (fun t k => XS.goto X3.here hx rfl (pc0 := 10) (pc' := 14) rfl (hb hby d14_10) (by decide) (by decide) k) ?_
  exact OD.ret X3 hx hlk (t := .byte) Bd.returns rfl (Or.inl ⟨rfl, Or.inr (Or.inr (Or.inl rfl)), _, rfl⟩) (hb hby d14_14) (Nat.le_of_ble_eq_true rfl) (Nat.le_of_ble_eq_true rfl) ⟨rfl, rfl, e3⟩
def Q_rmCo_4 (Z : State) (a1 : Addr) (h0 : Heap) (v : Option Value) (h : Heap) (L : List Loc) : Prop := v = some (.int (0 : Int32)) ∧ L = [] ∧ h = h0
set_option maxRecDepth 65536 in
set_option maxHeartbeats 40000000 in
theorem rmCo_4 (l : Launch) (Z : State) (a0 : Array Value) (hw : ∀ d ∈ tables_1, d.before a0 Z = true) (ws : List Jvm.Cond) (a1 : Addr) (h0 : Heap) (E1 : Exa Z h0 a1 "java/lang/String") (C1 : Fld Z h0 a1 "java/lang/String" "coder" "B" (.int (0 : Int32))) (t1 : Addr) (kt : ClassId) (V1 : Fld Z h0 a1 "java/lang/String" "value" "[B" (.ref t1)) (c0 c1 c2 c3 : Int32) (A1 : Arv Z h0 t1 kt .byte (4 : Int32) [(.int c0), (.int c1), (.int c2), (.int c3)] (.int 0)) (n0 : Nat) (X00 : Old Z n0 h0) (zc : Int32) (O2 : Sta Z Z.heap "java/lang/String" "COMPACT_STRINGS" "Z" (.int zc)) (P5 : ¬ zc = 0) :
    MetFree l (⟨"java/lang/String", "coder", "()B"⟩ : MethodName) (head1 (Jvm.Cond.code (⟨"java/lang/String", "coder", "()B"⟩ : MethodName) jdk_42_method_152_code 1 (some .byte) :: ws) ({ frames := 0, cells := 0, slots := 0, locals := 0 } : Room)) (fun a U => a = #[(.ref a1)] ∧ Z.Warmed39 U.vm ∧ U.heap = h0) (fun _ _ _ _ _ => True) (fun _ U o U' => ∃ v L, o = .returned v ∧ Q_rmCo_4 Z a1 h0 v U'.heap L ∧ FrameEnd U o U' L ({ frames := 0, cells := 0, slots := 0, locals := 0 } : Room).cells ({ frames := 0, cells := 0, slots := 0, locals := 0 } : Room).slots) := by
  refine MetFree.of_bodySF (plainFor_of_name pn0) hisR ?_
  intro p e s m args below meth c s₁ Bd hml0 hP hK
  obtain ⟨rfl, hZ, hh⟩ := hP
  have hx := Bd.exec
  have hby := Bd.bytes
  have hlk : meth.locks = false := Bd.notSynchronized
  have hml : c.maxLocals = 1 := hml0
  have hown : s.vm.findClass "java/lang/String" = some m.cls := findClass_of_methodNamed Bd.named
  have hnm := (name_of_methodNamed Bd.named Bd.method).1
  have X0 : Stand p l e ({ frames := 0, cells := 0, slots := 0, locals := 0 } : Room) s m #[(.ref a1)] below meth c s₁ [] 0 0 := Stand.of_body Bd
  have e0 : s₁.heap = h0 := by rw [← hh, Bd.state]; rfl
  suffices hgo : OD p e s below (Q_rmCo_4 Z a1 h0) ({ frames := 0, cells := 0, slots := 0, locals := 0 } : Room).cells ({ frames := 0, cells := 0, slots := 0, locals := 0 } : Room).slots (s₁.setTop (mkF m 0 #[.val (.ref a1)] [])) by
    obtain ⟨s₂, o, hgo1, hgo2⟩ := hgo
    exact ⟨s₂, o, castTop (ef2 m a1) hgo1, hgo2⟩
  have f1 := (O2.ext X00.2)
  obtain ⟨T2, X2, e2, st2⟩ := getS2 X0 hx hZ hown (host := "") (Or.inl (Wd18 hw)) Via.refl e0 f1 (g := (mkF m 0 #[.val (.ref a1)] [])) rfl (hb hby d14_0)
  refine OD.go (B := (T2.setTop (mkF m 3 #[.val (.ref a1)] [(.int zc)]))) st2 ?_
  refine OD.go (B := (T2.setTop (mkF m 6 #[.val (.ref a1)] []))) (fun t k => XS.ifNo X2.here hx rfl (hb hby d14_3) rfl (by rw [if0]; exact (feq P5).1) k) ?_
  refine OD.go (B := (T2.setTop (mkF m 7 #[.val (.ref a1)] [(.ref a1)]))) (fun t k => XS.aloadN X2.here hx rfl (hb hby d14_6) rfl rfl k) ?_
  obtain ⟨T3, X3, e3, st3⟩ := getF X2 hx hZ hown (host := "") (Or.inl (Wd30 hw)) Via.refl e2 C1 (g := (mkF m 7 #[.val (.ref a1)] [(.ref a1)])) rfl rfl (hb hby d14_7)
  refine OD.go (B := (T3.setTop (mkF m 10 #[.val (.ref a1)] [(.int (0 : Int32))]))) st3 ?_
  refine OD.go (B := (T3.setTop (mkF m 14 #[.val (.ref a1)] [(.int (0 : Int32))]))) (fun t k => XS.goto X3.here hx rfl (pc0 := 10) (pc' := 14) rfl (hb hby d14_10) (by decide) (by decide) k) ?_
  exact OD.ret X3 hx hlk (t := .byte) Bd.returns rfl (Or.inl ⟨rfl, Or.inr (Or.inr (Or.inl rfl)), _, rfl⟩) (hb hby d14_14) (Nat.le_of_ble_eq_true rfl) (Nat.le_of_ble_eq_true rfl) ⟨rfl, rfl, e3⟩
def Q_rmLe_0 (Z : State) (a1 : Addr) (h0 : Heap) (v : Option Value) (h : Heap) (L : List Loc) : Prop := v = some (.int (0 : Int32)) ∧ L = [] ∧ h = h0
set_option maxRecDepth 65536 in
set_option maxHeartbeats 40000000 in
theorem rmLe_0 (l : Launch) (Z : State) (a0 : Array Value) (hw : ∀ d ∈ tables_1, d.before a0 Z = true) (ws : List Jvm.Cond) (a1 : Addr) (h0 : Heap) (E1 : Exa Z h0 a1 "java/lang/String") (C1 : Fld Z h0 a1 "java/lang/String" "coder" "B" (.int (0 : Int32))) (t1 : Addr) (kt : ClassId) (V1 : Fld Z h0 a1 "java/lang/String" "value" "[B" (.ref t1)) (A1 : Arv Z h0 t1 kt .byte (0 : Int32) [] (.int 0)) (n0 : Nat) (X00 : Old Z n0 h0) (zc : Int32) (O2 : Sta Z Z.heap "java/lang/String" "COMPACT_STRINGS" "Z" (.int zc)) (P5 : ¬ zc = 0) :
    MetFree l (⟨"java/lang/String", "length", "()I"⟩ : MethodName) (head1 (Jvm.Cond.code (⟨"java/lang/String", "length", "()I"⟩ : MethodName) jdk_42_method_54_code 1 (some .int) :: ws) ({ frames := 1, cells := 0, slots := 0, locals := 13 } : Room)) (fun a U => a = #[(.ref a1)] ∧ Z.Warmed39 U.vm ∧ U.heap = h0) (fun _ _ _ _ _ => True) (fun _ U o U' => ∃ v L, o = .returned v ∧ Q_rmLe_0 Z a1 h0 v U'.heap L ∧ FrameEnd U o U' L ({ frames := 1, cells := 0, slots := 0, locals := 13 } : Room).cells ({ frames := 1, cells := 0, slots := 0, locals := 13 } : Room).slots) := by
  refine MetFree.of_bodySF (plainFor_of_name pn0) hisR ?_
  intro p e s m args below meth c s₁ Bd hml0 hP hK
  obtain ⟨rfl, hZ, hh⟩ := hP
  have hx := Bd.exec
  have hby := Bd.bytes
  have hlk : meth.locks = false := Bd.notSynchronized
  have hml : c.maxLocals = 1 := hml0
  have hown : s.vm.findClass "java/lang/String" = some m.cls := findClass_of_methodNamed Bd.named
  have hnm := (name_of_methodNamed Bd.named Bd.method).1
  have X0 : Stand p l e ({ frames := 1, cells := 0, slots := 0, locals := 13 } : Room) s m #[(.ref a1)] below meth c s₁ [] 0 0 := Stand.of_body Bd
  have e0 : s₁.heap = h0 := by rw [← hh, Bd.state]; rfl
  suffices hgo : OD p e s below (Q_rmLe_0 Z a1 h0) ({ frames := 1, cells := 0, slots := 0, locals := 13 } : Room).cells ({ frames := 1, cells := 0, slots := 0, locals := 13 } : Room).slots (s₁.setTop (mkF m 0 #[.val (.ref a1)] [])) by
    obtain ⟨s₂, o, hgo1, hgo2⟩ := hgo
    exact ⟨s₂, o, castTop (ef2 m a1) hgo1, hgo2⟩
  refine OD.go (B := (s₁.setTop (mkF m 1 #[.val (.ref a1)] [(.ref a1)]))) (fun t k => XS.aloadN X0.here hx rfl (hb hby d13_0) rfl rfl k) ?_
  obtain ⟨T1, X1, e1, st1⟩ := getF X0 hx hZ hown (host := "") (Or.inl (Wd32 hw)) Via.refl e0 V1 (g := (mkF m 1 #[.val (.ref a1)] [(.ref a1)])) rfl rfl (hb hby d13_1)
  refine OD.go (B := (T1.setTop (mkF m 4 #[.val (.ref a1)] [(.ref t1)]))) st1 ?_
  obtain ⟨cl2, Ar2, hl2⟩ := own_len A1
  refine OD.go (B := (T1.setTop (mkF m 5 #[.val (.ref a1)] [(.int (0 : Int32))]))) (fun t k => X1.arraylength hx (by rw [e1]; exact Ar2.1) (State.isArrayOf_alike hZ.alike Ar2.2.1) (g := (mkF m 4 #[.val (.ref a1)] [(.ref t1)])) rfl rfl (hb hby d13_4) _ (by rw [hl2]; exact k)) ?_
  refine OD.go (B := (T1.setTop (mkF m 6 #[.val (.ref a1)] [(.ref a1), (.int (0 : Int32))]))) (fun t k => XS.aloadN X1.here hx rfl (hb hby d13_5) rfl rfl k) ?_
  obtain ⟨cq3, kq3, qa3, qb3, qc3⟩ := isOf hZ e1 E1
  obtain ⟨_, _, ⟨T3, L3, k3, n3⟩, -, X3, ⟨Lc3, hQ3, l3, y3, z3⟩, st3⟩ := X1.virtualBack hx (y := (⟨"java/lang/String", "coder", "()B"⟩ : MethodName)) (z := (⟨"java/lang/String", "coder", "()B"⟩ : MethodName)) hown (mvT hZ (Wd64 hw)) (mvT hZ (Wd65 hw)) (notFace_of_selects (args := #[]) (mvT hZ (Wd67 hw))) (mvT hZ (Wd67 hw)) (mvT hZ (Wd66 hw)) (by decide) (backOf (W := 1) (rmCo_0 l Z a0 hw [] a1  h0 E1 C1 t1 kt V1  A1 n0 X00 zc O2 P5) hZ (Wd68 hw) (Wd6 hw) (by decide) (by decide)) qa3 qc3 (g := (mkF m 6 #[.val (.ref a1)] [(.ref a1), (.int (0 : Int32))])) rfl (by rw [hml]; rfl) (Steps.refl _) (argsL := []) (rest := [(.int (0 : Int32))]) (lenOf pd1 rfl) rfl (by show 2 * 0 + _ ≤ _; exact Nat.le_of_eq rfl) (hb hby d13_6) (fun _ _ => ⟨rfl, e1, (Nat.le_of_ble_eq_true rfl), (Nat.le_of_ble_eq_true rfl)⟩)
  dsimp only [Pt.U, Pt.locs, Pt.cells, Pt.slots] at X3 l3 y3 z3 st3 hQ3
  subst l3 y3 z3
  obtain ⟨rfl, rfl, e3⟩ := hQ3
  refine OD.via (B := (T3.setTop (mkF m 9 #[.val (.ref a1)] [(.int (0 : Int32)), (.int (0 : Int32))]))) st3 ?_
  refine OD.go (B := (T3.setTop (mkF m 10 #[.val (.ref a1)] [(.int ((0 : Int32) >>> ((0 : Int32) &&& 31)))]))) (fun t k => XS.ishr X3.here hx rfl (hb hby d13_9) rfl k) ?_
  have fin : ((0 : Int32) >>> ((0 : Int32) &&& 31)) = (0 : Int32) := by decide
  rw [fin]
  exact OD.ret X3 hx hlk (t := .int) Bd.returns rfl (Or.inl ⟨rfl, Or.inl rfl, _, rfl⟩) (hb hby d13_10) (Nat.le_of_ble_eq_true rfl) (Nat.le_of_ble_eq_true rfl) ⟨rfl, rfl, e3⟩
def Q_rmLe_1 (Z : State) (a1 : Addr) (h0 : Heap) (v : Option Value) (h : Heap) (L : List Loc) : Prop := v = some (.int (1 : Int32)) ∧ L = [] ∧ h = h0
set_option maxRecDepth 65536 in
set_option maxHeartbeats 40000000 in
theorem rmLe_1 (l : Launch) (Z : State) (a0 : Array Value) (hw : ∀ d ∈ tables_1, d.before a0 Z = true) (ws : List Jvm.Cond) (a1 : Addr) (h0 : Heap) (E1 : Exa Z h0 a1 "java/lang/String") (C1 : Fld Z h0 a1 "java/lang/String" "coder" "B" (.int (0 : Int32))) (t1 : Addr) (kt : ClassId) (V1 : Fld Z h0 a1 "java/lang/String" "value" "[B" (.ref t1)) (c0 : Int32) (A1 : Arv Z h0 t1 kt .byte (1 : Int32) [(.int c0)] (.int 0)) (n0 : Nat) (X00 : Old Z n0 h0) (zc : Int32) (O2 : Sta Z Z.heap "java/lang/String" "COMPACT_STRINGS" "Z" (.int zc)) (P5 : ¬ zc = 0) :
    MetFree l (⟨"java/lang/String", "length", "()I"⟩ : MethodName) (head1 (Jvm.Cond.code (⟨"java/lang/String", "length", "()I"⟩ : MethodName) jdk_42_method_54_code 1 (some .int) :: ws) ({ frames := 1, cells := 0, slots := 0, locals := 13 } : Room)) (fun a U => a = #[(.ref a1)] ∧ Z.Warmed39 U.vm ∧ U.heap = h0) (fun _ _ _ _ _ => True) (fun _ U o U' => ∃ v L, o = .returned v ∧ Q_rmLe_1 Z a1 h0 v U'.heap L ∧ FrameEnd U o U' L ({ frames := 1, cells := 0, slots := 0, locals := 13 } : Room).cells ({ frames := 1, cells := 0, slots := 0, locals := 13 } : Room).slots) := by
  refine MetFree.of_bodySF (plainFor_of_name pn0) hisR ?_
  intro p e s m args below meth c s₁ Bd hml0 hP hK
  obtain ⟨rfl, hZ, hh⟩ := hP
  have hx := Bd.exec
  have hby := Bd.bytes
  have hlk : meth.locks = false := Bd.notSynchronized
  have hml : c.maxLocals = 1 := hml0
  have hown : s.vm.findClass "java/lang/String" = some m.cls := findClass_of_methodNamed Bd.named
  have hnm := (name_of_methodNamed Bd.named Bd.method).1
  have X0 : Stand p l e ({ frames := 1, cells := 0, slots := 0, locals := 13 } : Room) s m #[(.ref a1)] below meth c s₁ [] 0 0 := Stand.of_body Bd
  have e0 : s₁.heap = h0 := by rw [← hh, Bd.state]; rfl
  suffices hgo : OD p e s below (Q_rmLe_1 Z a1 h0) ({ frames := 1, cells := 0, slots := 0, locals := 13 } : Room).cells ({ frames := 1, cells := 0, slots := 0, locals := 13 } : Room).slots (s₁.setTop (mkF m 0 #[.val (.ref a1)] [])) by
    obtain ⟨s₂, o, hgo1, hgo2⟩ := hgo
    exact ⟨s₂, o, castTop (ef2 m a1) hgo1, hgo2⟩
  refine OD.go (B := (s₁.setTop (mkF m 1 #[.val (.ref a1)] [(.ref a1)]))) (fun t k => XS.aloadN X0.here hx rfl (hb hby d13_0) rfl rfl k) ?_
  obtain ⟨T1, X1, e1, st1⟩ := getF X0 hx hZ hown (host := "") (Or.inl (Wd32 hw)) Via.refl e0 V1 (g := (mkF m 1 #[.val (.ref a1)] [(.ref a1)])) rfl rfl (hb hby d13_1)
  refine OD.go (B := (T1.setTop (mkF m 4 #[.val (.ref a1)] [(.ref t1)]))) st1 ?_
  obtain ⟨cl2, Ar2, hl2⟩ := own_len A1
  refine OD.go (B := (T1.setTop (mkF m 5 #[.val (.ref a1)] [(.int (1 : Int32))]))) (fun t k => X1.arraylength hx (by rw [e1]; exact Ar2.1) (State.isArrayOf_alike hZ.alike Ar2.2.1) (g := (mkF m 4 #[.val (.ref a1)] [(.ref t1)])) rfl rfl (hb hby d13_4) _ (by rw [hl2]; exact k)) ?_
  refine OD.go (B := (T1.setTop (mkF m 6 #[.val (.ref a1)] [(.ref a1), (.int (1 : Int32))]))) (fun t k => XS.aloadN X1.here hx rfl (hb hby d13_5) rfl rfl k) ?_
  obtain ⟨cq3, kq3, qa3, qb3, qc3⟩ := isOf hZ e1 E1
  obtain ⟨_, _, ⟨T3, L3, k3, n3⟩, -, X3, ⟨Lc3, hQ3, l3, y3, z3⟩, st3⟩ := X1.virtualBack hx (y := (⟨"java/lang/String", "coder", "()B"⟩ : MethodName)) (z := (⟨"java/lang/String", "coder", "()B"⟩ : MethodName)) hown (mvT hZ (Wd64 hw)) (mvT hZ (Wd65 hw)) (notFace_of_selects (args := #[]) (mvT hZ (Wd67 hw))) (mvT hZ (Wd67 hw)) (mvT hZ (Wd66 hw)) (by decide) (backOf (W := 1) (rmCo_1 l Z a0 hw [] a1  h0 E1 C1 t1 kt V1 c0 A1 n0 X00 zc O2 P5) hZ (Wd68 hw) (Wd6 hw) (by decide) (by decide)) qa3 qc3 (g := (mkF m 6 #[.val (.ref a1)] [(.ref a1), (.int (1 : Int32))])) rfl (by rw [hml]; rfl) (Steps.refl _) (argsL := []) (rest := [(.int (1 : Int32))]) (lenOf pd1 rfl) rfl (by show 2 * 0 + _ ≤ _; exact Nat.le_of_eq rfl) (hb hby d13_6) (fun _ _ => ⟨rfl, e1, (Nat.le_of_ble_eq_true rfl), (Nat.le_of_ble_eq_true rfl)⟩)
  dsimp only [Pt.U, Pt.locs, Pt.cells, Pt.slots] at X3 l3 y3 z3 st3 hQ3
  subst l3 y3 z3
  obtain ⟨rfl, rfl, e3⟩ := hQ3
  refine OD.via (B := (T3.setTop (mkF m 9 #[.val (.ref a1)] [(.int (0 : Int32)), (.int (1 : Int32))]))) st3 ?_
  refine OD.go (B := (T3.setTop (mkF m 10 #[.val (.ref a1)] [(.int ((1 : Int32) >>> ((0 : Int32) &&& 31)))]))) (fun t k => XS.ishr X3.here hx rfl (hb hby d13_9) rfl k) ?_
  have fin : ((1 : Int32) >>> ((0 : Int32) &&& 31)) = (1 : Int32) := by decide
  rw [fin]
  exact OD.ret X3 hx hlk (t := .int) Bd.returns rfl (Or.inl ⟨rfl, Or.inl rfl, _, rfl⟩) (hb hby d13_10) (Nat.le_of_ble_eq_true rfl) (Nat.le_of_ble_eq_true rfl) ⟨rfl, rfl, e3⟩
def Q_rmLe_2 (Z : State) (a1 : Addr) (h0 : Heap) (v : Option Value) (h : Heap) (L : List Loc) : Prop := v = some (.int (2 : Int32)) ∧ L = [] ∧ h = h0
set_option maxRecDepth 65536 in
set_option maxHeartbeats 40000000 in
theorem rmLe_2 (l : Launch) (Z : State) (a0 : Array Value) (hw : ∀ d ∈ tables_1, d.before a0 Z = true) (ws : List Jvm.Cond) (a1 : Addr) (h0 : Heap) (E1 : Exa Z h0 a1 "java/lang/String") (C1 : Fld Z h0 a1 "java/lang/String" "coder" "B" (.int (0 : Int32))) (t1 : Addr) (kt : ClassId) (V1 : Fld Z h0 a1 "java/lang/String" "value" "[B" (.ref t1)) (c0 c1 : Int32) (A1 : Arv Z h0 t1 kt .byte (2 : Int32) [(.int c0), (.int c1)] (.int 0)) (n0 : Nat) (X00 : Old Z n0 h0) (zc : Int32) (O2 : Sta Z Z.heap "java/lang/String" "COMPACT_STRINGS" "Z" (.int zc)) (P5 : ¬ zc = 0) :
    MetFree l (⟨"java/lang/String", "length", "()I"⟩ : MethodName) (head1 (Jvm.Cond.code (⟨"java/lang/String", "length", "()I"⟩ : MethodName) jdk_42_method_54_code 1 (some .int) :: ws) ({ frames := 1, cells := 0, slots := 0, locals := 13 } : Room)) (fun a U => a = #[(.ref a1)] ∧ Z.Warmed39 U.vm ∧ U.heap = h0) (fun _ _ _ _ _ => True) (fun _ U o U' => ∃ v L, o = .returned v ∧ Q_rmLe_2 Z a1 h0 v U'.heap L ∧ FrameEnd U o U' L ({ frames := 1, cells := 0, slots := 0, locals := 13 } : Room).cells ({ frames := 1, cells := 0, slots := 0, locals := 13 } : Room).slots) := by
  refine MetFree.of_bodySF (plainFor_of_name pn0) hisR ?_
  intro p e s m args below meth c s₁ Bd hml0 hP hK
  obtain ⟨rfl, hZ, hh⟩ := hP
  have hx := Bd.exec
  have hby := Bd.bytes
  have hlk : meth.locks = false := Bd.notSynchronized
  have hml : c.maxLocals = 1 := hml0
  have hown : s.vm.findClass "java/lang/String" = some m.cls := findClass_of_methodNamed Bd.named
  have hnm := (name_of_methodNamed Bd.named Bd.method).1
  have X0 : Stand p l e ({ frames := 1, cells := 0, slots := 0, locals := 13 } : Room) s m #[(.ref a1)] below meth c s₁ [] 0 0 := Stand.of_body Bd
  have e0 : s₁.heap = h0 := by rw [← hh, Bd.state]; rfl
  suffices hgo : OD p e s below (Q_rmLe_2 Z a1 h0) ({ frames := 1, cells := 0, slots := 0, locals := 13 } : Room).cells ({ frames := 1, cells := 0, slots := 0, locals := 13 } : Room).slots (s₁.setTop (mkF m 0 #[.val (.ref a1)] [])) by
    obtain ⟨s₂, o, hgo1, hgo2⟩ := hgo
    exact ⟨s₂, o, castTop (ef2 m a1) hgo1, hgo2⟩
  refine OD.go (B := (s₁.setTop (mkF m 1 #[.val (.ref a1)] [(.ref a1)]))) (fun t k => XS.aloadN X0.here hx rfl (hb hby d13_0) rfl rfl k) ?_
  obtain ⟨T1, X1, e1, st1⟩ := getF X0 hx hZ hown (host := "") (Or.inl (Wd32 hw)) Via.refl e0 V1 (g := (mkF m 1 #[.val (.ref a1)] [(.ref a1)])) rfl rfl (hb hby d13_1)
  refine OD.go (B := (T1.setTop (mkF m 4 #[.val (.ref a1)] [(.ref t1)]))) st1 ?_
  obtain ⟨cl2, Ar2, hl2⟩ := own_len A1
  refine OD.go (B := (T1.setTop (mkF m 5 #[.val (.ref a1)] [(.int (2 : Int32))]))) (fun t k => X1.arraylength hx (by rw [e1]; exact Ar2.1) (State.isArrayOf_alike hZ.alike Ar2.2.1) (g := (mkF m 4 #[.val (.ref a1)] [(.ref t1)])) rfl rfl (hb hby d13_4) _ (by rw [hl2]; exact k)) ?_
  refine OD.go (B := (T1.setTop (mkF m 6 #[.val (.ref a1)] [(.ref a1), (.int (2 : Int32))]))) (fun t k => XS.aloadN X1.here hx rfl (hb hby d13_5) rfl rfl k) ?_
  obtain ⟨cq3, kq3, qa3, qb3, qc3⟩ := isOf hZ e1 E1
  obtain ⟨_, _, ⟨T3, L3, k3, n3⟩, -, X3, ⟨Lc3, hQ3, l3, y3, z3⟩, st3⟩ := X1.virtualBack hx (y := (⟨"java/lang/String", "coder", "()B"⟩ : MethodName)) (z := (⟨"java/lang/String", "coder", "()B"⟩ : MethodName)) hown (mvT hZ (Wd64 hw)) (mvT hZ (Wd65 hw)) (notFace_of_selects (args := #[]) (mvT hZ (Wd67 hw))) (mvT hZ (Wd67 hw)) (mvT hZ (Wd66 hw)) (by decide) (backOf (W := 1) (rmCo_2 l Z a0 hw [] a1  h0 E1 C1 t1 kt V1 c0 c1 A1 n0 X00 zc O2 P5) hZ (Wd68 hw) (Wd6 hw) (by decide) (by decide)) qa3 qc3 (g := (mkF m 6 #[.val (.ref a1)] [(.ref a1), (.int (2 : Int32))])) rfl (by rw [hml]; rfl) (Steps.refl _) (argsL := []) (rest := [(.int (2 : Int32))]) (lenOf pd1 rfl) rfl (by show 2 * 0 + _ ≤ _; exact Nat.le_of_eq rfl) (hb hby d13_6) (fun _ _ => ⟨rfl, e1, (Nat.le_of_ble_eq_true rfl), (Nat.le_of_ble_eq_true rfl)⟩)
  dsimp only [Pt.U, Pt.locs, Pt.cells, Pt.slots] at X3 l3 y3 z3 st3 hQ3
  subst l3 y3 z3
  obtain ⟨rfl, rfl, e3⟩ := hQ3
  refine OD.via (B := (T3.setTop (mkF m 9 #[.val (.ref a1)] [(.int (0 : Int32)), (.int (2 : Int32))]))) st3 ?_
  refine OD.go (B := (T3.setTop (mkF m 10 #[.val (.ref a1)] [(.int ((2 : Int32) >>> ((0 : Int32) &&& 31)))]))) (fun t k => XS.ishr X3.here hx rfl (hb hby d13_9) rfl k) ?_
  have fin : ((2 : Int32) >>> ((0 : Int32) &&& 31)) = (2 : Int32) := by decide
  rw [fin]
  exact OD.ret X3 hx hlk (t := .int) Bd.returns rfl (Or.inl ⟨rfl, Or.inl rfl, _, rfl⟩) (hb hby d13_10) (Nat.le_of_ble_eq_true rfl) (Nat.le_of_ble_eq_true rfl) ⟨rfl, rfl, e3⟩
def Q_rmLe_3 (Z : State) (a1 : Addr) (h0 : Heap) (v : Option Value) (h : Heap) (L : List Loc) : Prop := v = some (.int (3 : Int32)) ∧ L = [] ∧ h = h0
set_option maxRecDepth 65536 in
set_option maxHeartbeats 40000000 in
theorem rmLe_3 (l : Launch) (Z : State) (a0 : Array Value) (hw : ∀ d ∈ tables_1, d.before a0 Z = true) (ws : List Jvm.Cond) (a1 : Addr) (h0 : Heap) (E1 : Exa Z h0 a1 "java/lang/String") (C1 : Fld Z h0 a1 "java/lang/String" "coder" "B" (.int (0 : Int32))) (t1 : Addr) (kt : ClassId) (V1 : Fld Z h0 a1 "java/lang/String" "value" "[B" (.ref t1)) (c0 c1 c2 : Int32) (A1 : Arv Z h0 t1 kt .byte (3 : Int32) [(.int c0), (.int c1), (.int c2)] (.int 0)) (n0 : Nat) (X00 : Old Z n0 h0) (zc : Int32) (O2 : Sta Z Z.heap "java/lang/String" "COMPACT_STRINGS" "Z" (.int zc)) (P5 : ¬ zc = 0) :
    MetFree l (⟨"java/lang/String", "length", "()I"⟩ : MethodName) (head1 (Jvm.Cond.code (⟨"java/lang/String", "length", "()I"⟩ : MethodName) jdk_42_method_54_code 1 (some .int) :: ws) ({ frames := 1, cells := 0, slots := 0, locals := 13 } : Room)) (fun a U => a = #[(.ref a1)] ∧ Z.Warmed39 U.vm ∧ U.heap = h0) (fun _ _ _ _ _ => True) (fun _ U o U' => ∃ v L, o = .returned v ∧ Q_rmLe_3 Z a1 h0 v U'.heap L ∧ FrameEnd U o U' L ({ frames := 1, cells := 0, slots := 0, locals := 13 } : Room).cells ({ frames := 1, cells := 0, slots := 0, locals := 13 } : Room).slots) := by
  refine MetFree.of_bodySF (plainFor_of_name pn0) hisR ?_
  intro p e s m args below meth c s₁ Bd hml0 hP hK
  obtain ⟨rfl, hZ, hh⟩ := hP
  have hx := Bd.exec
  have hby := Bd.bytes
  have hlk : meth.locks = false := Bd.notSynchronized
  have hml : c.maxLocals = 1 := hml0
  have hown : s.vm.findClass "java/lang/String" = some m.cls := findClass_of_methodNamed Bd.named
  have hnm := (name_of_methodNamed Bd.named Bd.method).1
  have X0 : Stand p l e ({ frames := 1, cells := 0, slots := 0, locals := 13 } : Room) s m #[(.ref a1)] below meth c s₁ [] 0 0 := Stand.of_body Bd
  have e0 : s₁.heap = h0 := by rw [← hh, Bd.state]; rfl
  suffices hgo : OD p e s below (Q_rmLe_3 Z a1 h0) ({ frames := 1, cells := 0, slots := 0, locals := 13 } : Room).cells ({ frames := 1, cells := 0, slots := 0, locals := 13 } : Room).slots (s₁.setTop (mkF m 0 #[.val (.ref a1)] [])) by
    obtain ⟨s₂, o, hgo1, hgo2⟩ := hgo
    exact ⟨s₂, o, castTop (ef2 m a1) hgo1, hgo2⟩
  refine OD.go (B := (s₁.setTop (mkF m 1 #[.val (.ref a1)] [(.ref a1)]))) (fun t k => XS.aloadN X0.here hx rfl (hb hby d13_0) rfl rfl k) ?_
  obtain ⟨T1, X1, e1, st1⟩ := getF X0 hx hZ hown (host := "") (Or.inl (Wd32 hw)) Via.refl e0 V1 (g := (mkF m 1 #[.val (.ref a1)] [(.ref a1)])) rfl rfl (hb hby d13_1)
  refine OD.go (B := (T1.setTop (mkF m 4 #[.val (.ref a1)] [(.ref t1)]))) st1 ?_
  obtain ⟨cl2, Ar2, hl2⟩ := own_len A1
  refine OD.go (B := (T1.setTop (mkF m 5 #[.val (.ref a1)] [(.int (3 : Int32))]))) (fun t k => X1.arraylength hx (by rw [e1]; exact Ar2.1) (State.isArrayOf_alike hZ.alike Ar2.2.1) (g := (mkF m 4 #[.val (.ref a1)] [(.ref t1)])) rfl rfl (hb hby d13_4) _ (by rw [hl2]; exact k)) ?_
  refine OD.go (B := (T1.setTop (mkF m 6 #[.val (.ref a1)] [(.ref a1), (.int (3 : Int32))]))) (fun t k => XS.aloadN X1.here hx rfl (hb hby d13_5) rfl rfl k) ?_
  obtain ⟨cq3, kq3, qa3, qb3, qc3⟩ := isOf hZ e1 E1
  obtain ⟨_, _, ⟨T3, L3, k3, n3⟩, -, X3, ⟨Lc3, hQ3, l3, y3, z3⟩, st3⟩ := X1.virtualBack hx (y := (⟨"java/lang/String", "coder", "()B"⟩ : MethodName)) (z := (⟨"java/lang/String", "coder", "()B"⟩ : MethodName)) hown (mvT hZ (Wd64 hw)) (mvT hZ (Wd65 hw)) (notFace_of_selects (args := #[]) (mvT hZ (Wd67 hw))) (mvT hZ (Wd67 hw)) (mvT hZ (Wd66 hw)) (by decide) (backOf (W := 1) (rmCo_3 l Z a0 hw [] a1  h0 E1 C1 t1 kt V1 c0 c1 c2 A1 n0 X00 zc O2 P5) hZ (Wd68 hw) (Wd6 hw) (by decide) (by decide)) qa3 qc3 (g := (mkF m 6 #[.val (.ref a1)] [(.ref a1), (.int (3 : Int32))])) rfl (by rw [hml]; rfl) (Steps.refl _) (argsL := []) (rest := [(.int (3 : Int32))]) (lenOf pd1 rfl) rfl (by show 2 * 0 + _ ≤ _; exact Nat.le_of_eq rfl) (hb hby d13_6) (fun _ _ => ⟨rfl, e1, (Nat.le_of_ble_eq_true rfl), (Nat.le_of_ble_eq_true rfl)⟩)
  dsimp only [Pt.U, Pt.locs, Pt.cells, Pt.slots] at X3 l3 y3 z3 st3 hQ3
  subst l3 y3 z3
  obtain ⟨rfl, rfl, e3⟩ := hQ3
  refine OD.via (B := (T3.setTop (mkF m 9 #[.val (.ref a1)] [(.int (0 : Int32)), (.int (3 : Int32))]))) st3 ?_
  refine OD.go (B := (T3.setTop (mkF m 10 #[.val (.ref a1)] [(.int ((3 : Int32) >>> ((0 : Int32) &&& 31)))]))) (fun t k => XS.ishr X3.here hx rfl (hb hby d13_9) rfl k) ?_
  have fin : ((3 : Int32) >>> ((0 : Int32) &&& 31)) = (3 : Int32) := by decide
  rw [fin]
  exact OD.ret X3 hx hlk (t := .int) Bd.returns rfl (Or.inl ⟨rfl, Or.inl rfl, _, rfl⟩) (hb hby d13_10) (Nat.le_of_ble_eq_true rfl) (Nat.le_of_ble_eq_true rfl) ⟨rfl, rfl, e3⟩
def Q_rmLe_4 (Z : State) (a1 : Addr) (h0 : Heap) (v : Option Value) (h : Heap) (L : List Loc) : Prop := v = some (.int (4 : Int32)) ∧ L = [] ∧ h = h0
set_option maxRecDepth 65536 in
set_option maxHeartbeats 40000000 in
theorem rmLe_4 (l : Launch) (Z : State) (a0 : Array Value) (hw : ∀ d ∈ tables_1, d.before a0 Z = true) (ws : List Jvm.Cond) (a1 : Addr) (h0 : Heap) (E1 : Exa Z h0 a1 "java/lang/String") (C1 : Fld Z h0 a1 "java/lang/String" "coder" "B" (.int (0 : Int32))) (t1 : Addr) (kt : ClassId) (V1 : Fld Z h0 a1 "java/lang/String" "value" "[B" (.ref t1)) (c0 c1 c2 c3 : Int32) (A1 : Arv Z h0 t1 kt .byte (4 : Int32) [(.int c0), (.int c1), (.int c2), (.int c3)] (.int 0)) (n0 : Nat) (X00 : Old Z n0 h0) (zc : Int32) (O2 : Sta Z Z.heap "java/lang/String" "COMPACT_STRINGS" "Z" (.int zc)) (P5 : ¬ zc = 0) :
    MetFree l (⟨"java/lang/String", "length", "()I"⟩ : MethodName) (head1 (Jvm.Cond.code (⟨"java/lang/String", "length", "()I"⟩ : MethodName) jdk_42_method_54_code 1 (some .int) :: ws) ({ frames := 1, cells := 0, slots := 0, locals := 13 } : Room)) (fun a U => a = #[(.ref a1)] ∧ Z.Warmed39 U.vm ∧ U.heap = h0) (fun _ _ _ _ _ => True) (fun _ U o U' => ∃ v L, o = .returned v ∧ Q_rmLe_4 Z a1 h0 v U'.heap L ∧ FrameEnd U o U' L ({ frames := 1, cells := 0, slots := 0, locals := 13 } : Room).cells ({ frames := 1, cells := 0, slots := 0, locals := 13 } : Room).slots) := by
  refine MetFree.of_bodySF (plainFor_of_name pn0) hisR ?_
  intro p e s m args below meth c s₁ Bd hml0 hP hK
  obtain ⟨rfl, hZ, hh⟩ := hP
  have hx := Bd.exec
  have hby := Bd.bytes
  have hlk : meth.locks = false := Bd.notSynchronized
  have hml : c.maxLocals = 1 := hml0
  have hown : s.vm.findClass "java/lang/String" = some m.cls := findClass_of_methodNamed Bd.named
  have hnm := (name_of_methodNamed Bd.named Bd.method).1
  have X0 : Stand p l e ({ frames := 1, cells := 0, slots := 0, locals := 13 } : Room) s m #[(.ref a1)] below meth c s₁ [] 0 0 := Stand.of_body Bd
  have e0 : s₁.heap = h0 := by rw [← hh, Bd.state]; rfl
  suffices hgo : OD p e s below (Q_rmLe_4 Z a1 h0) ({ frames := 1, cells := 0, slots := 0, locals := 13 } : Room).cells ({ frames := 1, cells := 0, slots := 0, locals := 13 } : Room).slots (s₁.setTop (mkF m 0 #[.val (.ref a1)] [])) by
    obtain ⟨s₂, o, hgo1, hgo2⟩ := hgo
    exact ⟨s₂, o, castTop (ef2 m a1) hgo1, hgo2⟩
  refine OD.go (B := (s₁.setTop (mkF m 1 #[.val (.ref a1)] [(.ref a1)]))) (fun t k => XS.aloadN X0.here hx rfl (hb hby d13_0) rfl rfl k) ?_
  obtain ⟨T1, X1, e1, st1⟩ := getF X0 hx hZ hown (host := "") (Or.inl (Wd32 hw)) Via.refl e0 V1 (g := (mkF m 1 #[.val (.ref a1)] [(.ref a1)])) rfl rfl (hb hby d13_1)
  refine OD.go (B := (T1.setTop (mkF m 4 #[.val (.ref a1)] [(.ref t1)]))) st1 ?_
  obtain ⟨cl2, Ar2, hl2⟩ := own_len A1
  refine OD.go (B := (T1.setTop (mkF m 5 #[.val (.ref a1)] [(.int (4 : Int32))]))) (fun t k => X1.arraylength hx (by rw [e1]; exact Ar2.1) (State.isArrayOf_alike hZ.alike Ar2.2.1) (g := (mkF m 4 #[.val (.ref a1)] [(.ref t1)])) rfl rfl (hb hby d13_4) _ (by rw [hl2]; exact k)) ?_
  refine OD.go (B := (T1.setTop (mkF m 6 #[.val (.ref a1)] [(.ref a1), (.int (4 : Int32))]))) (fun t k => XS.aloadN X1.here hx rfl (hb hby d13_5) rfl rfl k) ?_
  obtain ⟨cq3, kq3, qa3, qb3, qc3⟩ := isOf hZ e1 E1
  obtain ⟨_, _, ⟨T3, L3, k3, n3⟩, -, X3, ⟨Lc3, hQ3, l3, y3, z3⟩, st3⟩ := X1.virtualBack hx (y := (⟨"java/lang/String", "coder", "()B"⟩ : MethodName)) (z := (⟨"java/lang/String", "coder", "()B"⟩ : MethodName)) hown (mvT hZ (Wd64 hw)) (mvT hZ (Wd65 hw)) (notFace_of_selects (args := #[]) (mvT hZ (Wd67 hw))) (mvT hZ (Wd67 hw)) (mvT hZ (Wd66 hw)) (by decide) (backOf (W := 1) (rmCo_4 l Z a0 hw [] a1  h0 E1 C1 t1 kt V1 c0 c1 c2 c3 A1 n0 X00 zc O2 P5) hZ (Wd68 hw) (Wd6 hw) (by decide) (by decide)) qa3 qc3 (g := (mkF m 6 #[.val (.ref a1)] [(.ref a1), (.int (4 : Int32))])) rfl (by rw [hml]; rfl) (Steps.refl _) (argsL := []) (rest := [(.int (4 : Int32))]) (lenOf pd1 rfl) rfl (by show 2 * 0 + _ ≤ _; exact Nat.le_of_eq rfl) (hb hby d13_6) (fun _ _ => ⟨rfl, e1, (Nat.le_of_ble_eq_true rfl), (Nat.le_of_ble_eq_true rfl)⟩)
  dsimp only [Pt.U, Pt.locs, Pt.cells, Pt.slots] at X3 l3 y3 z3 st3 hQ3
  subst l3 y3 z3
  obtain ⟨rfl, rfl, e3⟩ := hQ3
  refine OD.via (B := (T3.setTop (mkF m 9 #[.val (.ref a1)] [(.int (0 : Int32)), (.int (4 : Int32))]))) st3 ?_
  refine OD.go (B := (T3.setTop (mkF m 10 #[.val (.ref a1)] [(.int ((4 : Int32) >>> ((0 : Int32) &&& 31)))]))) (fun t k => XS.ishr X3.here hx rfl (hb hby d13_9) rfl k) ?_
  have fin : ((4 : Int32) >>> ((0 : Int32) &&& 31)) = (4 : Int32) := by decide
  rw [fin]
  exact OD.ret X3 hx hlk (t := .int) Bd.returns rfl (Or.inl ⟨rfl, Or.inl rfl, _, rfl⟩) (hb hby d13_10) (Nat.le_of_ble_eq_true rfl) (Nat.le_of_ble_eq_true rfl) ⟨rfl, rfl, e3⟩
def Q_rmCEi (Z : State) (x0 : Int32) (h0 : Heap) (v : Option Value) (h : Heap) (L : List Loc) : Prop := v = some (.int (own_ce x0)) ∧ L = [] ∧ h = h0
set_option maxRecDepth 65536 in
set_option maxHeartbeats 40000000 in
theorem rmCEi (l : Launch) (Z : State) (a0 : Array Value) (hw : ∀ d ∈ tables_1, d.before a0 Z = true) (ws : List Jvm.Cond) (x0 : Int32) (h0 : Heap)  :
    MetFree l (⟨"java/lang/StringLatin1", "canEncode", "(I)Z"⟩ : MethodName) (head1 (Jvm.Cond.code (⟨"java/lang/StringLatin1", "canEncode", "(I)Z"⟩ : MethodName) jdk_43_method_4_code 1 (some .boolean) :: ws) ({ frames := 0, cells := 0, slots := 0, locals := 0 } : Room)) (fun a U => a = #[(.int x0)] ∧ Z.Warmed39 U.vm ∧ U.heap = h0) (fun _ _ _ _ _ => True) (fun _ U o U' => ∃ v L, o = .returned v ∧ Q_rmCEi Z x0 h0 v U'.heap L ∧ FrameEnd U o U' L ({ frames := 0, cells := 0, slots := 0, locals := 0 } : Room).cells ({ frames := 0, cells := 0, slots := 0, locals := 0 } : Room).slots) := by
  refine MetFree.of_bodySF (plainFor_of_name pn1) hisR ?_
  intro p e s m args below meth c s₁ Bd hml0 hP hK
  obtain ⟨rfl, hZ, hh⟩ := hP
  have hx := Bd.exec
  have hby := Bd.bytes
  have hlk : meth.locks = false := Bd.notSynchronized
  have hml : c.maxLocals = 1 := hml0
  have hown : s.vm.findClass "java/lang/StringLatin1" = some m.cls := findClass_of_methodNamed Bd.named
  have hnm := (name_of_methodNamed Bd.named Bd.method).1
  have X0 : Stand p l e ({ frames := 0, cells := 0, slots := 0, locals := 0 } : Room) s m #[(.int x0)] below meth c s₁ [] 0 0 := Stand.of_body Bd
  have e0 : s₁.heap = h0 := by rw [← hh, Bd.state]; rfl
  suffices hgo : OD p e s below (Q_rmCEi Z x0 h0) ({ frames := 0, cells := 0, slots := 0, locals := 0 } : Room).cells ({ frames := 0, cells := 0, slots := 0, locals := 0 } : Room).slots (s₁.setTop (mkF m 0 #[.val (.int x0)] [])) by
    obtain ⟨s₂, o, hgo1, hgo2⟩ := hgo
    exact ⟨s₂, o, castTop (ef3 m x0) hgo1, hgo2⟩
  refine OD.go (B := (s₁.setTop (mkF m 1 #[.val (.int x0)] [(.int x0)]))) (fun t k => XS.iloadN X0.here hx rfl (hb hby d16_0) rfl k) ?_
  obtain ⟨v16_1, hv16_1⟩ : ∃ z : Int32, z = (if x0 < (0 : Int32) then (0 : Int32) else (if (255 : Int32) < x0 then (0 : Int32) else (1 : Int32))) := ⟨_, rfl⟩
  refine OD.cut (B := (s₁.setTop (mkF m 16 #[.val (.int x0)] [(.int v16_1)]))) (fun J16_2 => ?_) ?_
  · skip
    by_cases c1_3 : x0 < (0 : Int32)
    · refine OD.go (B := (s₁.setTop (mkF m 15 #[.val (.int x0)] []))) (fun t k => XS.ifYes X0.here hx rfl (pc0 := 1) (pc' := 15) rfl (hb hby d16_1) rfl (by rw [if0]; exact (tlt c1_3).1) (by decide) (by decide) k) ?_
      refine OD.go (B := (s₁.setTop (mkF m 16 #[.val (.int x0)] [(.int (0 : Int32))]))) (fun t k => XS.iconst X0.here hx rfl (hb hby d16_15) k) ?_
      rw [if_pos c1_3] at hv16_1
      rw [hv16_1] at J16_2
      exact J16_2
    · refine OD.go (B := (s₁.setTop (mkF m 4 #[.val (.int x0)] []))) (fun t k => XS.ifNo X0.here hx rfl (hb hby d16_1) rfl (by rw [if0]; exact (flt c1_3).1) k) ?_
      refine OD.go (B := (s₁.setTop (mkF m 5 #[.val (.int x0)] [(.int x0)]))) (fun t k => XS.iloadN X0.here hx rfl (hb hby d16_4) rfl k) ?_
      refine OD.go (B := (s₁.setTop (mkF m 8 #[.val (.int x0)] [(.int (255 : Int32)), (.int x0)]))) (fun t k => XS.sipush X0.here hx rfl (hb hby d16_5) k) ?_
      by_cases c8_4 : (255 : Int32) < x0
      · refine OD.go (B := (s₁.setTop (mkF m 15 #[.val (.int x0)] []))) (fun t k => XS.icmpYes X0.here hx rfl (pc0 := 8) (pc' := 15) rfl (hb hby d16_8) rfl (tlt c8_4).2.2.1 (by decide) (by decide) k) ?_
        refine OD.go (B := (s₁.setTop (mkF m 16 #[.val (.int x0)] [(.int (0 : Int32))]))) (fun t k => XS.iconst X0.here hx rfl (hb hby d16_15) k) ?_
        rw [if_neg c1_3, if_pos c8_4] at hv16_1
        rw [hv16_1] at J16_2
        exact J16_2
      · refine OD.go (B := (s₁.setTop (mkF m 11 #[.val (.int x0)] []))) (fun t k => XS.icmpNo X0.here hx rfl (hb hby d16_8) rfl (flt c8_4).2.2.1 k) ?_
        refine OD.go (B := (s₁.setTop (mkF m 12 #[.val (.int x0)] [(.int (1 : Int32))]))) (fun t k => XS.iconst X0.here hx rfl (hb hby d16_11) k) ?_
        refine OD.go (B := (s₁.setTop (mkF m 16 #[.val (.int x0)] [(.int (1 : Int32))]))) (fun t k => XS.goto X0.here hx rfl (pc0 := 12) (pc' := 16) rfl (hb hby d16_12) (by decide) (by decide) k) ?_
        rw [if_neg c1_3, if_neg c8_4] at hv16_1
        rw [hv16_1] at J16_2
        exact J16_2
  have fin : v16_1 = own_ce x0 := by rw [hv16_1]; rfl
  rw [fin]
  exact OD.ret X0 hx hlk (t := .boolean) Bd.returns (own_ce_nar x0) (Or.inl ⟨rfl, Or.inr (Or.inl rfl), _, rfl⟩) (hb hby d16_16) (Nat.le_of_ble_eq_true rfl) (Nat.le_of_ble_eq_true rfl) ⟨rfl, rfl, e0⟩
def Q_rmMx00 (Z : State) (h0 : Heap) (v : Option Value) (h : Heap) (L : List Loc) : Prop := v = some (.int (0 : Int32)) ∧ L = [] ∧ h = h0
set_option maxRecDepth 65536 in
set_option maxHeartbeats 40000000 in
theorem rmMx00 (l : Launch) (Z : State) (a0 : Array Value) (hw : ∀ d ∈ tables_1, d.before a0 Z = true) (ws : List Jvm.Cond)  (h0 : Heap)  :
    MetFree l (⟨"java/lang/Math", "max", "(II)I"⟩ : MethodName) (head1 (Jvm.Cond.code (⟨"java/lang/Math", "max", "(II)I"⟩ : MethodName) jdk_29_method_65_code 2 (some .int) :: ws) ({ frames := 0, cells := 0, slots := 0, locals := 0 } : Room)) (fun a U => a = #[(.int (0 : Int32)), (.int (0 : Int32))] ∧ Z.Warmed39 U.vm ∧ U.heap = h0) (fun _ _ _ _ _ => True) (fun _ U o U' => ∃ v L, o = .returned v ∧ Q_rmMx00 Z h0 v U'.heap L ∧ FrameEnd U o U' L ({ frames := 0, cells := 0, slots := 0, locals := 0 } : Room).cells ({ frames := 0, cells := 0, slots := 0, locals := 0 } : Room).slots) := by
  refine MetFree.of_bodySF (by decide +kernel) hisR ?_
  intro p e s m args below meth c s₁ Bd hml0 hP hK
  obtain ⟨rfl, hZ, hh⟩ := hP
  have hx := Bd.exec
  have hby := Bd.bytes
  have hlk : meth.locks = false := Bd.notSynchronized
  have hml : c.maxLocals = 2 := hml0
  have hown : s.vm.findClass "java/lang/Math" = some m.cls := findClass_of_methodNamed Bd.named
  have hnm := (name_of_methodNamed Bd.named Bd.method).1
  have X0 : Stand p l e ({ frames := 0, cells := 0, slots := 0, locals := 0 } : Room) s m #[(.int (0 : Int32)), (.int (0 : Int32))] below meth c s₁ [] 0 0 := Stand.of_body Bd
  have e0 : s₁.heap = h0 := by rw [← hh, Bd.state]; rfl
  suffices hgo : OD p e s below (Q_rmMx00 Z h0) ({ frames := 0, cells := 0, slots := 0, locals := 0 } : Room).cells ({ frames := 0, cells := 0, slots := 0, locals := 0 } : Room).slots (s₁.setTop (mkF m 0 #[.val (.int (0 : Int32)), .val (.int (0 : Int32))] [])) by
    obtain ⟨s₂, o, hgo1, hgo2⟩ := hgo
    exact ⟨s₂, o, castTop (ef4 m (0 : Int32) (0 : Int32)) hgo1, hgo2⟩
  refine OD.go (B := (s₁.setTop (mkF m 1 #[.val (.int (0 : Int32)), .val (.int (0 : Int32))] [(.int (0 : Int32))]))) (fun t k => XS.iloadN X0.here hx rfl (hb hby d17_0) rfl k) ?_
  refine OD.go (B := (s₁.setTop (mkF m 2 #[.val (.int (0 : Int32)), .val (.int (0 : Int32))] [(.int (0 : Int32)), (.int (0 : Int32))]))) (fun t k => XS.iloadN X0.here hx rfl (hb hby d17_1) rfl k) ?_
  refine OD.go (B := (s₁.setTop (mkF m 5 #[.val (.int (0 : Int32)), .val (.int (0 : Int32))] []))) (fun t k => XS.icmpNo X0.here hx rfl (hb hby d17_2) rfl (flt (by decide : ¬ (0 : Int32) < (0 : Int32))).1 k) ?_
  refine OD.go (B := (s₁.setTop (mkF m 6 #[.val (.int (0 : Int32)), .val (.int (0 : Int32))] [(.int (0 : Int32))]))) (fun t k => XS.iloadN X0.here hx rfl (hb hby d17_5) rfl k) ?_
  refine OD.go (B := (s₁.setTop (mkF m 10 #[.val (.int (0 : Int32)), .val (.int (0 : Int32))] [(.int (0 : Int32))]))) (fun t k => XS.goto X0.here hx rfl (pc0 := 6) (pc' := 10) rfl (hb hby d17_6) (by decide) (by decide) k) ?_
  exact OD.ret X0 hx hlk (t := .int) Bd.returns rfl (Or.inl ⟨rfl, Or.inl rfl, _, rfl⟩) (hb hby d17_10) (Nat.le_of_ble_eq_true rfl) (Nat.le_of_ble_eq_true rfl) ⟨rfl, rfl, e0⟩
def Q_rmMn0 (Z : State) (h0 : Heap) (v : Option Value) (h : Heap) (L : List Loc) : Prop := v = some (.int (0 : Int32)) ∧ L = [] ∧ h = h0
set_option maxRecDepth 65536 in
set_option maxHeartbeats 40000000 in
theorem rmMn0 (l : Launch) (Z : State) (a0 : Array Value) (hw : ∀ d ∈ tables_1, d.before a0 Z = true) (ws : List Jvm.Cond)  (h0 : Heap)  :
    MetFree l (⟨"java/lang/Math", "min", "(II)I"⟩ : MethodName) (head1 (Jvm.Cond.code (⟨"java/lang/Math", "min", "(II)I"⟩ : MethodName) jdk_29_method_69_code 2 (some .int) :: ws) ({ frames := 0, cells := 0, slots := 0, locals := 0 } : Room)) (fun a U => a = #[(.int (0 : Int32)), (.int (0 : Int32))] ∧ Z.Warmed39 U.vm ∧ U.heap = h0) (fun _ _ _ _ _ => True) (fun _ U o U' => ∃ v L, o = .returned v ∧ Q_rmMn0 Z h0 v U'.heap L ∧ FrameEnd U o U' L ({ frames := 0, cells := 0, slots := 0, locals := 0 } : Room).cells ({ frames := 0, cells := 0, slots := 0, locals := 0 } : Room).slots) := by
  refine MetFree.of_bodySF (by decide +kernel) hisR ?_
  intro p e s m args below meth c s₁ Bd hml0 hP hK
  obtain ⟨rfl, hZ, hh⟩ := hP
  have hx := Bd.exec
  have hby := Bd.bytes
  have hlk : meth.locks = false := Bd.notSynchronized
  have hml : c.maxLocals = 2 := hml0
  have hown : s.vm.findClass "java/lang/Math" = some m.cls := findClass_of_methodNamed Bd.named
  have hnm := (name_of_methodNamed Bd.named Bd.method).1
  have X0 : Stand p l e ({ frames := 0, cells := 0, slots := 0, locals := 0 } : Room) s m #[(.int (0 : Int32)), (.int (0 : Int32))] below meth c s₁ [] 0 0 := Stand.of_body Bd
  have e0 : s₁.heap = h0 := by rw [← hh, Bd.state]; rfl
  suffices hgo : OD p e s below (Q_rmMn0 Z h0) ({ frames := 0, cells := 0, slots := 0, locals := 0 } : Room).cells ({ frames := 0, cells := 0, slots := 0, locals := 0 } : Room).slots (s₁.setTop (mkF m 0 #[.val (.int (0 : Int32)), .val (.int (0 : Int32))] [])) by
    obtain ⟨s₂, o, hgo1, hgo2⟩ := hgo
    exact ⟨s₂, o, castTop (ef4 m (0 : Int32) (0 : Int32)) hgo1, hgo2⟩
  refine OD.go (B := (s₁.setTop (mkF m 1 #[.val (.int (0 : Int32)), .val (.int (0 : Int32))] [(.int (0 : Int32))]))) (fun t k => XS.iloadN X0.here hx rfl (hb hby d18_0) rfl k) ?_
  refine OD.go (B := (s₁.setTop (mkF m 2 #[.val (.int (0 : Int32)), .val (.int (0 : Int32))] [(.int (0 : Int32)), (.int (0 : Int32))]))) (fun t k => XS.iloadN X0.here hx rfl (hb hby d18_1) rfl k) ?_
  refine OD.go (B := (s₁.setTop (mkF m 5 #[.val (.int (0 : Int32)), .val (.int (0 : Int32))] []))) (fun t k => XS.icmpNo X0.here hx rfl (hb hby d18_2) rfl (flt (by decide : ¬ (0 : Int32) < (0 : Int32))).2.2.1 k) ?_
  refine OD.go (B := (s₁.setTop (mkF m 6 #[.val (.int (0 : Int32)), .val (.int (0 : Int32))] [(.int (0 : Int32))]))) (fun t k => XS.iloadN X0.here hx rfl (hb hby d18_5) rfl k) ?_
  refine OD.go (B := (s₁.setTop (mkF m 10 #[.val (.int (0 : Int32)), .val (.int (0 : Int32))] [(.int (0 : Int32))]))) (fun t k => XS.goto X0.here hx rfl (pc0 := 6) (pc' := 10) rfl (hb hby d18_6) (by decide) (by decide) k) ?_
  exact OD.ret X0 hx hlk (t := .int) Bd.returns rfl (Or.inl ⟨rfl, Or.inl rfl, _, rfl⟩) (hb hby d18_10) (Nat.le_of_ble_eq_true rfl) (Nat.le_of_ble_eq_true rfl) ⟨rfl, rfl, e0⟩
def Q_rmMn1 (Z : State) (h0 : Heap) (v : Option Value) (h : Heap) (L : List Loc) : Prop := v = some (.int (1 : Int32)) ∧ L = [] ∧ h = h0
set_option maxRecDepth 65536 in
set_option maxHeartbeats 40000000 in
theorem rmMn1 (l : Launch) (Z : State) (a0 : Array Value) (hw : ∀ d ∈ tables_1, d.before a0 Z = true) (ws : List Jvm.Cond)  (h0 : Heap)  :
    MetFree l (⟨"java/lang/Math", "min", "(II)I"⟩ : MethodName) (head1 (Jvm.Cond.code (⟨"java/lang/Math", "min", "(II)I"⟩ : MethodName) jdk_29_method_69_code 2 (some .int) :: ws) ({ frames := 0, cells := 0, slots := 0, locals := 0 } : Room)) (fun a U => a = #[(.int (1 : Int32)), (.int (1 : Int32))] ∧ Z.Warmed39 U.vm ∧ U.heap = h0) (fun _ _ _ _ _ => True) (fun _ U o U' => ∃ v L, o = .returned v ∧ Q_rmMn1 Z h0 v U'.heap L ∧ FrameEnd U o U' L ({ frames := 0, cells := 0, slots := 0, locals := 0 } : Room).cells ({ frames := 0, cells := 0, slots := 0, locals := 0 } : Room).slots) := by
  refine MetFree.of_bodySF (by decide +kernel) hisR ?_
  intro p e s m args below meth c s₁ Bd hml0 hP hK
  obtain ⟨rfl, hZ, hh⟩ := hP
  have hx := Bd.exec
  have hby := Bd.bytes
  have hlk : meth.locks = false := Bd.notSynchronized
  have hml : c.maxLocals = 2 := hml0
  have hown : s.vm.findClass "java/lang/Math" = some m.cls := findClass_of_methodNamed Bd.named
  have hnm := (name_of_methodNamed Bd.named Bd.method).1
  have X0 : Stand p l e ({ frames := 0, cells := 0, slots := 0, locals := 0 } : Room) s m #[(.int (1 : Int32)), (.int (1 : Int32))] below meth c s₁ [] 0 0 := Stand.of_body Bd
  have e0 : s₁.heap = h0 := by rw [← hh, Bd.state]; rfl
  suffices hgo : OD p e s below (Q_rmMn1 Z h0) ({ frames := 0, cells := 0, slots := 0, locals := 0 } : Room).cells ({ frames := 0, cells := 0, slots := 0, locals := 0 } : Room).slots (s₁.setTop (mkF m 0 #[.val (.int (1 : Int32)), .val (.int (1 : Int32))] [])) by
    obtain ⟨s₂, o, hgo1, hgo2⟩ := hgo
    exact ⟨s₂, o, castTop (ef4 m (1 : Int32) (1 : Int32)) hgo1, hgo2⟩
  refine OD.go (B := (s₁.setTop (mkF m 1 #[.val (.int (1 : Int32)), .val (.int (1 : Int32))] [(.int (1 : Int32))]))) (fun t k => XS.iloadN X0.here hx rfl (hb hby d18_0) rfl k) ?_
  refine OD.go (B := (s₁.setTop (mkF m 2 #[.val (.int (1 : Int32)), .val (.int (1 : Int32))] [(.int (1 : Int32)), (.int (1 : Int32))]))) (fun t k => XS.iloadN X0.here hx rfl (hb hby d18_1) rfl k) ?_
  refine OD.go (B := (s₁.setTop (mkF m 5 #[.val (.int (1 : Int32)), .val (.int (1 : Int32))] []))) (fun t k => XS.icmpNo X0.here hx rfl (hb hby d18_2) rfl (flt (by decide : ¬ (1 : Int32) < (1 : Int32))).2.2.1 k) ?_
  refine OD.go (B := (s₁.setTop (mkF m 6 #[.val (.int (1 : Int32)), .val (.int (1 : Int32))] [(.int (1 : Int32))]))) (fun t k => XS.iloadN X0.here hx rfl (hb hby d18_5) rfl k) ?_
  refine OD.go (B := (s₁.setTop (mkF m 10 #[.val (.int (1 : Int32)), .val (.int (1 : Int32))] [(.int (1 : Int32))]))) (fun t k => XS.goto X0.here hx rfl (pc0 := 6) (pc' := 10) rfl (hb hby d18_6) (by decide) (by decide) k) ?_
  exact OD.ret X0 hx hlk (t := .int) Bd.returns rfl (Or.inl ⟨rfl, Or.inl rfl, _, rfl⟩) (hb hby d18_10) (Nat.le_of_ble_eq_true rfl) (Nat.le_of_ble_eq_true rfl) ⟨rfl, rfl, e0⟩
def Q_rmMn2 (Z : State) (h0 : Heap) (v : Option Value) (h : Heap) (L : List Loc) : Prop := v = some (.int (2 : Int32)) ∧ L = [] ∧ h = h0
set_option maxRecDepth 65536 in
set_option maxHeartbeats 40000000 in
theorem rmMn2 (l : Launch) (Z : State) (a0 : Array Value) (hw : ∀ d ∈ tables_1, d.before a0 Z = true) (ws : List Jvm.Cond)  (h0 : Heap)  :
    MetFree l (⟨"java/lang/Math", "min", "(II)I"⟩ : MethodName) (head1 (Jvm.Cond.code (⟨"java/lang/Math", "min", "(II)I"⟩ : MethodName) jdk_29_method_69_code 2 (some .int) :: ws) ({ frames := 0, cells := 0, slots := 0, locals := 0 } : Room)) (fun a U => a = #[(.int (2 : Int32)), (.int (2 : Int32))] ∧ Z.Warmed39 U.vm ∧ U.heap = h0) (fun _ _ _ _ _ => True) (fun _ U o U' => ∃ v L, o = .returned v ∧ Q_rmMn2 Z h0 v U'.heap L ∧ FrameEnd U o U' L ({ frames := 0, cells := 0, slots := 0, locals := 0 } : Room).cells ({ frames := 0, cells := 0, slots := 0, locals := 0 } : Room).slots) := by
  refine MetFree.of_bodySF (by decide +kernel) hisR ?_
  intro p e s m args below meth c s₁ Bd hml0 hP hK
  obtain ⟨rfl, hZ, hh⟩ := hP
  have hx := Bd.exec
  have hby := Bd.bytes
  have hlk : meth.locks = false := Bd.notSynchronized
  have hml : c.maxLocals = 2 := hml0
  have hown : s.vm.findClass "java/lang/Math" = some m.cls := findClass_of_methodNamed Bd.named
  have hnm := (name_of_methodNamed Bd.named Bd.method).1
  have X0 : Stand p l e ({ frames := 0, cells := 0, slots := 0, locals := 0 } : Room) s m #[(.int (2 : Int32)), (.int (2 : Int32))] below meth c s₁ [] 0 0 := Stand.of_body Bd
  have e0 : s₁.heap = h0 := by rw [← hh, Bd.state]; rfl
  suffices hgo : OD p e s below (Q_rmMn2 Z h0) ({ frames := 0, cells := 0, slots := 0, locals := 0 } : Room).cells ({ frames := 0, cells := 0, slots := 0, locals := 0 } : Room).slots (s₁.setTop (mkF m 0 #[.val (.int (2 : Int32)), .val (.int (2 : Int32))] [])) by
    obtain ⟨s₂, o, hgo1, hgo2⟩ := hgo
    exact ⟨s₂, o, castTop (ef4 m (2 : Int32) (2 : Int32)) hgo1, hgo2⟩
  refine OD.go (B := (s₁.setTop (mkF m 1 #[.val (.int (2 : Int32)), .val (.int (2 : Int32))] [(.int (2 : Int32))]))) (fun t k => XS.iloadN X0.here hx rfl (hb hby d18_0) rfl k) ?_
  refine OD.go (B := (s₁.setTop (mkF m 2 #[.val (.int (2 : Int32)), .val (.int (2 : Int32))] [(.int (2 : Int32)), (.int (2 : Int32))]))) (fun t k => XS.iloadN X0.here hx rfl (hb hby d18_1) rfl k) ?_
  refine OD.go (B := (s₁.setTop (mkF m 5 #[.val (.int (2 : Int32)), .val (.int (2 : Int32))] []))) (fun t k => XS.icmpNo X0.here hx rfl (hb hby d18_2) rfl (flt (by decide : ¬ (2 : Int32) < (2 : Int32))).2.2.1 k) ?_
  refine OD.go (B := (s₁.setTop (mkF m 6 #[.val (.int (2 : Int32)), .val (.int (2 : Int32))] [(.int (2 : Int32))]))) (fun t k => XS.iloadN X0.here hx rfl (hb hby d18_5) rfl k) ?_
  refine OD.go (B := (s₁.setTop (mkF m 10 #[.val (.int (2 : Int32)), .val (.int (2 : Int32))] [(.int (2 : Int32))]))) (fun t k => XS.goto X0.here hx rfl (pc0 := 6) (pc' := 10) rfl (hb hby d18_6) (by decide) (by decide) k) ?_
  exact OD.ret X0 hx hlk (t := .int) Bd.returns rfl (Or.inl ⟨rfl, Or.inl rfl, _, rfl⟩) (hb hby d18_10) (Nat.le_of_ble_eq_true rfl) (Nat.le_of_ble_eq_true rfl) ⟨rfl, rfl, e0⟩
def Q_rmMn3 (Z : State) (h0 : Heap) (v : Option Value) (h : Heap) (L : List Loc) : Prop := v = some (.int (3 : Int32)) ∧ L = [] ∧ h = h0
set_option maxRecDepth 65536 in
set_option maxHeartbeats 40000000 in
theorem rmMn3 (l : Launch) (Z : State) (a0 : Array Value) (hw : ∀ d ∈ tables_1, d.before a0 Z = true) (ws : List Jvm.Cond)  (h0 : Heap)  :
    MetFree l (⟨"java/lang/Math", "min", "(II)I"⟩ : MethodName) (head1 (Jvm.Cond.code (⟨"java/lang/Math", "min", "(II)I"⟩ : MethodName) jdk_29_method_69_code 2 (some .int) :: ws) ({ frames := 0, cells := 0, slots := 0, locals := 0 } : Room)) (fun a U => a = #[(.int (3 : Int32)), (.int (3 : Int32))] ∧ Z.Warmed39 U.vm ∧ U.heap = h0) (fun _ _ _ _ _ => True) (fun _ U o U' => ∃ v L, o = .returned v ∧ Q_rmMn3 Z h0 v U'.heap L ∧ FrameEnd U o U' L ({ frames := 0, cells := 0, slots := 0, locals := 0 } : Room).cells ({ frames := 0, cells := 0, slots := 0, locals := 0 } : Room).slots) := by
  refine MetFree.of_bodySF (by decide +kernel) hisR ?_
  intro p e s m args below meth c s₁ Bd hml0 hP hK
  obtain ⟨rfl, hZ, hh⟩ := hP
  have hx := Bd.exec
  have hby := Bd.bytes
  have hlk : meth.locks = false := Bd.notSynchronized
  have hml : c.maxLocals = 2 := hml0
  have hown : s.vm.findClass "java/lang/Math" = some m.cls := findClass_of_methodNamed Bd.named
  have hnm := (name_of_methodNamed Bd.named Bd.method).1
  have X0 : Stand p l e ({ frames := 0, cells := 0, slots := 0, locals := 0 } : Room) s m #[(.int (3 : Int32)), (.int (3 : Int32))] below meth c s₁ [] 0 0 := Stand.of_body Bd
  have e0 : s₁.heap = h0 := by rw [← hh, Bd.state]; rfl
  suffices hgo : OD p e s below (Q_rmMn3 Z h0) ({ frames := 0, cells := 0, slots := 0, locals := 0 } : Room).cells ({ frames := 0, cells := 0, slots := 0, locals := 0 } : Room).slots (s₁.setTop (mkF m 0 #[.val (.int (3 : Int32)), .val (.int (3 : Int32))] [])) by
    obtain ⟨s₂, o, hgo1, hgo2⟩ := hgo
    exact ⟨s₂, o, castTop (ef4 m (3 : Int32) (3 : Int32)) hgo1, hgo2⟩
  refine OD.go (B := (s₁.setTop (mkF m 1 #[.val (.int (3 : Int32)), .val (.int (3 : Int32))] [(.int (3 : Int32))]))) (fun t k => XS.iloadN X0.here hx rfl (hb hby d18_0) rfl k) ?_
  refine OD.go (B := (s₁.setTop (mkF m 2 #[.val (.int (3 : Int32)), .val (.int (3 : Int32))] [(.int (3 : Int32)), (.int (3 : Int32))]))) (fun t k => XS.iloadN X0.here hx rfl (hb hby d18_1) rfl k) ?_
  refine OD.go (B := (s₁.setTop (mkF m 5 #[.val (.int (3 : Int32)), .val (.int (3 : Int32))] []))) (fun t k => XS.icmpNo X0.here hx rfl (hb hby d18_2) rfl (flt (by decide : ¬ (3 : Int32) < (3 : Int32))).2.2.1 k) ?_
  refine OD.go (B := (s₁.setTop (mkF m 6 #[.val (.int (3 : Int32)), .val (.int (3 : Int32))] [(.int (3 : Int32))]))) (fun t k => XS.iloadN X0.here hx rfl (hb hby d18_5) rfl k) ?_
  refine OD.go (B := (s₁.setTop (mkF m 10 #[.val (.int (3 : Int32)), .val (.int (3 : Int32))] [(.int (3 : Int32))]))) (fun t k => XS.goto X0.here hx rfl (pc0 := 6) (pc' := 10) rfl (hb hby d18_6) (by decide) (by decide) k) ?_
  exact OD.ret X0 hx hlk (t := .int) Bd.returns rfl (Or.inl ⟨rfl, Or.inl rfl, _, rfl⟩) (hb hby d18_10) (Nat.le_of_ble_eq_true rfl) (Nat.le_of_ble_eq_true rfl) ⟨rfl, rfl, e0⟩
def Q_rmMn4 (Z : State) (h0 : Heap) (v : Option Value) (h : Heap) (L : List Loc) : Prop := v = some (.int (4 : Int32)) ∧ L = [] ∧ h = h0
set_option maxRecDepth 65536 in
set_option maxHeartbeats 40000000 in
theorem rmMn4 (l : Launch) (Z : State) (a0 : Array Value) (hw : ∀ d ∈ tables_1, d.before a0 Z = true) (ws : List Jvm.Cond)  (h0 : Heap)  :
    MetFree l (⟨"java/lang/Math", "min", "(II)I"⟩ : MethodName) (head1 (Jvm.Cond.code (⟨"java/lang/Math", "min", "(II)I"⟩ : MethodName) jdk_29_method_69_code 2 (some .int) :: ws) ({ frames := 0, cells := 0, slots := 0, locals := 0 } : Room)) (fun a U => a = #[(.int (4 : Int32)), (.int (4 : Int32))] ∧ Z.Warmed39 U.vm ∧ U.heap = h0) (fun _ _ _ _ _ => True) (fun _ U o U' => ∃ v L, o = .returned v ∧ Q_rmMn4 Z h0 v U'.heap L ∧ FrameEnd U o U' L ({ frames := 0, cells := 0, slots := 0, locals := 0 } : Room).cells ({ frames := 0, cells := 0, slots := 0, locals := 0 } : Room).slots) := by
  refine MetFree.of_bodySF (by decide +kernel) hisR ?_
  intro p e s m args below meth c s₁ Bd hml0 hP hK
  obtain ⟨rfl, hZ, hh⟩ := hP
  have hx := Bd.exec
  have hby := Bd.bytes
  have hlk : meth.locks = false := Bd.notSynchronized
  have hml : c.maxLocals = 2 := hml0
  have hown : s.vm.findClass "java/lang/Math" = some m.cls := findClass_of_methodNamed Bd.named
  have hnm := (name_of_methodNamed Bd.named Bd.method).1
  have X0 : Stand p l e ({ frames := 0, cells := 0, slots := 0, locals := 0 } : Room) s m #[(.int (4 : Int32)), (.int (4 : Int32))] below meth c s₁ [] 0 0 := Stand.of_body Bd
  have e0 : s₁.heap = h0 := by rw [← hh, Bd.state]; rfl
  suffices hgo : OD p e s below (Q_rmMn4 Z h0) ({ frames := 0, cells := 0, slots := 0, locals := 0 } : Room).cells ({ frames := 0, cells := 0, slots := 0, locals := 0 } : Room).slots (s₁.setTop (mkF m 0 #[.val (.int (4 : Int32)), .val (.int (4 : Int32))] [])) by
    obtain ⟨s₂, o, hgo1, hgo2⟩ := hgo
    exact ⟨s₂, o, castTop (ef4 m (4 : Int32) (4 : Int32)) hgo1, hgo2⟩
  refine OD.go (B := (s₁.setTop (mkF m 1 #[.val (.int (4 : Int32)), .val (.int (4 : Int32))] [(.int (4 : Int32))]))) (fun t k => XS.iloadN X0.here hx rfl (hb hby d18_0) rfl k) ?_
  refine OD.go (B := (s₁.setTop (mkF m 2 #[.val (.int (4 : Int32)), .val (.int (4 : Int32))] [(.int (4 : Int32)), (.int (4 : Int32))]))) (fun t k => XS.iloadN X0.here hx rfl (hb hby d18_1) rfl k) ?_
  refine OD.go (B := (s₁.setTop (mkF m 5 #[.val (.int (4 : Int32)), .val (.int (4 : Int32))] []))) (fun t k => XS.icmpNo X0.here hx rfl (hb hby d18_2) rfl (flt (by decide : ¬ (4 : Int32) < (4 : Int32))).2.2.1 k) ?_
  refine OD.go (B := (s₁.setTop (mkF m 6 #[.val (.int (4 : Int32)), .val (.int (4 : Int32))] [(.int (4 : Int32))]))) (fun t k => XS.iloadN X0.here hx rfl (hb hby d18_5) rfl k) ?_
  refine OD.go (B := (s₁.setTop (mkF m 10 #[.val (.int (4 : Int32)), .val (.int (4 : Int32))] [(.int (4 : Int32))]))) (fun t k => XS.goto X0.here hx rfl (pc0 := 6) (pc' := 10) rfl (hb hby d18_6) (by decide) (by decide) k) ?_
  exact OD.ret X0 hx hlk (t := .int) Bd.returns rfl (Or.inl ⟨rfl, Or.inl rfl, _, rfl⟩) (hb hby d18_10) (Nat.le_of_ble_eq_true rfl) (Nat.le_of_ble_eq_true rfl) ⟨rfl, rfl, e0⟩
def Q_rmLI0 (Z : State) (a1 : Addr) (x1 : Int32) (h0 : Heap) (v : Option Value) (h : Heap) (L : List Loc) : Prop := v = some (.int (own_li0  x1)) ∧ L = [] ∧ h = h0
set_option maxRecDepth 65536 in
set_option maxHeartbeats 40000000 in
theorem rmLI0 (l : Launch) (Z : State) (a0 : Array Value) (hw : ∀ d ∈ tables_1, d.before a0 Z = true) (ws : List Jvm.Cond) (a1 : Addr) (x1 : Int32) (h0 : Heap) (kt : ClassId) (A1 : Arv Z h0 a1 kt .byte (0 : Int32) [] (.int 0)) :
    MetFree l (⟨"java/lang/StringLatin1", "indexOf", "([BIII)I"⟩ : MethodName) (head1 (Jvm.Cond.code (⟨"java/lang/StringLatin1", "indexOf", "([BIII)I"⟩ : MethodName) jdk_43_method_22_code 4 (some .int) :: ws) ({ frames := 1, cells := 0, slots := 0, locals := 20 } : Room)) (fun a U => a = #[(.ref a1), (.int x1), (.int (0 : Int32)), (.int (0 : Int32))] ∧ Z.Warmed39 U.vm ∧ U.heap = h0) (fun _ _ _ _ _ => True) (fun _ U o U' => ∃ v L, o = .returned v ∧ Q_rmLI0 Z a1 x1 h0 v U'.heap L ∧ FrameEnd U o U' L ({ frames := 1, cells := 0, slots := 0, locals := 20 } : Room).cells ({ frames := 1, cells := 0, slots := 0, locals := 20 } : Room).slots) := by
  refine MetFree.of_bodySF (plainFor_of_name pn1) hisR ?_
  intro p e s m args below meth c s₁ Bd hml0 hP hK
  obtain ⟨rfl, hZ, hh⟩ := hP
  have hx := Bd.exec
  have hby := Bd.bytes
  have hlk : meth.locks = false := Bd.notSynchronized
  have hml : c.maxLocals = 4 := hml0
  have hown : s.vm.findClass "java/lang/StringLatin1" = some m.cls := findClass_of_methodNamed Bd.named
  have hnm := (name_of_methodNamed Bd.named Bd.method).1
  have X0 : Stand p l e ({ frames := 1, cells := 0, slots := 0, locals := 20 } : Room) s m #[(.ref a1), (.int x1), (.int (0 : Int32)), (.int (0 : Int32))] below meth c s₁ [] 0 0 := Stand.of_body Bd
  have e0 : s₁.heap = h0 := by rw [← hh, Bd.state]; rfl
  suffices hgo : OD p e s below (Q_rmLI0 Z a1 x1 h0) ({ frames := 1, cells := 0, slots := 0, locals := 20 } : Room).cells ({ frames := 1, cells := 0, slots := 0, locals := 20 } : Room).slots (s₁.setTop (mkF m 0 #[.val (.ref a1), .val (.int x1), .val (.int (0 : Int32)), .val (.int (0 : Int32))] [])) by
    obtain ⟨s₂, o, hgo1, hgo2⟩ := hgo
    exact ⟨s₂, o, castTop (ef5 m a1 x1 (0 : Int32) (0 : Int32)) hgo1, hgo2⟩
  refine OD.go (B := (s₁.setTop (mkF m 1 #[.val (.ref a1), .val (.int x1), .val (.int (0 : Int32)), .val (.int (0 : Int32))] [(.int x1)]))) (fun t k => XS.iloadN X0.here hx rfl (hb hby d15_0) rfl k) ?_
  obtain ⟨_, _, ⟨T1, L1, k1, n1⟩, -, X1, ⟨Lc1, hQ1, l1, y1, z1⟩, st1⟩ := Jvm.LawKit.callS X0 hx (y := (⟨"java/lang/StringLatin1", "canEncode", "(I)Z"⟩ : MethodName)) hown (mvT hZ (Wd73 hw)) (mvT hZ (Wd74 hw)) (mvT hZ (Wd71 hw)) (mvT hZ (Wd75 hw)) (by decide) (backOf (W := 0) (rmCEi l Z a0 hw [] x1 h0) hZ (Wd75 hw) (Wd71 hw) (by decide) (by decide)) (g := (mkF m 1 #[.val (.ref a1), .val (.int x1), .val (.int (0 : Int32)), .val (.int (0 : Int32))] [(.int x1)])) rfl (by rw [hml]; rfl) (argsL := [(.int x1)]) (rest := []) (lenOf pd2 rfl) rfl (by show 2 * 0 + _ ≤ _; exact Nat.le_of_eq rfl) (hb hby d15_1) (fun _ _ => ⟨rfl, e0, (Nat.le_of_ble_eq_true rfl), (Nat.le_of_ble_eq_true rfl)⟩)
  dsimp only [Pt.U, Pt.locs, Pt.cells, Pt.slots] at X1 l1 y1 z1 st1 hQ1
  subst l1 y1 z1
  obtain ⟨rfl, rfl, e1⟩ := hQ1
  refine OD.go (B := (T1.setTop (mkF m 4 #[.val (.ref a1), .val (.int x1), .val (.int (0 : Int32)), .val (.int (0 : Int32))] [(.int (own_ce x1))]))) st1 ?_
  by_cases c4_2 : (own_ce x1) = (0 : Int32)
  · refine OD.go (B := (T1.setTop (mkF m 7 #[.val (.ref a1), .val (.int x1), .val (.int (0 : Int32)), .val (.int (0 : Int32))] []))) (fun t k => XS.ifNo X1.here hx rfl (hb hby d15_4) rfl (by rw [if0]; exact (teq c4_2).2) k) ?_
    refine OD.go (B := (T1.setTop (mkF m 8 #[.val (.ref a1), .val (.int x1), .val (.int (0 : Int32)), .val (.int (0 : Int32))] [(.int (-1 : Int32))]))) (fun t k => XS.iconst X1.here hx rfl (hb hby d15_7) k) ?_
    have fin : (own_li0  x1) = (-1 : Int32) := by unfold own_li0; rw [if_pos c4_2]
    exact OD.ret X1 hx hlk (t := .int) Bd.returns rfl (Or.inl ⟨rfl, Or.inl rfl, _, rfl⟩) (hb hby d15_8) (Nat.le_of_ble_eq_true rfl) (Nat.le_of_ble_eq_true rfl) ⟨by rw [fin], rfl, e1⟩
  · refine OD.go (B := (T1.setTop (mkF m 9 #[.val (.ref a1), .val (.int x1), .val (.int (0 : Int32)), .val (.int (0 : Int32))] []))) (fun t k => XS.ifYes X1.here hx rfl (pc0 := 4) (pc' := 9) rfl (hb hby d15_4) rfl (by rw [if0]; exact (feq c4_2).2) (by decide) (by decide) k) ?_
    refine OD.go (B := (T1.setTop (mkF m 10 #[.val (.ref a1), .val (.int x1), .val (.int (0 : Int32)), .val (.int (0 : Int32))] [(.int (0 : Int32))]))) (fun t k => XS.iloadN X1.here hx rfl (hb hby d15_9) rfl k) ?_
    refine OD.go (B := (T1.setTop (mkF m 11 #[.val (.ref a1), .val (.int x1), .val (.int (0 : Int32)), .val (.int (0 : Int32))] [(.int (0 : Int32)), (.int (0 : Int32))]))) (fun t k => XS.iconst X1.here hx rfl (hb hby d15_10) k) ?_
    obtain ⟨_, _, ⟨T3, L3, k3, n3⟩, -, X3, ⟨Lc3, hQ3, l3, y3, z3⟩, st3⟩ := Jvm.LawKit.callS X1 hx (y := (⟨"java/lang/Math", "max", "(II)I"⟩ : MethodName)) hown (mvT hZ (Wd76 hw)) (mvT hZ (Wd77 hw)) (mvT hZ (Wd78 hw)) (mvT hZ (Wd79 hw)) (by decide) (backOf (W := 0) (rmMx00 l Z a0 hw [] h0) hZ (Wd79 hw) (Wd78 hw) (by decide) (by decide)) (g := (mkF m 11 #[.val (.ref a1), .val (.int x1), .val (.int (0 : Int32)), .val (.int (0 : Int32))] [(.int (0 : Int32)), (.int (0 : Int32))])) rfl (by rw [hml]; rfl) (argsL := [(.int (0 : Int32)), (.int (0 : Int32))]) (rest := []) (lenOf pd3 rfl) rfl (by show 2 * 0 + _ ≤ _; exact Nat.le_of_eq rfl) (hb hby d15_11) (fun _ _ => ⟨rfl, e1, (Nat.le_of_ble_eq_true rfl), (Nat.le_of_ble_eq_true rfl)⟩)
    dsimp only [Pt.U, Pt.locs, Pt.cells, Pt.slots] at X3 l3 y3 z3 st3 hQ3
    subst l3 y3 z3
    obtain ⟨rfl, rfl, e3⟩ := hQ3
    refine OD.go (B := (T3.setTop (mkF m 14 #[.val (.ref a1), .val (.int x1), .val (.int (0 : Int32)), .val (.int (0 : Int32))] [(.int (0 : Int32))]))) st3 ?_
    refine OD.go (B := (T3.setTop (mkF m 15 #[.val (.ref a1), .val (.int x1), .val (.int (0 : Int32)), .val (.int (0 : Int32))] []))) (fun t k => XS.istoreN X3.here hx rfl (hb hby d15_14) rfl (l' := #[.val (.ref a1), .val (.int x1), .val (.int (0 : Int32)), .val (.int (0 : Int32))]) rfl k) ?_
    refine OD.go (B := (T3.setTop (mkF m 16 #[.val (.ref a1), .val (.int x1), .val (.int (0 : Int32)), .val (.int (0 : Int32))] [(.int (0 : Int32))]))) (fun t k => XS.iloadN X3.here hx rfl (hb hby d15_15) rfl k) ?_
    refine OD.go (B := (T3.setTop (mkF m 17 #[.val (.ref a1), .val (.int x1), .val (.int (0 : Int32)), .val (.int (0 : Int32))] [(.ref a1), (.int (0 : Int32))]))) (fun t k => XS.aloadN X3.here hx rfl (hb hby d15_16) rfl rfl k) ?_
    obtain ⟨cl4, Ar4, hl4⟩ := own_len A1
    refine OD.go (B := (T3.setTop (mkF m 18 #[.val (.ref a1), .val (.int x1), .val (.int (0 : Int32)), .val (.int (0 : Int32))] [(.int (0 : Int32)), (.int (0 : Int32))]))) (fun t k => X3.arraylength hx (by rw [e3]; exact Ar4.1) (State.isArrayOf_alike hZ.alike Ar4.2.1) (g := (mkF m 17 #[.val (.ref a1), .val (.int x1), .val (.int (0 : Int32)), .val (.int (0 : Int32))] [(.ref a1), (.int (0 : Int32))])) rfl rfl (hb hby d15_17) _ (by rw [hl4]; exact k)) ?_
    obtain ⟨_, _, ⟨T5, L5, k5, n5⟩, -, X5, ⟨Lc5, hQ5, l5, y5, z5⟩, st5⟩ := Jvm.LawKit.callS X3 hx (y := (⟨"java/lang/Math", "min", "(II)I"⟩ : MethodName)) hown (mvT hZ (Wd80 hw)) (mvT hZ (Wd81 hw)) (mvT hZ (Wd78 hw)) (mvT hZ (Wd82 hw)) (by decide) (backOf (W := 0) (rmMn0 l Z a0 hw [] h0) hZ (Wd82 hw) (Wd78 hw) (by decide) (by decide)) (g := (mkF m 18 #[.val (.ref a1), .val (.int x1), .val (.int (0 : Int32)), .val (.int (0 : Int32))] [(.int (0 : Int32)), (.int (0 : Int32))])) rfl (by rw [hml]; rfl) (argsL := [(.int (0 : Int32)), (.int (0 : Int32))]) (rest := []) (lenOf pd3 rfl) rfl (by show 2 * 0 + _ ≤ _; exact Nat.le_of_eq rfl) (hb hby d15_18) (fun _ _ => ⟨rfl, e3, (Nat.le_of_ble_eq_true rfl), (Nat.le_of_ble_eq_true rfl)⟩)
    dsimp only [Pt.U, Pt.locs, Pt.cells, Pt.slots] at X5 l5 y5 z5 st5 hQ5
    subst l5 y5 z5
    obtain ⟨rfl, rfl, e5⟩ := hQ5
    refine OD.go (B := (T5.setTop (mkF m 21 #[.val (.ref a1), .val (.int x1), .val (.int (0 : Int32)), .val (.int (0 : Int32))] [(.int (0 : Int32))]))) st5 ?_
    refine OD.go (B := (T5.setTop (mkF m 22 #[.val (.ref a1), .val (.int x1), .val (.int (0 : Int32)), .val (.int (0 : Int32))] []))) (fun t k => XS.istoreN X5.here hx rfl (hb hby d15_21) rfl (l' := #[.val (.ref a1), .val (.int x1), .val (.int (0 : Int32)), .val (.int (0 : Int32))]) rfl k) ?_
    refine OD.go (B := (T5.setTop (mkF m 23 #[.val (.ref a1), .val (.int x1), .val (.int (0 : Int32)), .val (.int (0 : Int32))] [(.int (0 : Int32))]))) (fun t k => XS.iloadN X5.here hx rfl (hb hby d15_22) rfl k) ?_
    refine OD.go (B := (T5.setTop (mkF m 24 #[.val (.ref a1), .val (.int x1), .val (.int (0 : Int32)), .val (.int (0 : Int32))] [(.int (0 : Int32)), (.int (0 : Int32))]))) (fun t k => XS.iloadN X5.here hx rfl (hb hby d15_23) rfl k) ?_
    refine OD.go (B := (T5.setTop (mkF m 27 #[.val (.ref a1), .val (.int x1), .val (.int (0 : Int32)), .val (.int (0 : Int32))] []))) (fun t k => XS.icmpNo X5.here hx rfl (hb hby d15_24) rfl (flt (by decide : ¬ (0 : Int32) < (0 : Int32))).1 k) ?_
    refine OD.go (B := (T5.setTop (mkF m 28 #[.val (.ref a1), .val (.int x1), .val (.int (0 : Int32)), .val (.int (0 : Int32))] [(.int (-1 : Int32))]))) (fun t k => XS.iconst X5.here hx rfl (hb hby d15_27) k) ?_
    have fin : (own_li0  x1) = (-1 : Int32) := by unfold own_li0; rw [if_neg c4_2]; rfl
    exact OD.ret X5 hx hlk (t := .int) Bd.returns rfl (Or.inl ⟨rfl, Or.inl rfl, _, rfl⟩) (hb hby d15_28) (Nat.le_of_ble_eq_true rfl) (Nat.le_of_ble_eq_true rfl) ⟨by rw [fin], rfl, e5⟩
def Q_rmIC1 (Z : State) (a1 : Addr) (x1 : Int32) (h0 : Heap) (c0 : Int32) (v : Option Value) (h : Heap) (L : List Loc) : Prop := v = some (.int (own_ix1 c0 x1)) ∧ L = [] ∧ h = h0
set_option maxRecDepth 65536 in
set_option maxHeartbeats 40000000 in
theorem rmIC1 (l : Launch) (Z : State) (a0 : Array Value) (hw : ∀ d ∈ tables_1, d.before a0 Z = true) (ws : List Jvm.Cond) (a1 : Addr) (x1 : Int32) (h0 : Heap) (kt : ClassId) (c0 : Int32) (A1 : Arv Z h0 a1 kt .byte (1 : Int32) [(.int c0)] (.int 0)) :
    MetFree l (⟨"java/lang/StringLatin1", "indexOfChar", "([BIII)I"⟩ : MethodName) (head1 (Jvm.Cond.code (⟨"java/lang/StringLatin1", "indexOfChar", "([BIII)I"⟩ : MethodName) jdk_43_method_23_code 6 (some .int) :: ws) ({ frames := 0, cells := 0, slots := 0, locals := 0 } : Room)) (fun a U => a = #[(.ref a1), (.int x1), (.int (0 : Int32)), (.int (1 : Int32))] ∧ Z.Warmed39 U.vm ∧ U.heap = h0) (fun _ _ _ _ _ => True) (fun _ U o U' => ∃ v L, o = .returned v ∧ Q_rmIC1 Z a1 x1 h0 c0 v U'.heap L ∧ FrameEnd U o U' L ({ frames := 0, cells := 0, slots := 0, locals := 0 } : Room).cells ({ frames := 0, cells := 0, slots := 0, locals := 0 } : Room).slots) := by
  refine MetFree.of_bodySF (plainFor_of_name pn1) hisR ?_
  intro p e s m args below meth c s₁ Bd hml0 hP hK
  obtain ⟨rfl, hZ, hh⟩ := hP
  have hx := Bd.exec
  have hby := Bd.bytes
  have hlk : meth.locks = false := Bd.notSynchronized
  have hml : c.maxLocals = 6 := hml0
  have hown : s.vm.findClass "java/lang/StringLatin1" = some m.cls := findClass_of_methodNamed Bd.named
  have hnm := (name_of_methodNamed Bd.named Bd.method).1
  have X0 : Stand p l e ({ frames := 0, cells := 0, slots := 0, locals := 0 } : Room) s m #[(.ref a1), (.int x1), (.int (0 : Int32)), (.int (1 : Int32))] below meth c s₁ [] 0 0 := Stand.of_body Bd
  have e0 : s₁.heap = h0 := by rw [← hh, Bd.state]; rfl
  suffices hgo : OD p e s below (Q_rmIC1 Z a1 x1 h0 c0) ({ frames := 0, cells := 0, slots := 0, locals := 0 } : Room).cells ({ frames := 0, cells := 0, slots := 0, locals := 0 } : Room).slots (s₁.setTop (mkF m 0 #[.val (.ref a1), .val (.int x1), .val (.int (0 : Int32)), .val (.int (1 : Int32)), .unset, .unset] [])) by
    obtain ⟨s₂, o, hgo1, hgo2⟩ := hgo
    exact ⟨s₂, o, castTop (ef6 m a1 x1 (0 : Int32) (1 : Int32)) hgo1, hgo2⟩
  refine OD.go (B := (s₁.setTop (mkF m 1 #[.val (.ref a1), .val (.int x1), .val (.int (0 : Int32)), .val (.int (1 : Int32)), .unset, .unset] [(.int x1)]))) (fun t k => XS.iloadN X0.here hx rfl (hb hby d19_0) rfl k) ?_
  refine OD.go (B := (s₁.setTop (mkF m 2 #[.val (.ref a1), .val (.int x1), .val (.int (0 : Int32)), .val (.int (1 : Int32)), .unset, .unset] [(.int x1.toInt8.toInt32)]))) (fun t k => XS.i2b X0.here hx rfl (hb hby d19_1) rfl k) ?_
  refine OD.go (B := (s₁.setTop (mkF m 4 #[.val (.ref a1), .val (.int x1), .val (.int (0 : Int32)), .val (.int (1 : Int32)), .val (.int x1.toInt8.toInt32), .unset] []))) (fun t k => XS.istore X0.here hx rfl (hb hby d19_2) rfl (l' := #[.val (.ref a1), .val (.int x1), .val (.int (0 : Int32)), .val (.int (1 : Int32)), .val (.int x1.toInt8.toInt32), .unset]) rfl k) ?_
  refine OD.go (B := (s₁.setTop (mkF m 5 #[.val (.ref a1), .val (.int x1), .val (.int (0 : Int32)), .val (.int (1 : Int32)), .val (.int x1.toInt8.toInt32), .unset] [(.int (0 : Int32))]))) (fun t k => XS.iloadN X0.here hx rfl (hb hby d19_4) rfl k) ?_
  refine OD.go (B := (s₁.setTop (mkF m 7 #[.val (.ref a1), .val (.int x1), .val (.int (0 : Int32)), .val (.int (1 : Int32)), .val (.int x1.toInt8.toInt32), .val (.int (0 : Int32))] []))) (fun t k => XS.istore X0.here hx rfl (hb hby d19_5) rfl (l' := #[.val (.ref a1), .val (.int x1), .val (.int (0 : Int32)), .val (.int (1 : Int32)), .val (.int x1.toInt8.toInt32), .val (.int (0 : Int32))]) rfl k) ?_
  refine OD.go (B := (s₁.setTop (mkF m 9 #[.val (.ref a1), .val (.int x1), .val (.int (0 : Int32)), .val (.int (1 : Int32)), .val (.int x1.toInt8.toInt32), .val (.int (0 : Int32))] [(.int (0 : Int32))]))) (fun t k => XS.iload X0.here hx rfl (hb hby d19_7) rfl k) ?_
  refine OD.go (B := (s₁.setTop (mkF m 10 #[.val (.ref a1), .val (.int x1), .val (.int (0 : Int32)), .val (.int (1 : Int32)), .val (.int x1.toInt8.toInt32), .val (.int (0 : Int32))] [(.int (1 : Int32)), (.int (0 : Int32))]))) (fun t k => XS.iloadN X0.here hx rfl (hb hby d19_9) rfl k) ?_
  refine OD.go (B := (s₁.setTop (mkF m 13 #[.val (.ref a1), .val (.int x1), .val (.int (0 : Int32)), .val (.int (1 : Int32)), .val (.int x1.toInt8.toInt32), .val (.int (0 : Int32))] []))) (fun t k => XS.icmpNo X0.here hx rfl (hb hby d19_10) rfl (tlt (by decide : (0 : Int32) < (1 : Int32))).2.1 k) ?_
  refine OD.go (B := (s₁.setTop (mkF m 14 #[.val (.ref a1), .val (.int x1), .val (.int (0 : Int32)), .val (.int (1 : Int32)), .val (.int x1.toInt8.toInt32), .val (.int (0 : Int32))] [(.ref a1)]))) (fun t k => XS.aloadN X0.here hx rfl (hb hby d19_13) rfl rfl k) ?_
  refine OD.go (B := (s₁.setTop (mkF m 16 #[.val (.ref a1), .val (.int x1), .val (.int (0 : Int32)), .val (.int (1 : Int32)), .val (.int x1.toInt8.toInt32), .val (.int (0 : Int32))] [(.int (0 : Int32)), (.ref a1)]))) (fun t k => XS.iload X0.here hx rfl (hb hby d19_14) rfl k) ?_
  obtain ⟨cl1, Ar1, hi1, ha1⟩ := own_at A1 (j := (0 : Int32)) (v := (.int c0)) ⟨by decide, by decide⟩ rfl
  refine OD.go (B := (s₁.setTop (mkF m 17 #[.val (.ref a1), .val (.int x1), .val (.int (0 : Int32)), .val (.int (1 : Int32)), .val (.int x1.toInt8.toInt32), .val (.int (0 : Int32))] [(.int c0)]))) (fun t k => X0.baloadBytes hx (j := (0 : Int32)) (v := (.int c0)) (by rw [e0]; exact Ar1.1) (State.isArrayOf_alike hZ.alike Ar1.2.1) Ar1.2.2 hi1 ha1 (g := (mkF m 16 #[.val (.ref a1), .val (.int x1), .val (.int (0 : Int32)), .val (.int (1 : Int32)), .val (.int x1.toInt8.toInt32), .val (.int (0 : Int32))] [(.int (0 : Int32)), (.ref a1)])) rfl rfl (hb hby d19_16) _ k) ?_
  refine OD.go (B := (s₁.setTop (mkF m 19 #[.val (.ref a1), .val (.int x1), .val (.int (0 : Int32)), .val (.int (1 : Int32)), .val (.int x1.toInt8.toInt32), .val (.int (0 : Int32))] [(.int x1.toInt8.toInt32), (.int c0)]))) (fun t k => XS.iload X0.here hx rfl (hb hby d19_17) rfl k) ?_
  by_cases c19_2 : c0 = x1.toInt8.toInt32
  · refine OD.go (B := (s₁.setTop (mkF m 22 #[.val (.ref a1), .val (.int x1), .val (.int (0 : Int32)), .val (.int (1 : Int32)), .val (.int x1.toInt8.toInt32), .val (.int (0 : Int32))] []))) (fun t k => XS.icmpNo X0.here hx rfl (hb hby d19_19) rfl (teq c19_2).2 k) ?_
    refine OD.go (B := (s₁.setTop (mkF m 24 #[.val (.ref a1), .val (.int x1), .val (.int (0 : Int32)), .val (.int (1 : Int32)), .val (.int x1.toInt8.toInt32), .val (.int (0 : Int32))] [(.int (0 : Int32))]))) (fun t k => XS.iload X0.here hx rfl (hb hby d19_22) rfl k) ?_
    have fin : (own_ix1 c0 x1) = (0 : Int32) := by unfold own_ix1; rw [if_pos c19_2]
    exact OD.ret X0 hx hlk (t := .int) Bd.returns rfl (Or.inl ⟨rfl, Or.inl rfl, _, rfl⟩) (hb hby d19_24) (Nat.le_of_ble_eq_true rfl) (Nat.le_of_ble_eq_true rfl) ⟨by rw [fin], rfl, e0⟩
  · refine OD.go (B := (s₁.setTop (mkF m 25 #[.val (.ref a1), .val (.int x1), .val (.int (0 : Int32)), .val (.int (1 : Int32)), .val (.int x1.toInt8.toInt32), .val (.int (0 : Int32))] []))) (fun t k => XS.icmpYes X0.here hx rfl (pc0 := 19) (pc' := 25) rfl (hb hby d19_19) rfl (feq c19_2).2 (by decide) (by decide) k) ?_
    refine OD.go (B := (s₁.setTop (mkF m 28 #[.val (.ref a1), .val (.int x1), .val (.int (0 : Int32)), .val (.int (1 : Int32)), .val (.int x1.toInt8.toInt32), .val (.int (1 : Int32))] []))) (fun t k => XS.iinc X0.here hx rfl (hb hby d19_25) rfl (l' := #[.val (.ref a1), .val (.int x1), .val (.int (0 : Int32)), .val (.int (1 : Int32)), .val (.int x1.toInt8.toInt32), .val (.int (1 : Int32))]) rfl k) ?_
    refine OD.go (B := (s₁.setTop (mkF m 7 #[.val (.ref a1), .val (.int x1), .val (.int (0 : Int32)), .val (.int (1 : Int32)), .val (.int x1.toInt8.toInt32), .val (.int (1 : Int32))] []))) (fun t k => XS.goto X0.here hx rfl (pc0 := 28) (pc' := 7) rfl (hb hby d19_28) (by decide) (by decide) k) ?_
    refine OD.go (B := (s₁.setTop (mkF m 9 #[.val (.ref a1), .val (.int x1), .val (.int (0 : Int32)), .val (.int (1 : Int32)), .val (.int x1.toInt8.toInt32), .val (.int (1 : Int32))] [(.int (1 : Int32))]))) (fun t k => XS.iload X0.here hx rfl (hb hby d19_7) rfl k) ?_
    refine OD.go (B := (s₁.setTop (mkF m 10 #[.val (.ref a1), .val (.int x1), .val (.int (0 : Int32)), .val (.int (1 : Int32)), .val (.int x1.toInt8.toInt32), .val (.int (1 : Int32))] [(.int (1 : Int32)), (.int (1 : Int32))]))) (fun t k => XS.iloadN X0.here hx rfl (hb hby d19_9) rfl k) ?_
    refine OD.go (B := (s₁.setTop (mkF m 31 #[.val (.ref a1), .val (.int x1), .val (.int (0 : Int32)), .val (.int (1 : Int32)), .val (.int x1.toInt8.toInt32), .val (.int (1 : Int32))] []))) (fun t k => XS.icmpYes X0.here hx rfl (pc0 := 10) (pc' := 31) rfl (hb hby d19_10) rfl (flt (by decide : ¬ (1 : Int32) < (1 : Int32))).2.1 (by decide) (by decide) k) ?_
    refine OD.go (B := (s₁.setTop (mkF m 32 #[.val (.ref a1), .val (.int x1), .val (.int (0 : Int32)), .val (.int (1 : Int32)), .val (.int x1.toInt8.toInt32), .val (.int (1 : Int32))] [(.int (-1 : Int32))]))) (fun t k => XS.iconst X0.here hx rfl (hb hby d19_31) k) ?_
    have fin : (own_ix1 c0 x1) = (-1 : Int32) := by unfold own_ix1; rw [if_neg c19_2]
    exact OD.ret X0 hx hlk (t := .int) Bd.returns rfl (Or.inl ⟨rfl, Or.inl rfl, _, rfl⟩) (hb hby d19_32) (Nat.le_of_ble_eq_true rfl) (Nat.le_of_ble_eq_true rfl) ⟨by rw [fin], rfl, e0⟩
def Q_rmLI1 (Z : State) (a1 : Addr) (x1 : Int32) (h0 : Heap) (c0 : Int32) (v : Option Value) (h : Heap) (L : List Loc) : Prop := v = some (.int (own_li1 c0 x1)) ∧ L = [] ∧ h = h0
set_option maxRecDepth 65536 in
set_option maxHeartbeats 40000000 in
theorem rmLI1 (l : Launch) (Z : State) (a0 : Array Value) (hw : ∀ d ∈ tables_1, d.before a0 Z = true) (ws : List Jvm.Cond) (a1 : Addr) (x1 : Int32) (h0 : Heap) (kt : ClassId) (c0 : Int32) (A1 : Arv Z h0 a1 kt .byte (1 : Int32) [(.int c0)] (.int 0)) :
    MetFree l (⟨"java/lang/StringLatin1", "indexOf", "([BIII)I"⟩ : MethodName) (head1 (Jvm.Cond.code (⟨"java/lang/StringLatin1", "indexOf", "([BIII)I"⟩ : MethodName) jdk_43_method_22_code 4 (some .int) :: ws) ({ frames := 1, cells := 0, slots := 0, locals := 20 } : Room)) (fun a U => a = #[(.ref a1), (.int x1), (.int (0 : Int32)), (.int (1 : Int32))] ∧ Z.Warmed39 U.vm ∧ U.heap = h0) (fun _ _ _ _ _ => True) (fun _ U o U' => ∃ v L, o = .returned v ∧ Q_rmLI1 Z a1 x1 h0 c0 v U'.heap L ∧ FrameEnd U o U' L ({ frames := 1, cells := 0, slots := 0, locals := 20 } : Room).cells ({ frames := 1, cells := 0, slots := 0, locals := 20 } : Room).slots) := by
  refine MetFree.of_bodySF (plainFor_of_name pn1) hisR ?_
  intro p e s m args below meth c s₁ Bd hml0 hP hK
  obtain ⟨rfl, hZ, hh⟩ := hP
  have hx := Bd.exec
  have hby := Bd.bytes
  have hlk : meth.locks = false := Bd.notSynchronized
  have hml : c.maxLocals = 4 := hml0
  have hown : s.vm.findClass "java/lang/StringLatin1" = some m.cls := findClass_of_methodNamed Bd.named
  have hnm := (name_of_methodNamed Bd.named Bd.method).1
  have X0 : Stand p l e ({ frames := 1, cells := 0, slots := 0, locals := 20 } : Room) s m #[(.ref a1), (.int x1), (.int (0 : Int32)), (.int (1 : Int32))] below meth c s₁ [] 0 0 := Stand.of_body Bd
  have e0 : s₁.heap = h0 := by rw [← hh, Bd.state]; rfl
  suffices hgo : OD p e s below (Q_rmLI1 Z a1 x1 h0 c0) ({ frames := 1, cells := 0, slots := 0, locals := 20 } : Room).cells ({ frames := 1, cells := 0, slots := 0, locals := 20 } : Room).slots (s₁.setTop (mkF m 0 #[.val (.ref a1), .val (.int x1), .val (.int (0 : Int32)), .val (.int (1 : Int32))] [])) by
    obtain ⟨s₂, o, hgo1, hgo2⟩ := hgo
    exact ⟨s₂, o, castTop (ef5 m a1 x1 (0 : Int32) (1 : Int32)) hgo1, hgo2⟩
  refine OD.go (B := (s₁.setTop (mkF m 1 #[.val (.ref a1), .val (.int x1), .val (.int (0 : Int32)), .val (.int (1 : Int32))] [(.int x1)]))) (fun t k => XS.iloadN X0.here hx rfl (hb hby d15_0) rfl k) ?_
  obtain ⟨_, _, ⟨T1, L1, k1, n1⟩, -, X1, ⟨Lc1, hQ1, l1, y1, z1⟩, st1⟩ := Jvm.LawKit.callS X0 hx (y := (⟨"java/lang/StringLatin1", "canEncode", "(I)Z"⟩ : MethodName)) hown (mvT hZ (Wd73 hw)) (mvT hZ (Wd74 hw)) (mvT hZ (Wd71 hw)) (mvT hZ (Wd75 hw)) (by decide) (backOf (W := 0) (rmCEi l Z a0 hw [] x1 h0) hZ (Wd75 hw) (Wd71 hw) (by decide) (by decide)) (g := (mkF m 1 #[.val (.ref a1), .val (.int x1), .val (.int (0 : Int32)), .val (.int (1 : Int32))] [(.int x1)])) rfl (by rw [hml]; rfl) (argsL := [(.int x1)]) (rest := []) (lenOf pd2 rfl) rfl (by show 2 * 0 + _ ≤ _; exact Nat.le_of_eq rfl) (hb hby d15_1) (fun _ _ => ⟨rfl, e0, (Nat.le_of_ble_eq_true rfl), (Nat.le_of_ble_eq_true rfl)⟩)
  dsimp only [Pt.U, Pt.locs, Pt.cells, Pt.slots] at X1 l1 y1 z1 st1 hQ1
  subst l1 y1 z1
  obtain ⟨rfl, rfl, e1⟩ := hQ1
  refine OD.go (B := (T1.setTop (mkF m 4 #[.val (.ref a1), .val (.int x1), .val (.int (0 : Int32)), .val (.int (1 : Int32))] [(.int (own_ce x1))]))) st1 ?_
  by_cases c4_2 : (own_ce x1) = (0 : Int32)
  · refine OD.go (B := (T1.setTop (mkF m 7 #[.val (.ref a1), .val (.int x1), .val (.int (0 : Int32)), .val (.int (1 : Int32))] []))) (fun t k => XS.ifNo X1.here hx rfl (hb hby d15_4) rfl (by rw [if0]; exact (teq c4_2).2) k) ?_
    refine OD.go (B := (T1.setTop (mkF m 8 #[.val (.ref a1), .val (.int x1), .val (.int (0 : Int32)), .val (.int (1 : Int32))] [(.int (-1 : Int32))]))) (fun t k => XS.iconst X1.here hx rfl (hb hby d15_7) k) ?_
    have fin : (own_li1 c0 x1) = (-1 : Int32) := by unfold own_li1; rw [if_pos c4_2]
    exact OD.ret X1 hx hlk (t := .int) Bd.returns rfl (Or.inl ⟨rfl, Or.inl rfl, _, rfl⟩) (hb hby d15_8) (Nat.le_of_ble_eq_true rfl) (Nat.le_of_ble_eq_true rfl) ⟨by rw [fin], rfl, e1⟩
  · refine OD.go (B := (T1.setTop (mkF m 9 #[.val (.ref a1), .val (.int x1), .val (.int (0 : Int32)), .val (.int (1 : Int32))] []))) (fun t k => XS.ifYes X1.here hx rfl (pc0 := 4) (pc' := 9) rfl (hb hby d15_4) rfl (by rw [if0]; exact (feq c4_2).2) (by decide) (by decide) k) ?_
    refine OD.go (B := (T1.setTop (mkF m 10 #[.val (.ref a1), .val (.int x1), .val (.int (0 : Int32)), .val (.int (1 : Int32))] [(.int (0 : Int32))]))) (fun t k => XS.iloadN X1.here hx rfl (hb hby d15_9) rfl k) ?_
    refine OD.go (B := (T1.setTop (mkF m 11 #[.val (.ref a1), .val (.int x1), .val (.int (0 : Int32)), .val (.int (1 : Int32))] [(.int (0 : Int32)), (.int (0 : Int32))]))) (fun t k => XS.iconst X1.here hx rfl (hb hby d15_10) k) ?_
    obtain ⟨_, _, ⟨T3, L3, k3, n3⟩, -, X3, ⟨Lc3, hQ3, l3, y3, z3⟩, st3⟩ := Jvm.LawKit.callS X1 hx (y := (⟨"java/lang/Math", "max", "(II)I"⟩ : MethodName)) hown (mvT hZ (Wd76 hw)) (mvT hZ (Wd77 hw)) (mvT hZ (Wd78 hw)) (mvT hZ (Wd79 hw)) (by decide) (backOf (W := 0) (rmMx00 l Z a0 hw [] h0) hZ (Wd79 hw) (Wd78 hw) (by decide) (by decide)) (g := (mkF m 11 #[.val (.ref a1), .val (.int x1), .val (.int (0 : Int32)), .val (.int (1 : Int32))] [(.int (0 : Int32)), (.int (0 : Int32))])) rfl (by rw [hml]; rfl) (argsL := [(.int (0 : Int32)), (.int (0 : Int32))]) (rest := []) (lenOf pd3 rfl) rfl (by show 2 * 0 + _ ≤ _; exact Nat.le_of_eq rfl) (hb hby d15_11) (fun _ _ => ⟨rfl, e1, (Nat.le_of_ble_eq_true rfl), (Nat.le_of_ble_eq_true rfl)⟩)
    dsimp only [Pt.U, Pt.locs, Pt.cells, Pt.slots] at X3 l3 y3 z3 st3 hQ3
    subst l3 y3 z3
    obtain ⟨rfl, rfl, e3⟩ := hQ3
    refine OD.go (B := (T3.setTop (mkF m 14 #[.val (.ref a1), .val (.int x1), .val (.int (0 : Int32)), .val (.int (1 : Int32))] [(.int (0 : Int32))]))) st3 ?_
    refine OD.go (B := (T3.setTop (mkF m 15 #[.val (.ref a1), .val (.int x1), .val (.int (0 : Int32)), .val (.int (1 : Int32))] []))) (fun t k => XS.istoreN X3.here hx rfl (hb hby d15_14) rfl (l' := #[.val (.ref a1), .val (.int x1), .val (.int (0 : Int32)), .val (.int (1 : Int32))]) rfl k) ?_
    refine OD.go (B := (T3.setTop (mkF m 16 #[.val (.ref a1), .val (.int x1), .val (.int (0 : Int32)), .val (.int (1 : Int32))] [(.int (1 : Int32))]))) (fun t k => XS.iloadN X3.here hx rfl (hb hby d15_15) rfl k) ?_
    refine OD.go (B := (T3.setTop (mkF m 17 #[.val (.ref a1), .val (.int x1), .val (.int (0 : Int32)), .val (.int (1 : Int32))] [(.ref a1), (.int (1 : Int32))]))) (fun t k => XS.aloadN X3.here hx rfl (hb hby d15_16) rfl rfl k) ?_
    obtain ⟨cl4, Ar4, hl4⟩ := own_len A1
    refine OD.go (B := (T3.setTop (mkF m 18 #[.val (.ref a1), .val (.int x1), .val (.int (0 : Int32)), .val (.int (1 : Int32))] [(.int (1 : Int32)), (.int (1 : Int32))]))) (fun t k => X3.arraylength hx (by rw [e3]; exact Ar4.1) (State.isArrayOf_alike hZ.alike Ar4.2.1) (g := (mkF m 17 #[.val (.ref a1), .val (.int x1), .val (.int (0 : Int32)), .val (.int (1 : Int32))] [(.ref a1), (.int (1 : Int32))])) rfl rfl (hb hby d15_17) _ (by rw [hl4]; exact k)) ?_
    obtain ⟨_, _, ⟨T5, L5, k5, n5⟩, -, X5, ⟨Lc5, hQ5, l5, y5, z5⟩, st5⟩ := Jvm.LawKit.callS X3 hx (y := (⟨"java/lang/Math", "min", "(II)I"⟩ : MethodName)) hown (mvT hZ (Wd80 hw)) (mvT hZ (Wd81 hw)) (mvT hZ (Wd78 hw)) (mvT hZ (Wd82 hw)) (by decide) (backOf (W := 0) (rmMn1 l Z a0 hw [] h0) hZ (Wd82 hw) (Wd78 hw) (by decide) (by decide)) (g := (mkF m 18 #[.val (.ref a1), .val (.int x1), .val (.int (0 : Int32)), .val (.int (1 : Int32))] [(.int (1 : Int32)), (.int (1 : Int32))])) rfl (by rw [hml]; rfl) (argsL := [(.int (1 : Int32)), (.int (1 : Int32))]) (rest := []) (lenOf pd3 rfl) rfl (by show 2 * 0 + _ ≤ _; exact Nat.le_of_eq rfl) (hb hby d15_18) (fun _ _ => ⟨rfl, e3, (Nat.le_of_ble_eq_true rfl), (Nat.le_of_ble_eq_true rfl)⟩)
    dsimp only [Pt.U, Pt.locs, Pt.cells, Pt.slots] at X5 l5 y5 z5 st5 hQ5
    subst l5 y5 z5
    obtain ⟨rfl, rfl, e5⟩ := hQ5
    refine OD.go (B := (T5.setTop (mkF m 21 #[.val (.ref a1), .val (.int x1), .val (.int (0 : Int32)), .val (.int (1 : Int32))] [(.int (1 : Int32))]))) st5 ?_
    refine OD.go (B := (T5.setTop (mkF m 22 #[.val (.ref a1), .val (.int x1), .val (.int (0 : Int32)), .val (.int (1 : Int32))] []))) (fun t k => XS.istoreN X5.here hx rfl (hb hby d15_21) rfl (l' := #[.val (.ref a1), .val (.int x1), .val (.int (0 : Int32)), .val (.int (1 : Int32))]) rfl k) ?_
    refine OD.go (B := (T5.setTop (mkF m 23 #[.val (.ref a1), .val (.int x1), .val (.int (0 : Int32)), .val (.int (1 : Int32))] [(.int (0 : Int32))]))) (fun t k => XS.iloadN X5.here hx rfl (hb hby d15_22) rfl k) ?_
    refine OD.go (B := (T5.setTop (mkF m 24 #[.val (.ref a1), .val (.int x1), .val (.int (0 : Int32)), .val (.int (1 : Int32))] [(.int (1 : Int32)), (.int (0 : Int32))]))) (fun t k => XS.iloadN X5.here hx rfl (hb hby d15_23) rfl k) ?_
    refine OD.go (B := (T5.setTop (mkF m 29 #[.val (.ref a1), .val (.int x1), .val (.int (0 : Int32)), .val (.int (1 : Int32))] []))) (fun t k => XS.icmpYes X5.here hx rfl (pc0 := 24) (pc' := 29) rfl (hb hby d15_24) rfl (tlt (by decide : (0 : Int32) < (1 : Int32))).1 (by decide) (by decide) k) ?_
    refine OD.go (B := (T5.setTop (mkF m 30 #[.val (.ref a1), .val (.int x1), .val (.int (0 : Int32)), .val (.int (1 : Int32))] [(.ref a1)]))) (fun t k => XS.aloadN X5.here hx rfl (hb hby d15_29) rfl rfl k) ?_
    refine OD.go (B := (T5.setTop (mkF m 31 #[.val (.ref a1), .val (.int x1), .val (.int (0 : Int32)), .val (.int (1 : Int32))] [(.int x1), (.ref a1)]))) (fun t k => XS.iloadN X5.here hx rfl (hb hby d15_30) rfl k) ?_
    refine OD.go (B := (T5.setTop (mkF m 32 #[.val (.ref a1), .val (.int x1), .val (.int (0 : Int32)), .val (.int (1 : Int32))] [(.int (0 : Int32)), (.int x1), (.ref a1)]))) (fun t k => XS.iloadN X5.here hx rfl (hb hby d15_31) rfl k) ?_
    refine OD.go (B := (T5.setTop (mkF m 33 #[.val (.ref a1), .val (.int x1), .val (.int (0 : Int32)), .val (.int (1 : Int32))] [(.int (1 : Int32)), (.int (0 : Int32)), (.int x1), (.ref a1)]))) (fun t k => XS.iloadN X5.here hx rfl (hb hby d15_32) rfl k) ?_
    obtain ⟨_, _, ⟨T6, L6, k6, n6⟩, -, X6, ⟨Lc6, hQ6, l6, y6, z6⟩, st6⟩ := Jvm.LawKit.callS X5 hx (y := (⟨"java/lang/StringLatin1", "indexOfChar", "([BIII)I"⟩ : MethodName)) hown (mvT hZ (Wd83 hw)) (mvT hZ (Wd84 hw)) (mvT hZ (Wd71 hw)) (mvT hZ (Wd85 hw)) (by decide) (backOf (W := 0) (rmIC1 l Z a0 hw [] a1 x1 h0 kt c0 A1) hZ (Wd85 hw) (Wd71 hw) (by decide) (by decide)) (g := (mkF m 33 #[.val (.ref a1), .val (.int x1), .val (.int (0 : Int32)), .val (.int (1 : Int32))] [(.int (1 : Int32)), (.int (0 : Int32)), (.int x1), (.ref a1)])) rfl (by rw [hml]; rfl) (argsL := [(.ref a1), (.int x1), (.int (0 : Int32)), (.int (1 : Int32))]) (rest := []) (lenOf pd4 rfl) rfl (by show 2 * 0 + _ ≤ _; exact Nat.le_of_eq rfl) (hb hby d15_33) (fun _ _ => ⟨rfl, e5, (Nat.le_of_ble_eq_true rfl), (Nat.le_of_ble_eq_true rfl)⟩)
    dsimp only [Pt.U, Pt.locs, Pt.cells, Pt.slots] at X6 l6 y6 z6 st6 hQ6
    subst l6 y6 z6
    obtain ⟨rfl, rfl, e6⟩ := hQ6
    refine OD.go (B := (T6.setTop (mkF m 36 #[.val (.ref a1), .val (.int x1), .val (.int (0 : Int32)), .val (.int (1 : Int32))] [(.int (own_ix1 c0 x1))]))) st6 ?_
    have fin : (own_li1 c0 x1) = (own_ix1 c0 x1) := by unfold own_li1; rw [if_neg c4_2]
    exact OD.ret X6 hx hlk (t := .int) Bd.returns rfl (Or.inl ⟨rfl, Or.inl rfl, _, rfl⟩) (hb hby d15_36) (Nat.le_of_ble_eq_true rfl) (Nat.le_of_ble_eq_true rfl) ⟨by rw [fin], rfl, e6⟩
def Q_rmIC2 (Z : State) (a1 : Addr) (x1 : Int32) (h0 : Heap) (c0 c1 : Int32) (v : Option Value) (h : Heap) (L : List Loc) : Prop := v = some (.int (own_ix2 c0 c1 x1)) ∧ L = [] ∧ h = h0
set_option maxRecDepth 65536 in
set_option maxHeartbeats 40000000 in
theorem rmIC2 (l : Launch) (Z : State) (a0 : Array Value) (hw : ∀ d ∈ tables_1, d.before a0 Z = true) (ws : List Jvm.Cond) (a1 : Addr) (x1 : Int32) (h0 : Heap) (kt : ClassId) (c0 c1 : Int32) (A1 : Arv Z h0 a1 kt .byte (2 : Int32) [(.int c0), (.int c1)] (.int 0)) :
    MetFree l (⟨"java/lang/StringLatin1", "indexOfChar", "([BIII)I"⟩ : MethodName) (head1 (Jvm.Cond.code (⟨"java/lang/StringLatin1", "indexOfChar", "([BIII)I"⟩ : MethodName) jdk_43_method_23_code 6 (some .int) :: ws) ({ frames := 0, cells := 0, slots := 0, locals := 0 } : Room)) (fun a U => a = #[(.ref a1), (.int x1), (.int (0 : Int32)), (.int (2 : Int32))] ∧ Z.Warmed39 U.vm ∧ U.heap = h0) (fun _ _ _ _ _ => True) (fun _ U o U' => ∃ v L, o = .returned v ∧ Q_rmIC2 Z a1 x1 h0 c0 c1 v U'.heap L ∧ FrameEnd U o U' L ({ frames := 0, cells := 0, slots := 0, locals := 0 } : Room).cells ({ frames := 0, cells := 0, slots := 0, locals := 0 } : Room).slots) := by
  refine MetFree.of_bodySF (plainFor_of_name pn1) hisR ?_
  intro p e s m args below meth c s₁ Bd hml0 hP hK
  obtain ⟨rfl, hZ, hh⟩ := hP
  have hx := Bd.exec
  have hby := Bd.bytes
  have hlk : meth.locks = false := Bd.notSynchronized
  have hml : c.maxLocals = 6 := hml0
  have hown : s.vm.findClass "java/lang/StringLatin1" = some m.cls := findClass_of_methodNamed Bd.named
  have hnm := (name_of_methodNamed Bd.named Bd.method).1
  have X0 : Stand p l e ({ frames := 0, cells := 0, slots := 0, locals := 0 } : Room) s m #[(.ref a1), (.int x1), (.int (0 : Int32)), (.int (2 : Int32))] below meth c s₁ [] 0 0 := Stand.of_body Bd
  have e0 : s₁.heap = h0 := by rw [← hh, Bd.state]; rfl
  suffices hgo : OD p e s below (Q_rmIC2 Z a1 x1 h0 c0 c1) ({ frames := 0, cells := 0, slots := 0, locals := 0 } : Room).cells ({ frames := 0, cells := 0, slots := 0, locals := 0 } : Room).slots (s₁.setTop (mkF m 0 #[.val (.ref a1), .val (.int x1), .val (.int (0 : Int32)), .val (.int (2 : Int32)), .unset, .unset] [])) by
    obtain ⟨s₂, o, hgo1, hgo2⟩ := hgo
    exact ⟨s₂, o, castTop (ef6 m a1 x1 (0 : Int32) (2 : Int32)) hgo1, hgo2⟩
  refine OD.go (B := (s₁.setTop (mkF m 1 #[.val (.ref a1), .val (.int x1), .val (.int (0 : Int32)), .val (.int (2 : Int32)), .unset, .unset] [(.int x1)]))) (fun t k => XS.iloadN X0.here hx rfl (hb hby d19_0) rfl k) ?_
  refine OD.go (B := (s₁.setTop (mkF m 2 #[.val (.ref a1), .val (.int x1), .val (.int (0 : Int32)), .val (.int (2 : Int32)), .unset, .unset] [(.int x1.toInt8.toInt32)]))) (fun t k => XS.i2b X0.here hx rfl (hb hby d19_1) rfl k) ?_
  refine OD.go (B := (s₁.setTop (mkF m 4 #[.val (.ref a1), .val (.int x1), .val (.int (0 : Int32)), .val (.int (2 : Int32)), .val (.int x1.toInt8.toInt32), .unset] []))) (fun t k => XS.istore X0.here hx rfl (hb hby d19_2) rfl (l' := #[.val (.ref a1), .val (.int x1), .val (.int (0 : Int32)), .val (.int (2 : Int32)), .val (.int x1.toInt8.toInt32), .unset]) rfl k) ?_
  refine OD.go (B := (s₁.setTop (mkF m 5 #[.val (.ref a1), .val (.int x1), .val (.int (0 : Int32)), .val (.int (2 : Int32)), .val (.int x1.toInt8.toInt32), .unset] [(.int (0 : Int32))]))) (fun t k => XS.iloadN X0.here hx rfl (hb hby d19_4) rfl k) ?_
  refine OD.go (B := (s₁.setTop (mkF m 7 #[.val (.ref a1), .val (.int x1), .val (.int (0 : Int32)), .val (.int (2 : Int32)), .val (.int x1.toInt8.toInt32), .val (.int (0 : Int32))] []))) (fun t k => XS.istore X0.here hx rfl (hb hby d19_5) rfl (l' := #[.val (.ref a1), .val (.int x1), .val (.int (0 : Int32)), .val (.int (2 : Int32)), .val (.int x1.toInt8.toInt32), .val (.int (0 : Int32))]) rfl k) ?_
  refine OD.go (B := (s₁.setTop (mkF m 9 #[.val (.ref a1), .val (.int x1), .val (.int (0 : Int32)), .val (.int (2 : Int32)), .val (.int x1.toInt8.toInt32), .val (.int (0 : Int32))] [(.int (0 : Int32))]))) (fun t k => XS.iload X0.here hx rfl (hb hby d19_7) rfl k) ?_
  refine OD.go (B := (s₁.setTop (mkF m 10 #[.val (.ref a1), .val (.int x1), .val (.int (0 : Int32)), .val (.int (2 : Int32)), .val (.int x1.toInt8.toInt32), .val (.int (0 : Int32))] [(.int (2 : Int32)), (.int (0 : Int32))]))) (fun t k => XS.iloadN X0.here hx rfl (hb hby d19_9) rfl k) ?_
  refine OD.go (B := (s₁.setTop (mkF m 13 #[.val (.ref a1), .val (.int x1), .val (.int (0 : Int32)), .val (.int (2 : Int32)), .val (.int x1.toInt8.toInt32), .val (.int (0 : Int32))] []))) (fun t k => XS.icmpNo X0.here hx rfl (hb hby d19_10) rfl (tlt (by decide : (0 : Int32) < (2 : Int32))).2.1 k) ?_
  refine OD.go (B := (s₁.setTop (mkF m 14 #[.val (.ref a1), .val (.int x1), .val (.int (0 : Int32)), .val (.int (2 : Int32)), .val (.int x1.toInt8.toInt32), .val (.int (0 : Int32))] [(.ref a1)]))) (fun t k => XS.aloadN X0.here hx rfl (hb hby d19_13) rfl rfl k) ?_
  refine OD.go (B := (s₁.setTop (mkF m 16 #[.val (.ref a1), .val (.int x1), .val (.int (0 : Int32)), .val (.int (2 : Int32)), .val (.int x1.toInt8.toInt32), .val (.int (0 : Int32))] [(.int (0 : Int32)), (.ref a1)]))) (fun t k => XS.iload X0.here hx rfl (hb hby d19_14) rfl k) ?_
  obtain ⟨cl1, Ar1, hi1, ha1⟩ := own_at A1 (j := (0 : Int32)) (v := (.int c0)) ⟨by decide, by decide⟩ rfl
  refine OD.go (B := (s₁.setTop (mkF m 17 #[.val (.ref a1), .val (.int x1), .val (.int (0 : Int32)), .val (.int (2 : Int32)), .val (.int x1.toInt8.toInt32), .val (.int (0 : Int32))] [(.int c0)]))) (fun t k => X0.baloadBytes hx (j := (0 : Int32)) (v := (.int c0)) (by rw [e0]; exact Ar1.1) (State.isArrayOf_alike hZ.alike Ar1.2.1) Ar1.2.2 hi1 ha1 (g := (mkF m 16 #[.val (.ref a1), .val (.int x1), .val (.int (0 : Int32)), .val (.int (2 : Int32)), .val (.int x1.toInt8.toInt32), .val (.int (0 : Int32))] [(.int (0 : Int32)), (.ref a1)])) rfl rfl (hb hby d19_16) _ k) ?_
  refine OD.go (B := (s₁.setTop (mkF m 19 #[.val (.ref a1), .val (.int x1), .val (.int (0 : Int32)), .val (.int (2 : Int32)), .val (.int x1.toInt8.toInt32), .val (.int (0 : Int32))] [(.int x1.toInt8.toInt32), (.int c0)]))) (fun t k => XS.iload X0.here hx rfl (hb hby d19_17) rfl k) ?_
  by_cases c19_2 : c0 = x1.toInt8.toInt32
  · refine OD.go (B := (s₁.setTop (mkF m 22 #[.val (.ref a1), .val (.int x1), .val (.int (0 : Int32)), .val (.int (2 : Int32)), .val (.int x1.toInt8.toInt32), .val (.int (0 : Int32))] []))) (fun t k => XS.icmpNo X0.here hx rfl (hb hby d19_19) rfl (teq c19_2).2 k) ?_
    refine OD.go (B := (s₁.setTop (mkF m 24 #[.val (.ref a1), .val (.int x1), .val (.int (0 : Int32)), .val (.int (2 : Int32)), .val (.int x1.toInt8.toInt32), .val (.int (0 : Int32))] [(.int (0 : Int32))]))) (fun t k => XS.iload X0.here hx rfl (hb hby d19_22) rfl k) ?_
    have fin : (own_ix2 c0 c1 x1) = (0 : Int32) := by unfold own_ix2; rw [if_pos c19_2]
    exact OD.ret X0 hx hlk (t := .int) Bd.returns rfl (Or.inl ⟨rfl, Or.inl rfl, _, rfl⟩) (hb hby d19_24) (Nat.le_of_ble_eq_true rfl) (Nat.le_of_ble_eq_true rfl) ⟨by rw [fin], rfl, e0⟩
  · refine OD.go (B := (s₁.setTop (mkF m 25 #[.val (.ref a1), .val (.int x1), .val (.int (0 : Int32)), .val (.int (2 : Int32)), .val (.int x1.toInt8.toInt32), .val (.int (0 : Int32))] []))) (fun t k => XS.icmpYes X0.here hx rfl (pc0 := 19) (pc' := 25) rfl (hb hby d19_19) rfl (feq c19_2).2 (by decide) (by decide) k) ?_
    refine OD.go (B := (s₁.setTop (mkF m 28 #[.val (.ref a1), .val (.int x1), .val (.int (0 : Int32)), .val (.int (2 : Int32)), .val (.int x1.toInt8.toInt32), .val (.int (1 : Int32))] []))) (fun t k => XS.iinc X0.here hx rfl (hb hby d19_25) rfl (l' := #[.val (.ref a1), .val (.int x1), .val (.int (0 : Int32)), .val (.int (2 : Int32)), .val (.int x1.toInt8.toInt32), .val (.int (1 : Int32))]) rfl k) ?_
    refine OD.go (B := (s₁.setTop (mkF m 7 #[.val (.ref a1), .val (.int x1), .val (.int (0 : Int32)), .val (.int (2 : Int32)), .val (.int x1.toInt8.toInt32), .val (.int (1 : Int32))] []))) (fun t k => XS.goto X0.here hx rfl (pc0 := 28) (pc' := 7) rfl (hb hby d19_28) (by decide) (by decide) k) ?_
    refine OD.go (B := (s₁.setTop (mkF m 9 #[.val (.ref a1), .val (.int x1), .val (.int (0 : Int32)), .val (.int (2 : Int32)), .val (.int x1.toInt8.toInt32), .val (.int (1 : Int32))] [(.int (1 : Int32))]))) (fun t k => XS.iload X0.here hx rfl (hb hby d19_7) rfl k) ?_
    refine OD.go (B := (s₁.setTop (mkF m 10 #[.val (.ref a1), .val (.int x1), .val (.int (0 : Int32)), .val (.int (2 : Int32)), .val (.int x1.toInt8.toInt32), .val (.int (1 : Int32))] [(.int (2 : Int32)), (.int (1 : Int32))]))) (fun t k => XS.iloadN X0.here hx rfl (hb hby d19_9) rfl k) ?_
    refine OD.go (B := (s₁.setTop (mkF m 13 #[.val (.ref a1), .val (.int x1), .val (.int (0 : Int32)), .val (.int (2 : Int32)), .val (.int x1.toInt8.toInt32), .val (.int (1 : Int32))] []))) (fun t k => XS.icmpNo X0.here hx rfl (hb hby d19_10) rfl (tlt (by decide : (1 : Int32) < (2 : Int32))).2.1 k) ?_
    refine OD.go (B := (s₁.setTop (mkF m 14 #[.val (.ref a1), .val (.int x1), .val (.int (0 : Int32)), .val (.int (2 : Int32)), .val (.int x1.toInt8.toInt32), .val (.int (1 : Int32))] [(.ref a1)]))) (fun t k => XS.aloadN X0.here hx rfl (hb hby d19_13) rfl rfl k) ?_
    refine OD.go (B := (s₁.setTop (mkF m 16 #[.val (.ref a1), .val (.int x1), .val (.int (0 : Int32)), .val (.int (2 : Int32)), .val (.int x1.toInt8.toInt32), .val (.int (1 : Int32))] [(.int (1 : Int32)), (.ref a1)]))) (fun t k => XS.iload X0.here hx rfl (hb hby d19_14) rfl k) ?_
    obtain ⟨cl3, Ar3, hi3, ha3⟩ := own_at A1 (j := (1 : Int32)) (v := (.int c1)) ⟨by decide, by decide⟩ rfl
    refine OD.go (B := (s₁.setTop (mkF m 17 #[.val (.ref a1), .val (.int x1), .val (.int (0 : Int32)), .val (.int (2 : Int32)), .val (.int x1.toInt8.toInt32), .val (.int (1 : Int32))] [(.int c1)]))) (fun t k => X0.baloadBytes hx (j := (1 : Int32)) (v := (.int c1)) (by rw [e0]; exact Ar3.1) (State.isArrayOf_alike hZ.alike Ar3.2.1) Ar3.2.2 hi3 ha3 (g := (mkF m 16 #[.val (.ref a1), .val (.int x1), .val (.int (0 : Int32)), .val (.int (2 : Int32)), .val (.int x1.toInt8.toInt32), .val (.int (1 : Int32))] [(.int (1 : Int32)), (.ref a1)])) rfl rfl (hb hby d19_16) _ k) ?_
    refine OD.go (B := (s₁.setTop (mkF m 19 #[.val (.ref a1), .val (.int x1), .val (.int (0 : Int32)), .val (.int (2 : Int32)), .val (.int x1.toInt8.toInt32), .val (.int (1 : Int32))] [(.int x1.toInt8.toInt32), (.int c1)]))) (fun t k => XS.iload X0.here hx rfl (hb hby d19_17) rfl k) ?_
    by_cases c19_4 : c1 = x1.toInt8.toInt32
    · refine OD.go (B := (s₁.setTop (mkF m 22 #[.val (.ref a1), .val (.int x1), .val (.int (0 : Int32)), .val (.int (2 : Int32)), .val (.int x1.toInt8.toInt32), .val (.int (1 : Int32))] []))) (fun t k => XS.icmpNo X0.here hx rfl (hb hby d19_19) rfl (teq c19_4).2 k) ?_
      refine OD.go (B := (s₁.setTop (mkF m 24 #[.val (.ref a1), .val (.int x1), .val (.int (0 : Int32)), .val (.int (2 : Int32)), .val (.int x1.toInt8.toInt32), .val (.int (1 : Int32))] [(.int (1 : Int32))]))) (fun t k => XS.iload X0.here hx rfl (hb hby d19_22) rfl k) ?_
      have fin : (own_ix2 c0 c1 x1) = (1 : Int32) := by unfold own_ix2; rw [if_neg c19_2, if_pos c19_4]
      exact OD.ret X0 hx hlk (t := .int) Bd.returns rfl (Or.inl ⟨rfl, Or.inl rfl, _, rfl⟩) (hb hby d19_24) (Nat.le_of_ble_eq_true rfl) (Nat.le_of_ble_eq_true rfl) ⟨by rw [fin], rfl, e0⟩
    · refine OD.go (B := (s₁.setTop (mkF m 25 #[.val (.ref a1), .val (.int x1), .val (.int (0 : Int32)), .val (.int (2 : Int32)), .val (.int x1.toInt8.toInt32), .val (.int (1 : Int32))] []))) (fun t k => XS.icmpYes X0.here hx rfl (pc0 := 19) (pc' := 25) rfl (hb hby d19_19) rfl (feq c19_4).2 (by decide) (by decide) k) ?_
      refine OD.go (B := (s₁.setTop (mkF m 28 #[.val (.ref a1), .val (.int x1), .val (.int (0 : Int32)), .val (.int (2 : Int32)), .val (.int x1.toInt8.toInt32), .val (.int (2 : Int32))] []))) (fun t k => XS.iinc X0.here hx rfl (hb hby d19_25) rfl (l' := #[.val (.ref a1), .val (.int x1), .val (.int (0 : Int32)), .val (.int (2 : Int32)), .val (.int x1.toInt8.toInt32), .val (.int (2 : Int32))]) rfl k) ?_
      refine OD.go (B := (s₁.setTop (mkF m 7 #[.val (.ref a1), .val (.int x1), .val (.int (0 : Int32)), .val (.int (2 : Int32)), .val (.int x1.toInt8.toInt32), .val (.int (2 : Int32))] []))) (fun t k => XS.goto X0.here hx rfl (pc0 := 28) (pc' := 7) rfl (hb hby d19_28) (by decide) (by decide) k) ?_
      refine OD.go (B := (s₁.setTop (mkF m 9 #[.val (.ref a1), .val (.int x1), .val (.int (0 : Int32)), .val (.int (2 : Int32)), .val (.int x1.toInt8.toInt32), .val (.int (2 : Int32))] [(.int (2 : Int32))]))) (fun t k => XS.iload X0.here hx rfl (hb hby d19_7) rfl k) ?_
      refine OD.go (B := (s₁.setTop (mkF m 10 #[.val (.ref a1), .val (.int x1), .val (.int (0 : Int32)), .val (.int (2 : Int32)), .val (.int x1.toInt8.toInt32), .val (.int (2 : Int32))] [(.int (2 : Int32)), (.int (2 : Int32))]))) (fun t k => XS.iloadN X0.here hx rfl (hb hby d19_9) rfl k) ?_
      refine OD.go (B := (s₁.setTop (mkF m 31 #[.val (.ref a1), .val (.int x1), .val (.int (0 : Int32)), .val (.int (2 : Int32)), .val (.int x1.toInt8.toInt32), .val (.int (2 : Int32))] []))) (fun t k => XS.icmpYes X0.here hx rfl (pc0 := 10) (pc' := 31) rfl (hb hby d19_10) rfl (flt (by decide : ¬ (2 : Int32) < (2 : Int32))).2.1 (by decide) (by decide) k) ?_
      refine OD.go (B := (s₁.setTop (mkF m 32 #[.val (.ref a1), .val (.int x1), .val (.int (0 : Int32)), .val (.int (2 : Int32)), .val (.int x1.toInt8.toInt32), .val (.int (2 : Int32))] [(.int (-1 : Int32))]))) (fun t k => XS.iconst X0.here hx rfl (hb hby d19_31) k) ?_
      have fin : (own_ix2 c0 c1 x1) = (-1 : Int32) := by unfold own_ix2; rw [if_neg c19_2, if_neg c19_4]
      exact OD.ret X0 hx hlk (t := .int) Bd.returns rfl (Or.inl ⟨rfl, Or.inl rfl, _, rfl⟩) (hb hby d19_32) (Nat.le_of_ble_eq_true rfl) (Nat.le_of_ble_eq_true rfl) ⟨by rw [fin], rfl, e0⟩
def Q_rmLI2 (Z : State) (a1 : Addr) (x1 : Int32) (h0 : Heap) (c0 c1 : Int32) (v : Option Value) (h : Heap) (L : List Loc) : Prop := v = some (.int (own_li2 c0 c1 x1)) ∧ L = [] ∧ h = h0
set_option maxRecDepth 65536 in
set_option maxHeartbeats 40000000 in
theorem rmLI2 (l : Launch) (Z : State) (a0 : Array Value) (hw : ∀ d ∈ tables_1, d.before a0 Z = true) (ws : List Jvm.Cond) (a1 : Addr) (x1 : Int32) (h0 : Heap) (kt : ClassId) (c0 c1 : Int32) (A1 : Arv Z h0 a1 kt .byte (2 : Int32) [(.int c0), (.int c1)] (.int 0)) :
    MetFree l (⟨"java/lang/StringLatin1", "indexOf", "([BIII)I"⟩ : MethodName) (head1 (Jvm.Cond.code (⟨"java/lang/StringLatin1", "indexOf", "([BIII)I"⟩ : MethodName) jdk_43_method_22_code 4 (some .int) :: ws) ({ frames := 1, cells := 0, slots := 0, locals := 20 } : Room)) (fun a U => a = #[(.ref a1), (.int x1), (.int (0 : Int32)), (.int (2 : Int32))] ∧ Z.Warmed39 U.vm ∧ U.heap = h0) (fun _ _ _ _ _ => True) (fun _ U o U' => ∃ v L, o = .returned v ∧ Q_rmLI2 Z a1 x1 h0 c0 c1 v U'.heap L ∧ FrameEnd U o U' L ({ frames := 1, cells := 0, slots := 0, locals := 20 } : Room).cells ({ frames := 1, cells := 0, slots := 0, locals := 20 } : Room).slots) := by
  refine MetFree.of_bodySF (plainFor_of_name pn1) hisR ?_
  intro p e s m args below meth c s₁ Bd hml0 hP hK
  obtain ⟨rfl, hZ, hh⟩ := hP
  have hx := Bd.exec
  have hby := Bd.bytes
  have hlk : meth.locks = false := Bd.notSynchronized
  have hml : c.maxLocals = 4 := hml0
  have hown : s.vm.findClass "java/lang/StringLatin1" = some m.cls := findClass_of_methodNamed Bd.named
  have hnm := (name_of_methodNamed Bd.named Bd.method).1
  have X0 : Stand p l e ({ frames := 1, cells := 0, slots := 0, locals := 20 } : Room) s m #[(.ref a1), (.int x1), (.int (0 : Int32)), (.int (2 : Int32))] below meth c s₁ [] 0 0 := Stand.of_body Bd
  have e0 : s₁.heap = h0 := by rw [← hh, Bd.state]; rfl
  suffices hgo : OD p e s below (Q_rmLI2 Z a1 x1 h0 c0 c1) ({ frames := 1, cells := 0, slots := 0, locals := 20 } : Room).cells ({ frames := 1, cells := 0, slots := 0, locals := 20 } : Room).slots (s₁.setTop (mkF m 0 #[.val (.ref a1), .val (.int x1), .val (.int (0 : Int32)), .val (.int (2 : Int32))] [])) by
    obtain ⟨s₂, o, hgo1, hgo2⟩ := hgo
    exact ⟨s₂, o, castTop (ef5 m a1 x1 (0 : Int32) (2 : Int32)) hgo1, hgo2⟩
  refine OD.go (B := (s₁.setTop (mkF m 1 #[.val (.ref a1), .val (.int x1), .val (.int (0 : Int32)), .val (.int (2 : Int32))] [(.int x1)]))) (fun t k => XS.iloadN X0.here hx rfl (hb hby d15_0) rfl k) ?_
  obtain ⟨_, _, ⟨T1, L1, k1, n1⟩, -, X1, ⟨Lc1, hQ1, l1, y1, z1⟩, st1⟩ := Jvm.LawKit.callS X0 hx (y := (⟨"java/lang/StringLatin1", "canEncode", "(I)Z"⟩ : MethodName)) hown (mvT hZ (Wd73 hw)) (mvT hZ (Wd74 hw)) (mvT hZ (Wd71 hw)) (mvT hZ (Wd75 hw)) (by decide) (backOf (W := 0) (rmCEi l Z a0 hw [] x1 h0) hZ (Wd75 hw) (Wd71 hw) (by decide) (by decide)) (g := (mkF m 1 #[.val (.ref a1), .val (.int x1), .val (.int (0 : Int32)), .val (.int (2 : Int32))] [(.int x1)])) rfl (by rw [hml]; rfl) (argsL := [(.int x1)]) (rest := []) (lenOf pd2 rfl) rfl (by show 2 * 0 + _ ≤ _; exact Nat.le_of_eq rfl) (hb hby d15_1) (fun _ _ => ⟨rfl, e0, (Nat.le_of_ble_eq_true rfl), (Nat.le_of_ble_eq_true rfl)⟩)
  dsimp only [Pt.U, Pt.locs, Pt.cells, Pt.slots] at X1 l1 y1 z1 st1 hQ1
  subst l1 y1 z1
  obtain ⟨rfl, rfl, e1⟩ := hQ1
  refine OD.go (B := (T1.setTop (mkF m 4 #[.val (.ref a1), .val (.int x1), .val (.int (0 : Int32)), .val (.int (2 : Int32))] [(.int (own_ce x1))]))) st1 ?_
  by_cases c4_2 : (own_ce x1) = (0 : Int32)
  · refine OD.go (B := (T1.setTop (mkF m 7 #[.val (.ref a1), .val (.int x1), .val (.int (0 : Int32)), .val (.int (2 : Int32))] []))) (fun t k => XS.ifNo X1.here hx rfl (hb hby d15_4) rfl (by rw [if0]; exact (teq c4_2).2) k) ?_
    refine OD.go (B := (T1.setTop (mkF m 8 #[.val (.ref a1), .val (.int x1), .val (.int (0 : Int32)), .val (.int (2 : Int32))] [(.int (-1 : Int32))]))) (fun t k => XS.iconst X1.here hx rfl (hb hby d15_7) k) ?_
    have fin : (own_li2 c0 c1 x1) = (-1 : Int32) := by unfold own_li2; rw [if_pos c4_2]
    exact OD.ret X1 hx hlk (t := .int) Bd.returns rfl (Or.inl ⟨rfl, Or.inl rfl, _, rfl⟩) (hb hby d15_8) (Nat.le_of_ble_eq_true rfl) (Nat.le_of_ble_eq_true rfl) ⟨by rw [fin], rfl, e1⟩
  · refine OD.go (B := (T1.setTop (mkF m 9 #[.val (.ref a1), .val (.int x1), .val (.int (0 : Int32)), .val (.int (2 : Int32))] []))) (fun t k => XS.ifYes X1.here hx rfl (pc0 := 4) (pc' := 9) rfl (hb hby d15_4) rfl (by rw [if0]; exact (feq c4_2).2) (by decide) (by decide) k) ?_
    refine OD.go (B := (T1.setTop (mkF m 10 #[.val (.ref a1), .val (.int x1), .val (.int (0 : Int32)), .val (.int (2 : Int32))] [(.int (0 : Int32))]))) (fun t k => XS.iloadN X1.here hx rfl (hb hby d15_9) rfl k) ?_
    refine OD.go (B := (T1.setTop (mkF m 11 #[.val (.ref a1), .val (.int x1), .val (.int (0 : Int32)), .val (.int (2 : Int32))] [(.int (0 : Int32)), (.int (0 : Int32))]))) (fun t k => XS.iconst X1.here hx rfl (hb hby d15_10) k) ?_
    obtain ⟨_, _, ⟨T3, L3, k3, n3⟩, -, X3, ⟨Lc3, hQ3, l3, y3, z3⟩, st3⟩ := Jvm.LawKit.callS X1 hx (y := (⟨"java/lang/Math", "max", "(II)I"⟩ : MethodName)) hown (mvT hZ (Wd76 hw)) (mvT hZ (Wd77 hw)) (mvT hZ (Wd78 hw)) (mvT hZ (Wd79 hw)) (by decide) (backOf (W := 0) (rmMx00 l Z a0 hw [] h0) hZ (Wd79 hw) (Wd78 hw) (by decide) (by decide)) (g := (mkF m 11 #[.val (.ref a1), .val (.int x1), .val (.int (0 : Int32)), .val (.int (2 : Int32))] [(.int (0 : Int32)), (.int (0 : Int32))])) rfl (by rw [hml]; rfl) (argsL := [(.int (0 : Int32)), (.int (0 : Int32))]) (rest := []) (lenOf pd3 rfl) rfl (by show 2 * 0 + _ ≤ _; exact Nat.le_of_eq rfl) (hb hby d15_11) (fun _ _ => ⟨rfl, e1, (Nat.le_of_ble_eq_true rfl), (Nat.le_of_ble_eq_true rfl)⟩)
    dsimp only [Pt.U, Pt.locs, Pt.cells, Pt.slots] at X3 l3 y3 z3 st3 hQ3
    subst l3 y3 z3
    obtain ⟨rfl, rfl, e3⟩ := hQ3
    refine OD.go (B := (T3.setTop (mkF m 14 #[.val (.ref a1), .val (.int x1), .val (.int (0 : Int32)), .val (.int (2 : Int32))] [(.int (0 : Int32))]))) st3 ?_
    refine OD.go (B := (T3.setTop (mkF m 15 #[.val (.ref a1), .val (.int x1), .val (.int (0 : Int32)), .val (.int (2 : Int32))] []))) (fun t k => XS.istoreN X3.here hx rfl (hb hby d15_14) rfl (l' := #[.val (.ref a1), .val (.int x1), .val (.int (0 : Int32)), .val (.int (2 : Int32))]) rfl k) ?_
    refine OD.go (B := (T3.setTop (mkF m 16 #[.val (.ref a1), .val (.int x1), .val (.int (0 : Int32)), .val (.int (2 : Int32))] [(.int (2 : Int32))]))) (fun t k => XS.iloadN X3.here hx rfl (hb hby d15_15) rfl k) ?_
    refine OD.go (B := (T3.setTop (mkF m 17 #[.val (.ref a1), .val (.int x1), .val (.int (0 : Int32)), .val (.int (2 : Int32))] [(.ref a1), (.int (2 : Int32))]))) (fun t k => XS.aloadN X3.here hx rfl (hb hby d15_16) rfl rfl k) ?_
    obtain ⟨cl4, Ar4, hl4⟩ := own_len A1
    refine OD.go (B := (T3.setTop (mkF m 18 #[.val (.ref a1), .val (.int x1), .val (.int (0 : Int32)), .val (.int (2 : Int32))] [(.int (2 : Int32)), (.int (2 : Int32))]))) (fun t k => X3.arraylength hx (by rw [e3]; exact Ar4.1) (State.isArrayOf_alike hZ.alike Ar4.2.1) (g := (mkF m 17 #[.val (.ref a1), .val (.int x1), .val (.int (0 : Int32)), .val (.int (2 : Int32))] [(.ref a1), (.int (2 : Int32))])) rfl rfl (hb hby d15_17) _ (by rw [hl4]; exact k)) ?_
    obtain ⟨_, _, ⟨T5, L5, k5, n5⟩, -, X5, ⟨Lc5, hQ5, l5, y5, z5⟩, st5⟩ := Jvm.LawKit.callS X3 hx (y := (⟨"java/lang/Math", "min", "(II)I"⟩ : MethodName)) hown (mvT hZ (Wd80 hw)) (mvT hZ (Wd81 hw)) (mvT hZ (Wd78 hw)) (mvT hZ (Wd82 hw)) (by decide) (backOf (W := 0) (rmMn2 l Z a0 hw [] h0) hZ (Wd82 hw) (Wd78 hw) (by decide) (by decide)) (g := (mkF m 18 #[.val (.ref a1), .val (.int x1), .val (.int (0 : Int32)), .val (.int (2 : Int32))] [(.int (2 : Int32)), (.int (2 : Int32))])) rfl (by rw [hml]; rfl) (argsL := [(.int (2 : Int32)), (.int (2 : Int32))]) (rest := []) (lenOf pd3 rfl) rfl (by show 2 * 0 + _ ≤ _; exact Nat.le_of_eq rfl) (hb hby d15_18) (fun _ _ => ⟨rfl, e3, (Nat.le_of_ble_eq_true rfl), (Nat.le_of_ble_eq_true rfl)⟩)
    dsimp only [Pt.U, Pt.locs, Pt.cells, Pt.slots] at X5 l5 y5 z5 st5 hQ5
    subst l5 y5 z5
    obtain ⟨rfl, rfl, e5⟩ := hQ5
    refine OD.go (B := (T5.setTop (mkF m 21 #[.val (.ref a1), .val (.int x1), .val (.int (0 : Int32)), .val (.int (2 : Int32))] [(.int (2 : Int32))]))) st5 ?_
    refine OD.go (B := (T5.setTop (mkF m 22 #[.val (.ref a1), .val (.int x1), .val (.int (0 : Int32)), .val (.int (2 : Int32))] []))) (fun t k => XS.istoreN X5.here hx rfl (hb hby d15_21) rfl (l' := #[.val (.ref a1), .val (.int x1), .val (.int (0 : Int32)), .val (.int (2 : Int32))]) rfl k) ?_
    refine OD.go (B := (T5.setTop (mkF m 23 #[.val (.ref a1), .val (.int x1), .val (.int (0 : Int32)), .val (.int (2 : Int32))] [(.int (0 : Int32))]))) (fun t k => XS.iloadN X5.here hx rfl (hb hby d15_22) rfl k) ?_
    refine OD.go (B := (T5.setTop (mkF m 24 #[.val (.ref a1), .val (.int x1), .val (.int (0 : Int32)), .val (.int (2 : Int32))] [(.int (2 : Int32)), (.int (0 : Int32))]))) (fun t k => XS.iloadN X5.here hx rfl (hb hby d15_23) rfl k) ?_
    refine OD.go (B := (T5.setTop (mkF m 29 #[.val (.ref a1), .val (.int x1), .val (.int (0 : Int32)), .val (.int (2 : Int32))] []))) (fun t k => XS.icmpYes X5.here hx rfl (pc0 := 24) (pc' := 29) rfl (hb hby d15_24) rfl (tlt (by decide : (0 : Int32) < (2 : Int32))).1 (by decide) (by decide) k) ?_
    refine OD.go (B := (T5.setTop (mkF m 30 #[.val (.ref a1), .val (.int x1), .val (.int (0 : Int32)), .val (.int (2 : Int32))] [(.ref a1)]))) (fun t k => XS.aloadN X5.here hx rfl (hb hby d15_29) rfl rfl k) ?_
    refine OD.go (B := (T5.setTop (mkF m 31 #[.val (.ref a1), .val (.int x1), .val (.int (0 : Int32)), .val (.int (2 : Int32))] [(.int x1), (.ref a1)]))) (fun t k => XS.iloadN X5.here hx rfl (hb hby d15_30) rfl k) ?_
    refine OD.go (B := (T5.setTop (mkF m 32 #[.val (.ref a1), .val (.int x1), .val (.int (0 : Int32)), .val (.int (2 : Int32))] [(.int (0 : Int32)), (.int x1), (.ref a1)]))) (fun t k => XS.iloadN X5.here hx rfl (hb hby d15_31) rfl k) ?_
    refine OD.go (B := (T5.setTop (mkF m 33 #[.val (.ref a1), .val (.int x1), .val (.int (0 : Int32)), .val (.int (2 : Int32))] [(.int (2 : Int32)), (.int (0 : Int32)), (.int x1), (.ref a1)]))) (fun t k => XS.iloadN X5.here hx rfl (hb hby d15_32) rfl k) ?_
    obtain ⟨_, _, ⟨T6, L6, k6, n6⟩, -, X6, ⟨Lc6, hQ6, l6, y6, z6⟩, st6⟩ := Jvm.LawKit.callS X5 hx (y := (⟨"java/lang/StringLatin1", "indexOfChar", "([BIII)I"⟩ : MethodName)) hown (mvT hZ (Wd83 hw)) (mvT hZ (Wd84 hw)) (mvT hZ (Wd71 hw)) (mvT hZ (Wd85 hw)) (by decide) (backOf (W := 0) (rmIC2 l Z a0 hw [] a1 x1 h0 kt c0 c1 A1) hZ (Wd85 hw) (Wd71 hw) (by decide) (by decide)) (g := (mkF m 33 #[.val (.ref a1), .val (.int x1), .val (.int (0 : Int32)), .val (.int (2 : Int32))] [(.int (2 : Int32)), (.int (0 : Int32)), (.int x1), (.ref a1)])) rfl (by rw [hml]; rfl) (argsL := [(.ref a1), (.int x1), (.int (0 : Int32)), (.int (2 : Int32))]) (rest := []) (lenOf pd4 rfl) rfl (by show 2 * 0 + _ ≤ _; exact Nat.le_of_eq rfl) (hb hby d15_33) (fun _ _ => ⟨rfl, e5, (Nat.le_of_ble_eq_true rfl), (Nat.le_of_ble_eq_true rfl)⟩)
    dsimp only [Pt.U, Pt.locs, Pt.cells, Pt.slots] at X6 l6 y6 z6 st6 hQ6
    subst l6 y6 z6
    obtain ⟨rfl, rfl, e6⟩ := hQ6
    refine OD.go (B := (T6.setTop (mkF m 36 #[.val (.ref a1), .val (.int x1), .val (.int (0 : Int32)), .val (.int (2 : Int32))] [(.int (own_ix2 c0 c1 x1))]))) st6 ?_
    have fin : (own_li2 c0 c1 x1) = (own_ix2 c0 c1 x1) := by unfold own_li2; rw [if_neg c4_2]
    exact OD.ret X6 hx hlk (t := .int) Bd.returns rfl (Or.inl ⟨rfl, Or.inl rfl, _, rfl⟩) (hb hby d15_36) (Nat.le_of_ble_eq_true rfl) (Nat.le_of_ble_eq_true rfl) ⟨by rw [fin], rfl, e6⟩
def Q_rmIC3 (Z : State) (a1 : Addr) (x1 : Int32) (h0 : Heap) (c0 c1 c2 : Int32) (v : Option Value) (h : Heap) (L : List Loc) : Prop := v = some (.int (own_ix3 c0 c1 c2 x1)) ∧ L = [] ∧ h = h0
set_option maxRecDepth 65536 in
set_option maxHeartbeats 40000000 in
theorem rmIC3 (l : Launch) (Z : State) (a0 : Array Value) (hw : ∀ d ∈ tables_1, d.before a0 Z = true) (ws : List Jvm.Cond) (a1 : Addr) (x1 : Int32) (h0 : Heap) (kt : ClassId) (c0 c1 c2 : Int32) (A1 : Arv Z h0 a1 kt .byte (3 : Int32) [(.int c0), (.int c1), (.int c2)] (.int 0)) :
    MetFree l (⟨"java/lang/StringLatin1", "indexOfChar", "([BIII)I"⟩ : MethodName) (head1 (Jvm.Cond.code (⟨"java/lang/StringLatin1", "indexOfChar", "([BIII)I"⟩ : MethodName) jdk_43_method_23_code 6 (some .int) :: ws) ({ frames := 0, cells := 0, slots := 0, locals := 0 } : Room)) (fun a U => a = #[(.ref a1), (.int x1), (.int (0 : Int32)), (.int (3 : Int32))] ∧ Z.Warmed39 U.vm ∧ U.heap = h0) (fun _ _ _ _ _ => True) (fun _ U o U' => ∃ v L, o = .returned v ∧ Q_rmIC3 Z a1 x1 h0 c0 c1 c2 v U'.heap L ∧ FrameEnd U o U' L ({ frames := 0, cells := 0, slots := 0, locals := 0 } : Room).cells ({ frames := 0, cells := 0, slots := 0, locals := 0 } : Room).slots) := by
  refine MetFree.of_bodySF (plainFor_of_name pn1) hisR ?_
  intro p e s m args below meth c s₁ Bd hml0 hP hK
  obtain ⟨rfl, hZ, hh⟩ := hP
  have hx := Bd.exec
  have hby := Bd.bytes
  have hlk : meth.locks = false := Bd.notSynchronized
  have hml : c.maxLocals = 6 := hml0
  have hown : s.vm.findClass "java/lang/StringLatin1" = some m.cls := findClass_of_methodNamed Bd.named
  have hnm := (name_of_methodNamed Bd.named Bd.method).1
  have X0 : Stand p l e ({ frames := 0, cells := 0, slots := 0, locals := 0 } : Room) s m #[(.ref a1), (.int x1), (.int (0 : Int32)), (.int (3 : Int32))] below meth c s₁ [] 0 0 := Stand.of_body Bd
  have e0 : s₁.heap = h0 := by rw [← hh, Bd.state]; rfl
  suffices hgo : OD p e s below (Q_rmIC3 Z a1 x1 h0 c0 c1 c2) ({ frames := 0, cells := 0, slots := 0, locals := 0 } : Room).cells ({ frames := 0, cells := 0, slots := 0, locals := 0 } : Room).slots (s₁.setTop (mkF m 0 #[.val (.ref a1), .val (.int x1), .val (.int (0 : Int32)), .val (.int (3 : Int32)), .unset, .unset] [])) by
    obtain ⟨s₂, o, hgo1, hgo2⟩ := hgo
    exact ⟨s₂, o, castTop (ef6 m a1 x1 (0 : Int32) (3 : Int32)) hgo1, hgo2⟩
  refine OD.go (B := (s₁.setTop (mkF m 1 #[.val (.ref a1), .val (.int x1), .val (.int (0 : Int32)), .val (.int (3 : Int32)), .unset, .unset] [(.int x1)]))) (fun t k => XS.iloadN X0.here hx rfl (hb hby d19_0) rfl k) ?_
  refine OD.go (B := (s₁.setTop (mkF m 2 #[.val (.ref a1), .val (.int x1), .val (.int (0 : Int32)), .val (.int (3 : Int32)), .unset, .unset] [(.int x1.toInt8.toInt32)]))) (fun t k => XS.i2b X0.here hx rfl (hb hby d19_1) rfl k) ?_
  refine OD.go (B := (s₁.setTop (mkF m 4 #[.val (.ref a1), .val (.int x1), .val (.int (0 : Int32)), .val (.int (3 : Int32)), .val (.int x1.toInt8.toInt32), .unset] []))) (fun t k => XS.istore X0.here hx rfl (hb hby d19_2) rfl (l' := #[.val (.ref a1), .val (.int x1), .val (.int (0 : Int32)), .val (.int (3 : Int32)), .val (.int x1.toInt8.toInt32), .unset]) rfl k) ?_
  refine OD.go (B := (s₁.setTop (mkF m 5 #[.val (.ref a1), .val (.int x1), .val (.int (0 : Int32)), .val (.int (3 : Int32)), .val (.int x1.toInt8.toInt32), .unset] [(.int (0 : Int32))]))) (fun t k => XS.iloadN X0.here hx rfl (hb hby d19_4) rfl k) ?_
  refine OD.go (B := (s₁.setTop (mkF m 7 #[.val (.ref a1), .val (.int x1), .val (.int (0 : Int32)), .val (.int (3 : Int32)), .val (.int x1.toInt8.toInt32), .val (.int (0 : Int32))] []))) (fun t k => XS.istore X0.here hx rfl (hb hby d19_5) rfl (l' := #[.val (.ref a1), .val (.int x1), .val (.int (0 : Int32)), .val (.int (3 : Int32)), .val (.int x1.toInt8.toInt32), .val (.int (0 : Int32))]) rfl k) ?_
  refine OD.go (B := (s₁.setTop (mkF m 9 #[.val (.ref a1), .val (.int x1), .val (.int (0 : Int32)), .val (.int (3 : Int32)), .val (.int x1.toInt8.toInt32), .val (.int (0 : Int32))] [(.int (0 : Int32))]))) (fun t k => XS.iload X0.here hx rfl (hb hby d19_7) rfl k) ?_
  refine OD.go (B := (s₁.setTop (mkF m 10 #[.val (.ref a1), .val (.int x1), .val (.int (0 : Int32)), .val (.int (3 : Int32)), .val (.int x1.toInt8.toInt32), .val (.int (0 : Int32))] [(.int (3 : Int32)), (.int (0 : Int32))]))) (fun t k => XS.iloadN X0.here hx rfl (hb hby d19_9) rfl k) ?_
  refine OD.go (B := (s₁.setTop (mkF m 13 #[.val (.ref a1), .val (.int x1), .val (.int (0 : Int32)), .val (.int (3 : Int32)), .val (.int x1.toInt8.toInt32), .val (.int (0 : Int32))] []))) (fun t k => XS.icmpNo X0.here hx rfl (hb hby d19_10) rfl (tlt (by decide : (0 : Int32) < (3 : Int32))).2.1 k) ?_
  refine OD.go (B := (s₁.setTop (mkF m 14 #[.val (.ref a1), .val (.int x1), .val (.int (0 : Int32)), .val (.int (3 : Int32)), .val (.int x1.toInt8.toInt32), .val (.int (0 : Int32))] [(.ref a1)]))) (fun t k => XS.aloadN X0.here hx rfl (hb hby d19_13) rfl rfl k) ?_
  refine OD.go (B := (s₁.setTop (mkF m 16 #[.val (.ref a1), .val (.int x1), .val (.int (0 : Int32)), .val (.int (3 : Int32)), .val (.int x1.toInt8.toInt32), .val (.int (0 : Int32))] [(.int (0 : Int32)), (.ref a1)]))) (fun t k => XS.iload X0.here hx rfl (hb hby d19_14) rfl k) ?_
  obtain ⟨cl1, Ar1, hi1, ha1⟩ := own_at A1 (j := (0 : Int32)) (v := (.int c0)) ⟨by decide, by decide⟩ rfl
  refine OD.go (B := (s₁.setTop (mkF m 17 #[.val (.ref a1), .val (.int x1), .val (.int (0 : Int32)), .val (.int (3 : Int32)), .val (.int x1.toInt8.toInt32), .val (.int (0 : Int32))] [(.int c0)]))) (fun t k => X0.baloadBytes hx (j := (0 : Int32)) (v := (.int c0)) (by rw [e0]; exact Ar1.1) (State.isArrayOf_alike hZ.alike Ar1.2.1) Ar1.2.2 hi1 ha1 (g := (mkF m 16 #[.val (.ref a1), .val (.int x1), .val (.int (0 : Int32)), .val (.int (3 : Int32)), .val (.int x1.toInt8.toInt32), .val (.int (0 : Int32))] [(.int (0 : Int32)), (.ref a1)])) rfl rfl (hb hby d19_16) _ k) ?_
  refine OD.go (B := (s₁.setTop (mkF m 19 #[.val (.ref a1), .val (.int x1), .val (.int (0 : Int32)), .val (.int (3 : Int32)), .val (.int x1.toInt8.toInt32), .val (.int (0 : Int32))] [(.int x1.toInt8.toInt32), (.int c0)]))) (fun t k => XS.iload X0.here hx rfl (hb hby d19_17) rfl k) ?_
  by_cases c19_2 : c0 = x1.toInt8.toInt32
  · refine OD.go (B := (s₁.setTop (mkF m 22 #[.val (.ref a1), .val (.int x1), .val (.int (0 : Int32)), .val (.int (3 : Int32)), .val (.int x1.toInt8.toInt32), .val (.int (0 : Int32))] []))) (fun t k => XS.icmpNo X0.here hx rfl (hb hby d19_19) rfl (teq c19_2).2 k) ?_
    refine OD.go (B := (s₁.setTop (mkF m 24 #[.val (.ref a1), .val (.int x1), .val (.int (0 : Int32)), .val (.int (3 : Int32)), .val (.int x1.toInt8.toInt32), .val (.int (0 : Int32))] [(.int (0 : Int32))]))) (fun t k => XS.iload X0.here hx rfl (hb hby d19_22) rfl k) ?_
    have fin : (own_ix3 c0 c1 c2 x1) = (0 : Int32) := by unfold own_ix3; rw [if_pos c19_2]
    exact OD.ret X0 hx hlk (t := .int) Bd.returns rfl (Or.inl ⟨rfl, Or.inl rfl, _, rfl⟩) (hb hby d19_24) (Nat.le_of_ble_eq_true rfl) (Nat.le_of_ble_eq_true rfl) ⟨by rw [fin], rfl, e0⟩
  · refine OD.go (B := (s₁.setTop (mkF m 25 #[.val (.ref a1), .val (.int x1), .val (.int (0 : Int32)), .val (.int (3 : Int32)), .val (.int x1.toInt8.toInt32), .val (.int (0 : Int32))] []))) (fun t k => XS.icmpYes X0.here hx rfl (pc0 := 19) (pc' := 25) rfl (hb hby d19_19) rfl (feq c19_2).2 (by decide) (by decide) k) ?_
    refine OD.go (B := (s₁.setTop (mkF m 28 #[.val (.ref a1), .val (.int x1), .val (.int (0 : Int32)), .val (.int (3 : Int32)), .val (.int x1.toInt8.toInt32), .val (.int (1 : Int32))] []))) (fun t k => XS.iinc X0.here hx rfl (hb hby d19_25) rfl (l' := #[.val (.ref a1), .val (.int x1), .val (.int (0 : Int32)), .val (.int (3 : Int32)), .val (.int x1.toInt8.toInt32), .val (.int (1 : Int32))]) rfl k) ?_
    refine OD.go (B := (s₁.setTop (mkF m 7 #[.val (.ref a1), .val (.int x1), .val (.int (0 : Int32)), .val (.int (3 : Int32)), .val (.int x1.toInt8.toInt32), .val (.int (1 : Int32))] []))) (fun t k => XS.goto X0.here hx rfl (pc0 := 28) (pc' := 7) rfl (hb hby d19_28) (by decide) (by decide) k) ?_
    refine OD.go (B := (s₁.setTop (mkF m 9 #[.val (.ref a1), .val (.int x1), .val (.int (0 : Int32)), .val (.int (3 : Int32)), .val (.int x1.toInt8.toInt32), .val (.int (1 : Int32))] [(.int (1 : Int32))]))) (fun t k => XS.iload X0.here hx rfl (hb hby d19_7) rfl k) ?_
    refine OD.go (B := (s₁.setTop (mkF m 10 #[.val (.ref a1), .val (.int x1), .val (.int (0 : Int32)), .val (.int (3 : Int32)), .val (.int x1.toInt8.toInt32), .val (.int (1 : Int32))] [(.int (3 : Int32)), (.int (1 : Int32))]))) (fun t k => XS.iloadN X0.here hx rfl (hb hby d19_9) rfl k) ?_
    refine OD.go (B := (s₁.setTop (mkF m 13 #[.val (.ref a1), .val (.int x1), .val (.int (0 : Int32)), .val (.int (3 : Int32)), .val (.int x1.toInt8.toInt32), .val (.int (1 : Int32))] []))) (fun t k => XS.icmpNo X0.here hx rfl (hb hby d19_10) rfl (tlt (by decide : (1 : Int32) < (3 : Int32))).2.1 k) ?_
    refine OD.go (B := (s₁.setTop (mkF m 14 #[.val (.ref a1), .val (.int x1), .val (.int (0 : Int32)), .val (.int (3 : Int32)), .val (.int x1.toInt8.toInt32), .val (.int (1 : Int32))] [(.ref a1)]))) (fun t k => XS.aloadN X0.here hx rfl (hb hby d19_13) rfl rfl k) ?_
    refine OD.go (B := (s₁.setTop (mkF m 16 #[.val (.ref a1), .val (.int x1), .val (.int (0 : Int32)), .val (.int (3 : Int32)), .val (.int x1.toInt8.toInt32), .val (.int (1 : Int32))] [(.int (1 : Int32)), (.ref a1)]))) (fun t k => XS.iload X0.here hx rfl (hb hby d19_14) rfl k) ?_
    obtain ⟨cl3, Ar3, hi3, ha3⟩ := own_at A1 (j := (1 : Int32)) (v := (.int c1)) ⟨by decide, by decide⟩ rfl
    refine OD.go (B := (s₁.setTop (mkF m 17 #[.val (.ref a1), .val (.int x1), .val (.int (0 : Int32)), .val (.int (3 : Int32)), .val (.int x1.toInt8.toInt32), .val (.int (1 : Int32))] [(.int c1)]))) (fun t k => X0.baloadBytes hx (j := (1 : Int32)) (v := (.int c1)) (by rw [e0]; exact Ar3.1) (State.isArrayOf_alike hZ.alike Ar3.2.1) Ar3.2.2 hi3 ha3 (g := (mkF m 16 #[.val (.ref a1), .val (.int x1), .val (.int (0 : Int32)), .val (.int (3 : Int32)), .val (.int x1.toInt8.toInt32), .val (.int (1 : Int32))] [(.int (1 : Int32)), (.ref a1)])) rfl rfl (hb hby d19_16) _ k) ?_
    refine OD.go (B := (s₁.setTop (mkF m 19 #[.val (.ref a1), .val (.int x1), .val (.int (0 : Int32)), .val (.int (3 : Int32)), .val (.int x1.toInt8.toInt32), .val (.int (1 : Int32))] [(.int x1.toInt8.toInt32), (.int c1)]))) (fun t k => XS.iload X0.here hx rfl (hb hby d19_17) rfl k) ?_
    by_cases c19_4 : c1 = x1.toInt8.toInt32
    · refine OD.go (B := (s₁.setTop (mkF m 22 #[.val (.ref a1), .val (.int x1), .val (.int (0 : Int32)), .val (.int (3 : Int32)), .val (.int x1.toInt8.toInt32), .val (.int (1 : Int32))] []))) (fun t k => XS.icmpNo X0.here hx rfl (hb hby d19_19) rfl (teq c19_4).2 k) ?_
      refine OD.go (B := (s₁.setTop (mkF m 24 #[.val (.ref a1), .val (.int x1), .val (.int (0 : Int32)), .val (.int (3 : Int32)), .val (.int x1.toInt8.toInt32), .val (.int (1 : Int32))] [(.int (1 : Int32))]))) (fun t k => XS.iload X0.here hx rfl (hb hby d19_22) rfl k) ?_
      have fin : (own_ix3 c0 c1 c2 x1) = (1 : Int32) := by unfold own_ix3; rw [if_neg c19_2, if_pos c19_4]
      exact OD.ret X0 hx hlk (t := .int) Bd.returns rfl (Or.inl ⟨rfl, Or.inl rfl, _, rfl⟩) (hb hby d19_24) (Nat.le_of_ble_eq_true rfl) (Nat.le_of_ble_eq_true rfl) ⟨by rw [fin], rfl, e0⟩
    · refine OD.go (B := (s₁.setTop (mkF m 25 #[.val (.ref a1), .val (.int x1), .val (.int (0 : Int32)), .val (.int (3 : Int32)), .val (.int x1.toInt8.toInt32), .val (.int (1 : Int32))] []))) (fun t k => XS.icmpYes X0.here hx rfl (pc0 := 19) (pc' := 25) rfl (hb hby d19_19) rfl (feq c19_4).2 (by decide) (by decide) k) ?_
      refine OD.go (B := (s₁.setTop (mkF m 28 #[.val (.ref a1), .val (.int x1), .val (.int (0 : Int32)), .val (.int (3 : Int32)), .val (.int x1.toInt8.toInt32), .val (.int (2 : Int32))] []))) (fun t k => XS.iinc X0.here hx rfl (hb hby d19_25) rfl (l' := #[.val (.ref a1), .val (.int x1), .val (.int (0 : Int32)), .val (.int (3 : Int32)), .val (.int x1.toInt8.toInt32), .val (.int (2 : Int32))]) rfl k) ?_
      refine OD.go (B := (s₁.setTop (mkF m 7 #[.val (.ref a1), .val (.int x1), .val (.int (0 : Int32)), .val (.int (3 : Int32)), .val (.int x1.toInt8.toInt32), .val (.int (2 : Int32))] []))) (fun t k => XS.goto X0.here hx rfl (pc0 := 28) (pc' := 7) rfl (hb hby d19_28) (by decide) (by decide) k) ?_
      refine OD.go (B := (s₁.setTop (mkF m 9 #[.val (.ref a1), .val (.int x1), .val (.int (0 : Int32)), .val (.int (3 : Int32)), .val (.int x1.toInt8.toInt32), .val (.int (2 : Int32))] [(.int (2 : Int32))]))) (fun t k => XS.iload X0.here hx rfl (hb hby d19_7) rfl k) ?_
      refine OD.go (B := (s₁.setTop (mkF m 10 #[.val (.ref a1), .val (.int x1), .val (.int (0 : Int32)), .val (.int (3 : Int32)), .val (.int x1.toInt8.toInt32), .val (.int (2 : Int32))] [(.int (3 : Int32)), (.int (2 : Int32))]))) (fun t k => XS.iloadN X0.here hx rfl (hb hby d19_9) rfl k) ?_
      refine OD.go (B := (s₁.setTop (mkF m 13 #[.val (.ref a1), .val (.int x1), .val (.int (0 : Int32)), .val (.int (3 : Int32)), .val (.int x1.toInt8.toInt32), .val (.int (2 : Int32))] []))) (fun t k => XS.icmpNo X0.here hx rfl (hb hby d19_10) rfl (tlt (by decide : (2 : Int32) < (3 : Int32))).2.1 k) ?_
      refine OD.go (B := (s₁.setTop (mkF m 14 #[.val (.ref a1), .val (.int x1), .val (.int (0 : Int32)), .val (.int (3 : Int32)), .val (.int x1.toInt8.toInt32), .val (.int (2 : Int32))] [(.ref a1)]))) (fun t k => XS.aloadN X0.here hx rfl (hb hby d19_13) rfl rfl k) ?_
      refine OD.go (B := (s₁.setTop (mkF m 16 #[.val (.ref a1), .val (.int x1), .val (.int (0 : Int32)), .val (.int (3 : Int32)), .val (.int x1.toInt8.toInt32), .val (.int (2 : Int32))] [(.int (2 : Int32)), (.ref a1)]))) (fun t k => XS.iload X0.here hx rfl (hb hby d19_14) rfl k) ?_
      obtain ⟨cl5, Ar5, hi5, ha5⟩ := own_at A1 (j := (2 : Int32)) (v := (.int c2)) ⟨by decide, by decide⟩ rfl
      refine OD.go (B := (s₁.setTop (mkF m 17 #[.val (.ref a1), .val (.int x1), .val (.int (0 : Int32)), .val (.int (3 : Int32)), .val (.int x1.toInt8.toInt32), .val (.int (2 : Int32))] [(.int c2)]))) (fun t k => X0.baloadBytes hx (j := (2 : Int32)) (v := (.int c2)) (by rw [e0]; exact Ar5.1) (State.isArrayOf_alike hZ.alike Ar5.2.1) Ar5.2.2 hi5 ha5 (g := (mkF m 16 #[.val (.ref a1), .val (.int x1), .val (.int (0 : Int32)), .val (.int (3 : Int32)), .val (.int x1.toInt8.toInt32), .val (.int (2 : Int32))] [(.int (2 : Int32)), (.ref a1)])) rfl rfl (hb hby d19_16) _ k) ?_
      refine OD.go (B := (s₁.setTop (mkF m 19 #[.val (.ref a1), .val (.int x1), .val (.int (0 : Int32)), .val (.int (3 : Int32)), .val (.int x1.toInt8.toInt32), .val (.int (2 : Int32))] [(.int x1.toInt8.toInt32), (.int c2)]))) (fun t k => XS.iload X0.here hx rfl (hb hby d19_17) rfl k) ?_
      by_cases c19_6 : c2 = x1.toInt8.toInt32
      · refine OD.go (B := (s₁.setTop (mkF m 22 #[.val (.ref a1), .val (.int x1), .val (.int (0 : Int32)), .val (.int (3 : Int32)), .val (.int x1.toInt8.toInt32), .val (.int (2 : Int32))] []))) (fun t k => XS.icmpNo X0.here hx rfl (hb hby d19_19) rfl (teq c19_6).2 k) ?_
        refine OD.go (B := (s₁.setTop (mkF m 24 #[.val (.ref a1), .val (.int x1), .val (.int (0 : Int32)), .val (.int (3 : Int32)), .val (.int x1.toInt8.toInt32), .val (.int (2 : Int32))] [(.int (2 : Int32))]))) (fun t k => XS.iload X0.here hx rfl (hb hby d19_22) rfl k) ?_
        have fin : (own_ix3 c0 c1 c2 x1) = (2 : Int32) := by unfold own_ix3; rw [if_neg c19_2, if_neg c19_4, if_pos c19_6]
        exact OD.ret X0 hx hlk (t := .int) Bd.returns rfl (Or.inl ⟨rfl, Or.inl rfl, _, rfl⟩) (hb hby d19_24) (Nat.le_of_ble_eq_true rfl) (Nat.le_of_ble_eq_true rfl) ⟨by rw [fin], rfl, e0⟩
      · refine OD.go (B := (s₁.setTop (mkF m 25 #[.val (.ref a1), .val (.int x1), .val (.int (0 : Int32)), .val (.int (3 : Int32)), .val (.int x1.toInt8.toInt32), .val (.int (2 : Int32))] []))) (fun t k => XS.icmpYes X0.here hx rfl (pc0 := 19) (pc' := 25) rfl (hb hby d19_19) rfl (feq c19_6).2 (by decide) (by decide) k) ?_
        refine OD.go (B := (s₁.setTop (mkF m 28 #[.val (.ref a1), .val (.int x1), .val (.int (0 : Int32)), .val (.int (3 : Int32)), .val (.int x1.toInt8.toInt32), .val (.int (3 : Int32))] []))) (fun t k => XS.iinc X0.here hx rfl (hb hby d19_25) rfl (l' := #[.val (.ref a1), .val (.int x1), .val (.int (0 : Int32)), .val (.int (3 : Int32)), .val (.int x1.toInt8.toInt32), .val (.int (3 : Int32))]) rfl k) ?_
        refine OD.go (B := (s₁.setTop (mkF m 7 #[.val (.ref a1), .val (.int x1), .val (.int (0 : Int32)), .val (.int (3 : Int32)), .val (.int x1.toInt8.toInt32), .val (.int (3 : Int32))] []))) (fun t k => XS.goto X0.here hx rfl (pc0 := 28) (pc' := 7) rfl (hb hby d19_28) (by decide) (by decide) k) ?_
        refine OD.go (B := (s₁.setTop (mkF m 9 #[.val (.ref a1), .val (.int x1), .val (.int (0 : Int32)), .val (.int (3 : Int32)), .val (.int x1.toInt8.toInt32), .val (.int (3 : Int32))] [(.int (3 : Int32))]))) (fun t k => XS.iload X0.here hx rfl (hb hby d19_7) rfl k) ?_
        refine OD.go (B := (s₁.setTop (mkF m 10 #[.val (.ref a1), .val (.int x1), .val (.int (0 : Int32)), .val (.int (3 : Int32)), .val (.int x1.toInt8.toInt32), .val (.int (3 : Int32))] [(.int (3 : Int32)), (.int (3 : Int32))]))) (fun t k => XS.iloadN X0.here hx rfl (hb hby d19_9) rfl k) ?_
        refine OD.go (B := (s₁.setTop (mkF m 31 #[.val (.ref a1), .val (.int x1), .val (.int (0 : Int32)), .val (.int (3 : Int32)), .val (.int x1.toInt8.toInt32), .val (.int (3 : Int32))] []))) (fun t k => XS.icmpYes X0.here hx rfl (pc0 := 10) (pc' := 31) rfl (hb hby d19_10) rfl (flt (by decide : ¬ (3 : Int32) < (3 : Int32))).2.1 (by decide) (by decide) k) ?_
        refine OD.go (B := (s₁.setTop (mkF m 32 #[.val (.ref a1), .val (.int x1), .val (.int (0 : Int32)), .val (.int (3 : Int32)), .val (.int x1.toInt8.toInt32), .val (.int (3 : Int32))] [(.int (-1 : Int32))]))) (fun t k => XS.iconst X0.here hx rfl (hb hby d19_31) k) ?_
        have fin : (own_ix3 c0 c1 c2 x1) = (-1 : Int32) := by unfold own_ix3; rw [if_neg c19_2, if_neg c19_4, if_neg c19_6]
        exact OD.ret X0 hx hlk (t := .int) Bd.returns rfl (Or.inl ⟨rfl, Or.inl rfl, _, rfl⟩) (hb hby d19_32) (Nat.le_of_ble_eq_true rfl) (Nat.le_of_ble_eq_true rfl) ⟨by rw [fin], rfl, e0⟩
def Q_rmLI3 (Z : State) (a1 : Addr) (x1 : Int32) (h0 : Heap) (c0 c1 c2 : Int32) (v : Option Value) (h : Heap) (L : List Loc) : Prop := v = some (.int (own_li3 c0 c1 c2 x1)) ∧ L = [] ∧ h = h0
set_option maxRecDepth 65536 in
set_option maxHeartbeats 40000000 in
theorem rmLI3 (l : Launch) (Z : State) (a0 : Array Value) (hw : ∀ d ∈ tables_1, d.before a0 Z = true) (ws : List Jvm.Cond) (a1 : Addr) (x1 : Int32) (h0 : Heap) (kt : ClassId) (c0 c1 c2 : Int32) (A1 : Arv Z h0 a1 kt .byte (3 : Int32) [(.int c0), (.int c1), (.int c2)] (.int 0)) :
    MetFree l (⟨"java/lang/StringLatin1", "indexOf", "([BIII)I"⟩ : MethodName) (head1 (Jvm.Cond.code (⟨"java/lang/StringLatin1", "indexOf", "([BIII)I"⟩ : MethodName) jdk_43_method_22_code 4 (some .int) :: ws) ({ frames := 1, cells := 0, slots := 0, locals := 20 } : Room)) (fun a U => a = #[(.ref a1), (.int x1), (.int (0 : Int32)), (.int (3 : Int32))] ∧ Z.Warmed39 U.vm ∧ U.heap = h0) (fun _ _ _ _ _ => True) (fun _ U o U' => ∃ v L, o = .returned v ∧ Q_rmLI3 Z a1 x1 h0 c0 c1 c2 v U'.heap L ∧ FrameEnd U o U' L ({ frames := 1, cells := 0, slots := 0, locals := 20 } : Room).cells ({ frames := 1, cells := 0, slots := 0, locals := 20 } : Room).slots) := by
  refine MetFree.of_bodySF (plainFor_of_name pn1) hisR ?_
  intro p e s m args below meth c s₁ Bd hml0 hP hK
  obtain ⟨rfl, hZ, hh⟩ := hP
  have hx := Bd.exec
  have hby := Bd.bytes
  have hlk : meth.locks = false := Bd.notSynchronized
  have hml : c.maxLocals = 4 := hml0
  have hown : s.vm.findClass "java/lang/StringLatin1" = some m.cls := findClass_of_methodNamed Bd.named
  have hnm := (name_of_methodNamed Bd.named Bd.method).1
  have X0 : Stand p l e ({ frames := 1, cells := 0, slots := 0, locals := 20 } : Room) s m #[(.ref a1), (.int x1), (.int (0 : Int32)), (.int (3 : Int32))] below meth c s₁ [] 0 0 := Stand.of_body Bd
  have e0 : s₁.heap = h0 := by rw [← hh, Bd.state]; rfl
  suffices hgo : OD p e s below (Q_rmLI3 Z a1 x1 h0 c0 c1 c2) ({ frames := 1, cells := 0, slots := 0, locals := 20 } : Room).cells ({ frames := 1, cells := 0, slots := 0, locals := 20 } : Room).slots (s₁.setTop (mkF m 0 #[.val (.ref a1), .val (.int x1), .val (.int (0 : Int32)), .val (.int (3 : Int32))] [])) by
    obtain ⟨s₂, o, hgo1, hgo2⟩ := hgo
    exact ⟨s₂, o, castTop (ef5 m a1 x1 (0 : Int32) (3 : Int32)) hgo1, hgo2⟩
  refine OD.go (B := (s₁.setTop (mkF m 1 #[.val (.ref a1), .val (.int x1), .val (.int (0 : Int32)), .val (.int (3 : Int32))] [(.int x1)]))) (fun t k => XS.iloadN X0.here hx rfl (hb hby d15_0) rfl k) ?_
  obtain ⟨_, _, ⟨T1, L1, k1, n1⟩, -, X1, ⟨Lc1, hQ1, l1, y1, z1⟩, st1⟩ := Jvm.LawKit.callS X0 hx (y := (⟨"java/lang/StringLatin1", "canEncode", "(I)Z"⟩ : MethodName)) hown (mvT hZ (Wd73 hw)) (mvT hZ (Wd74 hw)) (mvT hZ (Wd71 hw)) (mvT hZ (Wd75 hw)) (by decide) (backOf (W := 0) (rmCEi l Z a0 hw [] x1 h0) hZ (Wd75 hw) (Wd71 hw) (by decide) (by decide)) (g := (mkF m 1 #[.val (.ref a1), .val (.int x1), .val (.int (0 : Int32)), .val (.int (3 : Int32))] [(.int x1)])) rfl (by rw [hml]; rfl) (argsL := [(.int x1)]) (rest := []) (lenOf pd2 rfl) rfl (by show 2 * 0 + _ ≤ _; exact Nat.le_of_eq rfl) (hb hby d15_1) (fun _ _ => ⟨rfl, e0, (Nat.le_of_ble_eq_true rfl), (Nat.le_of_ble_eq_true rfl)⟩)
  dsimp only [Pt.U, Pt.locs, Pt.cells, Pt.slots] at X1 l1 y1 z1 st1 hQ1
  subst l1 y1 z1
  obtain ⟨rfl, rfl, e1⟩ := hQ1
  refine OD.go (B := (T1.setTop (mkF m 4 #[.val (.ref a1), .val (.int x1), .val (.int (0 : Int32)), .val (.int (3 : Int32))] [(.int (own_ce x1))]))) st1 ?_
  by_cases c4_2 : (own_ce x1) = (0 : Int32)
  · refine OD.go (B := (T1.setTop (mkF m 7 #[.val (.ref a1), .val (.int x1), .val (.int (0 : Int32)), .val (.int (3 : Int32))] []))) (fun t k => XS.ifNo X1.here hx rfl (hb hby d15_4) rfl (by rw [if0]; exact (teq c4_2).2) k) ?_
    refine OD.go (B := (T1.setTop (mkF m 8 #[.val (.ref a1), .val (.int x1), .val (.int (0 : Int32)), .val (.int (3 : Int32))] [(.int (-1 : Int32))]))) (fun t k => XS.iconst X1.here hx rfl (hb hby d15_7) k) ?_
    have fin : (own_li3 c0 c1 c2 x1) = (-1 : Int32) := by unfold own_li3; rw [if_pos c4_2]
    exact OD.ret X1 hx hlk (t := .int) Bd.returns rfl (Or.inl ⟨rfl, Or.inl rfl, _, rfl⟩) (hb hby d15_8) (Nat.le_of_ble_eq_true rfl) (Nat.le_of_ble_eq_true rfl) ⟨by rw [fin], rfl, e1⟩
  · refine OD.go (B := (T1.setTop (mkF m 9 #[.val (.ref a1), .val (.int x1), .val (.int (0 : Int32)), .val (.int (3 : Int32))] []))) (fun t k => XS.ifYes X1.here hx rfl (pc0 := 4) (pc' := 9) rfl (hb hby d15_4) rfl (by rw [if0]; exact (feq c4_2).2) (by decide) (by decide) k) ?_
    refine OD.go (B := (T1.setTop (mkF m 10 #[.val (.ref a1), .val (.int x1), .val (.int (0 : Int32)), .val (.int (3 : Int32))] [(.int (0 : Int32))]))) (fun t k => XS.iloadN X1.here hx rfl (hb hby d15_9) rfl k) ?_
    refine OD.go (B := (T1.setTop (mkF m 11 #[.val (.ref a1), .val (.int x1), .val (.int (0 : Int32)), .val (.int (3 : Int32))] [(.int (0 : Int32)), (.int (0 : Int32))]))) (fun t k => XS.iconst X1.here hx rfl (hb hby d15_10) k) ?_
    obtain ⟨_, _, ⟨T3, L3, k3, n3⟩, -, X3, ⟨Lc3, hQ3, l3, y3, z3⟩, st3⟩ := Jvm.LawKit.callS X1 hx (y := (⟨"java/lang/Math", "max", "(II)I"⟩ : MethodName)) hown (mvT hZ (Wd76 hw)) (mvT hZ (Wd77 hw)) (mvT hZ (Wd78 hw)) (mvT hZ (Wd79 hw)) (by decide) (backOf (W := 0) (rmMx00 l Z a0 hw [] h0) hZ (Wd79 hw) (Wd78 hw) (by decide) (by decide)) (g := (mkF m 11 #[.val (.ref a1), .val (.int x1), .val (.int (0 : Int32)), .val (.int (3 : Int32))] [(.int (0 : Int32)), (.int (0 : Int32))])) rfl (by rw [hml]; rfl) (argsL := [(.int (0 : Int32)), (.int (0 : Int32))]) (rest := []) (lenOf pd3 rfl) rfl (by show 2 * 0 + _ ≤ _; exact Nat.le_of_eq rfl) (hb hby d15_11) (fun _ _ => ⟨rfl, e1, (Nat.le_of_ble_eq_true rfl), (Nat.le_of_ble_eq_true rfl)⟩)
    dsimp only [Pt.U, Pt.locs, Pt.cells, Pt.slots] at X3 l3 y3 z3 st3 hQ3
    subst l3 y3 z3
    obtain ⟨rfl, rfl, e3⟩ := hQ3
    refine OD.go (B := (T3.setTop (mkF m 14 #[.val (.ref a1), .val (.int x1), .val (.int (0 : Int32)), .val (.int (3 : Int32))] [(.int (0 : Int32))]))) st3 ?_
    refine OD.go (B := (T3.setTop (mkF m 15 #[.val (.ref a1), .val (.int x1), .val (.int (0 : Int32)), .val (.int (3 : Int32))] []))) (fun t k => XS.istoreN X3.here hx rfl (hb hby d15_14) rfl (l' := #[.val (.ref a1), .val (.int x1), .val (.int (0 : Int32)), .val (.int (3 : Int32))]) rfl k) ?_
    refine OD.go (B := (T3.setTop (mkF m 16 #[.val (.ref a1), .val (.int x1), .val (.int (0 : Int32)), .val (.int (3 : Int32))] [(.int (3 : Int32))]))) (fun t k => XS.iloadN X3.here hx rfl (hb hby d15_15) rfl k) ?_
    refine OD.go (B := (T3.setTop (mkF m 17 #[.val (.ref a1), .val (.int x1), .val (.int (0 : Int32)), .val (.int (3 : Int32))] [(.ref a1), (.int (3 : Int32))]))) (fun t k => XS.aloadN X3.here hx rfl (hb hby d15_16) rfl rfl k) ?_
    obtain ⟨cl4, Ar4, hl4⟩ := own_len A1
    refine OD.go (B := (T3.setTop (mkF m 18 #[.val (.ref a1), .val (.int x1), .val (.int (0 : Int32)), .val (.int (3 : Int32))] [(.int (3 : Int32)), (.int (3 : Int32))]))) (fun t k => X3.arraylength hx (by rw [e3]; exact Ar4.1) (State.isArrayOf_alike hZ.alike Ar4.2.1) (g := (mkF m 17 #[.val (.ref a1), .val (.int x1), .val (.int (0 : Int32)), .val (.int (3 : Int32))] [(.ref a1), (.int (3 : Int32))])) rfl rfl (hb hby d15_17) _ (by rw [hl4]; exact k)) ?_
    obtain ⟨_, _, ⟨T5, L5, k5, n5⟩, -, X5, ⟨Lc5, hQ5, l5, y5, z5⟩, st5⟩ := Jvm.LawKit.callS X3 hx (y := (⟨"java/lang/Math", "min", "(II)I"⟩ : MethodName)) hown (mvT hZ (Wd80 hw)) (mvT hZ (Wd81 hw)) (mvT hZ (Wd78 hw)) (mvT hZ (Wd82 hw)) (by decide) (backOf (W := 0) (rmMn3 l Z a0 hw [] h0) hZ (Wd82 hw) (Wd78 hw) (by decide) (by decide)) (g := (mkF m 18 #[.val (.ref a1), .val (.int x1), .val (.int (0 : Int32)), .val (.int (3 : Int32))] [(.int (3 : Int32)), (.int (3 : Int32))])) rfl (by rw [hml]; rfl) (argsL := [(.int (3 : Int32)), (.int (3 : Int32))]) (rest := []) (lenOf pd3 rfl) rfl (by show 2 * 0 + _ ≤ _; exact Nat.le_of_eq rfl) (hb hby d15_18) (fun _ _ => ⟨rfl, e3, (Nat.le_of_ble_eq_true rfl), (Nat.le_of_ble_eq_true rfl)⟩)
    dsimp only [Pt.U, Pt.locs, Pt.cells, Pt.slots] at X5 l5 y5 z5 st5 hQ5
    subst l5 y5 z5
    obtain ⟨rfl, rfl, e5⟩ := hQ5
    refine OD.go (B := (T5.setTop (mkF m 21 #[.val (.ref a1), .val (.int x1), .val (.int (0 : Int32)), .val (.int (3 : Int32))] [(.int (3 : Int32))]))) st5 ?_
    refine OD.go (B := (T5.setTop (mkF m 22 #[.val (.ref a1), .val (.int x1), .val (.int (0 : Int32)), .val (.int (3 : Int32))] []))) (fun t k => XS.istoreN X5.here hx rfl (hb hby d15_21) rfl (l' := #[.val (.ref a1), .val (.int x1), .val (.int (0 : Int32)), .val (.int (3 : Int32))]) rfl k) ?_
    refine OD.go (B := (T5.setTop (mkF m 23 #[.val (.ref a1), .val (.int x1), .val (.int (0 : Int32)), .val (.int (3 : Int32))] [(.int (0 : Int32))]))) (fun t k => XS.iloadN X5.here hx rfl (hb hby d15_22) rfl k) ?_
    refine OD.go (B := (T5.setTop (mkF m 24 #[.val (.ref a1), .val (.int x1), .val (.int (0 : Int32)), .val (.int (3 : Int32))] [(.int (3 : Int32)), (.int (0 : Int32))]))) (fun t k => XS.iloadN X5.here hx rfl (hb hby d15_23) rfl k) ?_
    refine OD.go (B := (T5.setTop (mkF m 29 #[.val (.ref a1), .val (.int x1), .val (.int (0 : Int32)), .val (.int (3 : Int32))] []))) (fun t k => XS.icmpYes X5.here hx rfl (pc0 := 24) (pc' := 29) rfl (hb hby d15_24) rfl (tlt (by decide : (0 : Int32) < (3 : Int32))).1 (by decide) (by decide) k) ?_
    refine OD.go (B := (T5.setTop (mkF m 30 #[.val (.ref a1), .val (.int x1), .val (.int (0 : Int32)), .val (.int (3 : Int32))] [(.ref a1)]))) (fun t k => XS.aloadN X5.here hx rfl (hb hby d15_29) rfl rfl k) ?_
    refine OD.go (B := (T5.setTop (mkF m 31 #[.val (.ref a1), .val (.int x1), .val (.int (0 : Int32)), .val (.int (3 : Int32))] [(.int x1), (.ref a1)]))) (fun t k => XS.iloadN X5.here hx rfl (hb hby d15_30) rfl k) ?_
    refine OD.go (B := (T5.setTop (mkF m 32 #[.val (.ref a1), .val (.int x1), .val (.int (0 : Int32)), .val (.int (3 : Int32))] [(.int (0 : Int32)), (.int x1), (.ref a1)]))) (fun t k => XS.iloadN X5.here hx rfl (hb hby d15_31) rfl k) ?_
    refine OD.go (B := (T5.setTop (mkF m 33 #[.val (.ref a1), .val (.int x1), .val (.int (0 : Int32)), .val (.int (3 : Int32))] [(.int (3 : Int32)), (.int (0 : Int32)), (.int x1), (.ref a1)]))) (fun t k => XS.iloadN X5.here hx rfl (hb hby d15_32) rfl k) ?_
    obtain ⟨_, _, ⟨T6, L6, k6, n6⟩, -, X6, ⟨Lc6, hQ6, l6, y6, z6⟩, st6⟩ := Jvm.LawKit.callS X5 hx (y := (⟨"java/lang/StringLatin1", "indexOfChar", "([BIII)I"⟩ : MethodName)) hown (mvT hZ (Wd83 hw)) (mvT hZ (Wd84 hw)) (mvT hZ (Wd71 hw)) (mvT hZ (Wd85 hw)) (by decide) (backOf (W := 0) (rmIC3 l Z a0 hw [] a1 x1 h0 kt c0 c1 c2 A1) hZ (Wd85 hw) (Wd71 hw) (by decide) (by decide)) (g := (mkF m 33 #[.val (.ref a1), .val (.int x1), .val (.int (0 : Int32)), .val (.int (3 : Int32))] [(.int (3 : Int32)), (.int (0 : Int32)), (.int x1), (.ref a1)])) rfl (by rw [hml]; rfl) (argsL := [(.ref a1), (.int x1), (.int (0 : Int32)), (.int (3 : Int32))]) (rest := []) (lenOf pd4 rfl) rfl (by show 2 * 0 + _ ≤ _; exact Nat.le_of_eq rfl) (hb hby d15_33) (fun _ _ => ⟨rfl, e5, (Nat.le_of_ble_eq_true rfl), (Nat.le_of_ble_eq_true rfl)⟩)
    dsimp only [Pt.U, Pt.locs, Pt.cells, Pt.slots] at X6 l6 y6 z6 st6 hQ6
    subst l6 y6 z6
    obtain ⟨rfl, rfl, e6⟩ := hQ6
    refine OD.go (B := (T6.setTop (mkF m 36 #[.val (.ref a1), .val (.int x1), .val (.int (0 : Int32)), .val (.int (3 : Int32))] [(.int (own_ix3 c0 c1 c2 x1))]))) st6 ?_
    have fin : (own_li3 c0 c1 c2 x1) = (own_ix3 c0 c1 c2 x1) := by unfold own_li3; rw [if_neg c4_2]
    exact OD.ret X6 hx hlk (t := .int) Bd.returns rfl (Or.inl ⟨rfl, Or.inl rfl, _, rfl⟩) (hb hby d15_36) (Nat.le_of_ble_eq_true rfl) (Nat.le_of_ble_eq_true rfl) ⟨by rw [fin], rfl, e6⟩
def Q_rmIC4 (Z : State) (a1 : Addr) (x1 : Int32) (h0 : Heap) (c0 c1 c2 c3 : Int32) (v : Option Value) (h : Heap) (L : List Loc) : Prop := v = some (.int (own_ix4 c0 c1 c2 c3 x1)) ∧ L = [] ∧ h = h0
set_option maxRecDepth 65536 in
set_option maxHeartbeats 40000000 in
theorem rmIC4 (l : Launch) (Z : State) (a0 : Array Value) (hw : ∀ d ∈ tables_1, d.before a0 Z = true) (ws : List Jvm.Cond) (a1 : Addr) (x1 : Int32) (h0 : Heap) (kt : ClassId) (c0 c1 c2 c3 : Int32) (A1 : Arv Z h0 a1 kt .byte (4 : Int32) [(.int c0), (.int c1), (.int c2), (.int c3)] (.int 0)) :
    MetFree l (⟨"java/lang/StringLatin1", "indexOfChar", "([BIII)I"⟩ : MethodName) (head1 (Jvm.Cond.code (⟨"java/lang/StringLatin1", "indexOfChar", "([BIII)I"⟩ : MethodName) jdk_43_method_23_code 6 (some .int) :: ws) ({ frames := 0, cells := 0, slots := 0, locals := 0 } : Room)) (fun a U => a = #[(.ref a1), (.int x1), (.int (0 : Int32)), (.int (4 : Int32))] ∧ Z.Warmed39 U.vm ∧ U.heap = h0) (fun _ _ _ _ _ => True) (fun _ U o U' => ∃ v L, o = .returned v ∧ Q_rmIC4 Z a1 x1 h0 c0 c1 c2 c3 v U'.heap L ∧ FrameEnd U o U' L ({ frames := 0, cells := 0, slots := 0, locals := 0 } : Room).cells ({ frames := 0, cells := 0, slots := 0, locals := 0 } : Room).slots) := by
  refine MetFree.of_bodySF (plainFor_of_name pn1) hisR ?_
  intro p e s m args below meth c s₁ Bd hml0 hP hK
  obtain ⟨rfl, hZ, hh⟩ := hP
  have hx := Bd.exec
  have hby := Bd.bytes
  have hlk : meth.locks = false := Bd.notSynchronized
  have hml : c.maxLocals = 6 := hml0
  have hown : s.vm.findClass "java/lang/StringLatin1" = some m.cls := findClass_of_methodNamed Bd.named
  have hnm := (name_of_methodNamed Bd.named Bd.method).1
  have X0 : Stand p l e ({ frames := 0, cells := 0, slots := 0, locals := 0 } : Room) s m #[(.ref a1), (.int x1), (.int (0 : Int32)), (.int (4 : Int32))] below meth c s₁ [] 0 0 := Stand.of_body Bd
  have e0 : s₁.heap = h0 := by rw [← hh, Bd.state]; rfl
  suffices hgo : OD p e s below (Q_rmIC4 Z a1 x1 h0 c0 c1 c2 c3) ({ frames := 0, cells := 0, slots := 0, locals := 0 } : Room).cells ({ frames := 0, cells := 0, slots := 0, locals := 0 } : Room).slots (s₁.setTop (mkF m 0 #[.val (.ref a1), .val (.int x1), .val (.int (0 : Int32)), .val (.int (4 : Int32)), .unset, .unset] [])) by
    obtain ⟨s₂, o, hgo1, hgo2⟩ := hgo
    exact ⟨s₂, o, castTop (ef6 m a1 x1 (0 : Int32) (4 : Int32)) hgo1, hgo2⟩
  refine OD.go (B := (s₁.setTop (mkF m 1 #[.val (.ref a1), .val (.int x1), .val (.int (0 : Int32)), .val (.int (4 : Int32)), .unset, .unset] [(.int x1)]))) (fun t k => XS.iloadN X0.here hx rfl (hb hby d19_0) rfl k) ?_
  refine OD.go (B := (s₁.setTop (mkF m 2 #[.val (.ref a1), .val (.int x1), .val (.int (0 : Int32)), .val (.int (4 : Int32)), .unset, .unset] [(.int x1.toInt8.toInt32)]))) (fun t k => XS.i2b X0.here hx rfl (hb hby d19_1) rfl k) ?_
  refine OD.go (B := (s₁.setTop (mkF m 4 #[.val (.ref a1), .val (.int x1), .val (.int (0 : Int32)), .val (.int (4 : Int32)), .val (.int x1.toInt8.toInt32), .unset] []))) (fun t k => XS.istore X0.here hx rfl (hb hby d19_2) rfl (l' := #[.val (.ref a1), .val (.int x1), .val (.int (0 : Int32)), .val (.int (4 : Int32)), .val (.int x1.toInt8.toInt32), .unset]) rfl k) ?_
  refine OD.go (B := (s₁.setTop (mkF m 5 #[.val (.ref a1), .val (.int x1), .val (.int (0 : Int32)), .val (.int (4 : Int32)), .val (.int x1.toInt8.toInt32), .unset] [(.int (0 : Int32))]))) (fun t k => XS.iloadN X0.here hx rfl (hb hby d19_4) rfl k) ?_
  refine OD.go (B := (s₁.setTop (mkF m 7 #[.val (.ref a1), .val (.int x1), .val (.int (0 : Int32)), .val (.int (4 : Int32)), .val (.int x1.toInt8.toInt32), .val (.int (0 : Int32))] []))) (fun t k => XS.istore X0.here hx rfl (hb hby d19_5) rfl (l' := #[.val (.ref a1), .val (.int x1), .val (.int (0 : Int32)), .val (.int (4 : Int32)), .val (.int x1.toInt8.toInt32), .val (.int (0 : Int32))]) rfl k) ?_
  refine OD.go (B := (s₁.setTop (mkF m 9 #[.val (.ref a1), .val (.int x1), .val (.int (0 : Int32)), .val (.int (4 : Int32)), .val (.int x1.toInt8.toInt32), .val (.int (0 : Int32))] [(.int (0 : Int32))]))) (fun t k => XS.iload X0.here hx rfl (hb hby d19_7) rfl k) ?_
  refine OD.go (B := (s₁.setTop (mkF m 10 #[.val (.ref a1), .val (.int x1), .val (.int (0 : Int32)), .val (.int (4 : Int32)), .val (.int x1.toInt8.toInt32), .val (.int (0 : Int32))] [(.int (4 : Int32)), (.int (0 : Int32))]))) (fun t k => XS.iloadN X0.here hx rfl (hb hby d19_9) rfl k) ?_
  refine OD.go (B := (s₁.setTop (mkF m 13 #[.val (.ref a1), .val (.int x1), .val (.int (0 : Int32)), .val (.int (4 : Int32)), .val (.int x1.toInt8.toInt32), .val (.int (0 : Int32))] []))) (fun t k => XS.icmpNo X0.here hx rfl (hb hby d19_10) rfl (tlt (by decide : (0 : Int32) < (4 : Int32))).2.1 k) ?_
  refine OD.go (B := (s₁.setTop (mkF m 14 #[.val (.ref a1), .val (.int x1), .val (.int (0 : Int32)), .val (.int (4 : Int32)), .val (.int x1.toInt8.toInt32), .val (.int (0 : Int32))] [(.ref a1)]))) (fun t k => XS.aloadN X0.here hx rfl (hb hby d19_13) rfl rfl k) ?_
  refine OD.go (B := (s₁.setTop (mkF m 16 #[.val (.ref a1), .val (.int x1), .val (.int (0 : Int32)), .val (.int (4 : Int32)), .val (.int x1.toInt8.toInt32), .val (.int (0 : Int32))] [(.int (0 : Int32)), (.ref a1)]))) (fun t k => XS.iload X0.here hx rfl (hb hby d19_14) rfl k) ?_
  obtain ⟨cl1, Ar1, hi1, ha1⟩ := own_at A1 (j := (0 : Int32)) (v := (.int c0)) ⟨by decide, by decide⟩ rfl
  refine OD.go (B := (s₁.setTop (mkF m 17 #[.val (.ref a1), .val (.int x1), .val (.int (0 : Int32)), .val (.int (4 : Int32)), .val (.int x1.toInt8.toInt32), .val (.int (0 : Int32))] [(.int c0)]))) (fun t k => X0.baloadBytes hx (j := (0 : Int32)) (v := (.int c0)) (by rw [e0]; exact Ar1.1) (State.isArrayOf_alike hZ.alike Ar1.2.1) Ar1.2.2 hi1 ha1 (g := (mkF m 16 #[.val (.ref a1), .val (.int x1), .val (.int (0 : Int32)), .val (.int (4 : Int32)), .val (.int x1.toInt8.toInt32), .val (.int (0 : Int32))] [(.int (0 : Int32)), (.ref a1)])) rfl rfl (hb hby d19_16) _ k) ?_
  refine OD.go (B := (s₁.setTop (mkF m 19 #[.val (.ref a1), .val (.int x1), .val (.int (0 : Int32)), .val (.int (4 : Int32)), .val (.int x1.toInt8.toInt32), .val (.int (0 : Int32))] [(.int x1.toInt8.toInt32), (.int c0)]))) (fun t k => XS.iload X0.here hx rfl (hb hby d19_17) rfl k) ?_
  by_cases c19_2 : c0 = x1.toInt8.toInt32
  · refine OD.go (B := (s₁.setTop (mkF m 22 #[.val (.ref a1), .val (.int x1), .val (.int (0 : Int32)), .val (.int (4 : Int32)), .val (.int x1.toInt8.toInt32), .val (.int (0 : Int32))] []))) (fun t k => XS.icmpNo X0.here hx rfl (hb hby d19_19) rfl (teq c19_2).2 k) ?_
    refine OD.go (B := (s₁.setTop (mkF m 24 #[.val (.ref a1), .val (.int x1), .val (.int (0 : Int32)), .val (.int (4 : Int32)), .val (.int x1.toInt8.toInt32), .val (.int (0 : Int32))] [(.int (0 : Int32))]))) (fun t k => XS.iload X0.here hx rfl (hb hby d19_22) rfl k) ?_
    have fin : (own_ix4 c0 c1 c2 c3 x1) = (0 : Int32) := by unfold own_ix4; rw [if_pos c19_2]
    exact OD.ret X0 hx hlk (t := .int) Bd.returns rfl (Or.inl ⟨rfl, Or.inl rfl, _, rfl⟩) (hb hby d19_24) (Nat.le_of_ble_eq_true rfl) (Nat.le_of_ble_eq_true rfl) ⟨by rw [fin], rfl, e0⟩
  · refine OD.go (B := (s₁.setTop (mkF m 25 #[.val (.ref a1), .val (.int x1), .val (.int (0 : Int32)), .val (.int (4 : Int32)), .val (.int x1.toInt8.toInt32), .val (.int (0 : Int32))] []))) (fun t k => XS.icmpYes X0.here hx rfl (pc0 := 19) (pc' := 25) rfl (hb hby d19_19) rfl (feq c19_2).2 (by decide) (by decide) k) ?_
    refine OD.go (B := (s₁.setTop (mkF m 28 #[.val (.ref a1), .val (.int x1), .val (.int (0 : Int32)), .val (.int (4 : Int32)), .val (.int x1.toInt8.toInt32), .val (.int (1 : Int32))] []))) (fun t k => XS.iinc X0.here hx rfl (hb hby d19_25) rfl (l' := #[.val (.ref a1), .val (.int x1), .val (.int (0 : Int32)), .val (.int (4 : Int32)), .val (.int x1.toInt8.toInt32), .val (.int (1 : Int32))]) rfl k) ?_
    refine OD.go (B := (s₁.setTop (mkF m 7 #[.val (.ref a1), .val (.int x1), .val (.int (0 : Int32)), .val (.int (4 : Int32)), .val (.int x1.toInt8.toInt32), .val (.int (1 : Int32))] []))) (fun t k => XS.goto X0.here hx rfl (pc0 := 28) (pc' := 7) rfl (hb hby d19_28) (by decide) (by decide) k) ?_
    refine OD.go (B := (s₁.setTop (mkF m 9 #[.val (.ref a1), .val (.int x1), .val (.int (0 : Int32)), .val (.int (4 : Int32)), .val (.int x1.toInt8.toInt32), .val (.int (1 : Int32))] [(.int (1 : Int32))]))) (fun t k => XS.iload X0.here hx rfl (hb hby d19_7) rfl k) ?_
    refine OD.go (B := (s₁.setTop (mkF m 10 #[.val (.ref a1), .val (.int x1), .val (.int (0 : Int32)), .val (.int (4 : Int32)), .val (.int x1.toInt8.toInt32), .val (.int (1 : Int32))] [(.int (4 : Int32)), (.int (1 : Int32))]))) (fun t k => XS.iloadN X0.here hx rfl (hb hby d19_9) rfl k) ?_
    refine OD.go (B := (s₁.setTop (mkF m 13 #[.val (.ref a1), .val (.int x1), .val (.int (0 : Int32)), .val (.int (4 : Int32)), .val (.int x1.toInt8.toInt32), .val (.int (1 : Int32))] []))) (fun t k => XS.icmpNo X0.here hx rfl (hb hby d19_10) rfl (tlt (by decide : (1 : Int32) < (4 : Int32))).2.1 k) ?_
    refine OD.go (B := (s₁.setTop (mkF m 14 #[.val (.ref a1), .val (.int x1), .val (.int (0 : Int32)), .val (.int (4 : Int32)), .val (.int x1.toInt8.toInt32), .val (.int (1 : Int32))] [(.ref a1)]))) (fun t k => XS.aloadN X0.here hx rfl (hb hby d19_13) rfl rfl k) ?_
    refine OD.go (B := (s₁.setTop (mkF m 16 #[.val (.ref a1), .val (.int x1), .val (.int (0 : Int32)), .val (.int (4 : Int32)), .val (.int x1.toInt8.toInt32), .val (.int (1 : Int32))] [(.int (1 : Int32)), (.ref a1)]))) (fun t k => XS.iload X0.here hx rfl (hb hby d19_14) rfl k) ?_
    obtain ⟨cl3, Ar3, hi3, ha3⟩ := own_at A1 (j := (1 : Int32)) (v := (.int c1)) ⟨by decide, by decide⟩ rfl
    refine OD.go (B := (s₁.setTop (mkF m 17 #[.val (.ref a1), .val (.int x1), .val (.int (0 : Int32)), .val (.int (4 : Int32)), .val (.int x1.toInt8.toInt32), .val (.int (1 : Int32))] [(.int c1)]))) (fun t k => X0.baloadBytes hx (j := (1 : Int32)) (v := (.int c1)) (by rw [e0]; exact Ar3.1) (State.isArrayOf_alike hZ.alike Ar3.2.1) Ar3.2.2 hi3 ha3 (g := (mkF m 16 #[.val (.ref a1), .val (.int x1), .val (.int (0 : Int32)), .val (.int (4 : Int32)), .val (.int x1.toInt8.toInt32), .val (.int (1 : Int32))] [(.int (1 : Int32)), (.ref a1)])) rfl rfl (hb hby d19_16) _ k) ?_
    refine OD.go (B := (s₁.setTop (mkF m 19 #[.val (.ref a1), .val (.int x1), .val (.int (0 : Int32)), .val (.int (4 : Int32)), .val (.int x1.toInt8.toInt32), .val (.int (1 : Int32))] [(.int x1.toInt8.toInt32), (.int c1)]))) (fun t k => XS.iload X0.here hx rfl (hb hby d19_17) rfl k) ?_
    by_cases c19_4 : c1 = x1.toInt8.toInt32
    · refine OD.go (B := (s₁.setTop (mkF m 22 #[.val (.ref a1), .val (.int x1), .val (.int (0 : Int32)), .val (.int (4 : Int32)), .val (.int x1.toInt8.toInt32), .val (.int (1 : Int32))] []))) (fun t k => XS.icmpNo X0.here hx rfl (hb hby d19_19) rfl (teq c19_4).2 k) ?_
      refine OD.go (B := (s₁.setTop (mkF m 24 #[.val (.ref a1), .val (.int x1), .val (.int (0 : Int32)), .val (.int (4 : Int32)), .val (.int x1.toInt8.toInt32), .val (.int (1 : Int32))] [(.int (1 : Int32))]))) (fun t k => XS.iload X0.here hx rfl (hb hby d19_22) rfl k) ?_
      have fin : (own_ix4 c0 c1 c2 c3 x1) = (1 : Int32) := by unfold own_ix4; rw [if_neg c19_2, if_pos c19_4]
      exact OD.ret X0 hx hlk (t := .int) Bd.returns rfl (Or.inl ⟨rfl, Or.inl rfl, _, rfl⟩) (hb hby d19_24) (Nat.le_of_ble_eq_true rfl) (Nat.le_of_ble_eq_true rfl) ⟨by rw [fin], rfl, e0⟩
    · refine OD.go (B := (s₁.setTop (mkF m 25 #[.val (.ref a1), .val (.int x1), .val (.int (0 : Int32)), .val (.int (4 : Int32)), .val (.int x1.toInt8.toInt32), .val (.int (1 : Int32))] []))) (fun t k => XS.icmpYes X0.here hx rfl (pc0 := 19) (pc' := 25) rfl (hb hby d19_19) rfl (feq c19_4).2 (by decide) (by decide) k) ?_
      refine OD.go (B := (s₁.setTop (mkF m 28 #[.val (.ref a1), .val (.int x1), .val (.int (0 : Int32)), .val (.int (4 : Int32)), .val (.int x1.toInt8.toInt32), .val (.int (2 : Int32))] []))) (fun t k => XS.iinc X0.here hx rfl (hb hby d19_25) rfl (l' := #[.val (.ref a1), .val (.int x1), .val (.int (0 : Int32)), .val (.int (4 : Int32)), .val (.int x1.toInt8.toInt32), .val (.int (2 : Int32))]) rfl k) ?_
      refine OD.go (B := (s₁.setTop (mkF m 7 #[.val (.ref a1), .val (.int x1), .val (.int (0 : Int32)), .val (.int (4 : Int32)), .val (.int x1.toInt8.toInt32), .val (.int (2 : Int32))] []))) (fun t k => XS.goto X0.here hx rfl (pc0 := 28) (pc' := 7) rfl (hb hby d19_28) (by decide) (by decide) k) ?_
      refine OD.go (B := (s₁.setTop (mkF m 9 #[.val (.ref a1), .val (.int x1), .val (.int (0 : Int32)), .val (.int (4 : Int32)), .val (.int x1.toInt8.toInt32), .val (.int (2 : Int32))] [(.int (2 : Int32))]))) (fun t k => XS.iload X0.here hx rfl (hb hby d19_7) rfl k) ?_
      refine OD.go (B := (s₁.setTop (mkF m 10 #[.val (.ref a1), .val (.int x1), .val (.int (0 : Int32)), .val (.int (4 : Int32)), .val (.int x1.toInt8.toInt32), .val (.int (2 : Int32))] [(.int (4 : Int32)), (.int (2 : Int32))]))) (fun t k => XS.iloadN X0.here hx rfl (hb hby d19_9) rfl k) ?_
      refine OD.go (B := (s₁.setTop (mkF m 13 #[.val (.ref a1), .val (.int x1), .val (.int (0 : Int32)), .val (.int (4 : Int32)), .val (.int x1.toInt8.toInt32), .val (.int (2 : Int32))] []))) (fun t k => XS.icmpNo X0.here hx rfl (hb hby d19_10) rfl (tlt (by decide : (2 : Int32) < (4 : Int32))).2.1 k) ?_
      refine OD.go (B := (s₁.setTop (mkF m 14 #[.val (.ref a1), .val (.int x1), .val (.int (0 : Int32)), .val (.int (4 : Int32)), .val (.int x1.toInt8.toInt32), .val (.int (2 : Int32))] [(.ref a1)]))) (fun t k => XS.aloadN X0.here hx rfl (hb hby d19_13) rfl rfl k) ?_
      refine OD.go (B := (s₁.setTop (mkF m 16 #[.val (.ref a1), .val (.int x1), .val (.int (0 : Int32)), .val (.int (4 : Int32)), .val (.int x1.toInt8.toInt32), .val (.int (2 : Int32))] [(.int (2 : Int32)), (.ref a1)]))) (fun t k => XS.iload X0.here hx rfl (hb hby d19_14) rfl k) ?_
      obtain ⟨cl5, Ar5, hi5, ha5⟩ := own_at A1 (j := (2 : Int32)) (v := (.int c2)) ⟨by decide, by decide⟩ rfl
      refine OD.go (B := (s₁.setTop (mkF m 17 #[.val (.ref a1), .val (.int x1), .val (.int (0 : Int32)), .val (.int (4 : Int32)), .val (.int x1.toInt8.toInt32), .val (.int (2 : Int32))] [(.int c2)]))) (fun t k => X0.baloadBytes hx (j := (2 : Int32)) (v := (.int c2)) (by rw [e0]; exact Ar5.1) (State.isArrayOf_alike hZ.alike Ar5.2.1) Ar5.2.2 hi5 ha5 (g := (mkF m 16 #[.val (.ref a1), .val (.int x1), .val (.int (0 : Int32)), .val (.int (4 : Int32)), .val (.int x1.toInt8.toInt32), .val (.int (2 : Int32))] [(.int (2 : Int32)), (.ref a1)])) rfl rfl (hb hby d19_16) _ k) ?_
      refine OD.go (B := (s₁.setTop (mkF m 19 #[.val (.ref a1), .val (.int x1), .val (.int (0 : Int32)), .val (.int (4 : Int32)), .val (.int x1.toInt8.toInt32), .val (.int (2 : Int32))] [(.int x1.toInt8.toInt32), (.int c2)]))) (fun t k => XS.iload X0.here hx rfl (hb hby d19_17) rfl k) ?_
      by_cases c19_6 : c2 = x1.toInt8.toInt32
      · refine OD.go (B := (s₁.setTop (mkF m 22 #[.val (.ref a1), .val (.int x1), .val (.int (0 : Int32)), .val (.int (4 : Int32)), .val (.int x1.toInt8.toInt32), .val (.int (2 : Int32))] []))) (fun t k => XS.icmpNo X0.here hx rfl (hb hby d19_19) rfl (teq c19_6).2 k) ?_
        refine OD.go (B := (s₁.setTop (mkF m 24 #[.val (.ref a1), .val (.int x1), .val (.int (0 : Int32)), .val (.int (4 : Int32)), .val (.int x1.toInt8.toInt32), .val (.int (2 : Int32))] [(.int (2 : Int32))]))) (fun t k => XS.iload X0.here hx rfl (hb hby d19_22) rfl k) ?_
        have fin : (own_ix4 c0 c1 c2 c3 x1) = (2 : Int32) := by unfold own_ix4; rw [if_neg c19_2, if_neg c19_4, if_pos c19_6]
        exact OD.ret X0 hx hlk (t := .int) Bd.returns rfl (Or.inl ⟨rfl, Or.inl rfl, _, rfl⟩) (hb hby d19_24) (Nat.le_of_ble_eq_true rfl) (Nat.le_of_ble_eq_true rfl) ⟨by rw [fin], rfl, e0⟩
      · refine OD.go (B := (s₁.setTop (mkF m 25 #[.val (.ref a1), .val (.int x1), .val (.int (0 : Int32)), .val (.int (4 : Int32)), .val (.int x1.toInt8.toInt32), .val (.int (2 : Int32))] []))) (fun t k => XS.icmpYes X0.here hx rfl (pc0 := 19) (pc' := 25) rfl (hb hby d19_19) rfl (feq c19_6).2 (by decide) (by decide) k) ?_
        refine OD.go (B := (s₁.setTop (mkF m 28 #[.val (.ref a1), .val (.int x1), .val (.int (0 : Int32)), .val (.int (4 : Int32)), .val (.int x1.toInt8.toInt32), .val (.int (3 : Int32))] []))) (fun t k => XS.iinc X0.here hx rfl (hb hby d19_25) rfl (l' := #[.val (.ref a1), .val (.int x1), .val (.int (0 : Int32)), .val (.int (4 : Int32)), .val (.int x1.toInt8.toInt32), .val (.int (3 : Int32))]) rfl k) ?_
        refine OD.go (B := (s₁.setTop (mkF m 7 #[.val (.ref a1), .val (.int x1), .val (.int (0 : Int32)), .val (.int (4 : Int32)), .val (.int x1.toInt8.toInt32), .val (.int (3 : Int32))] []))) (fun t k => XS.goto X0.here hx rfl (pc0 := 28) (pc' := 7) rfl (hb hby d19_28) (by decide) (by decide) k) ?_
        refine OD.go (B := (s₁.setTop (mkF m 9 #[.val (.ref a1), .val (.int x1), .val (.int (0 : Int32)), .val (.int (4 : Int32)), .val (.int x1.toInt8.toInt32), .val (.int (3 : Int32))] [(.int (3 : Int32))]))) (fun t k => XS.iload X0.here hx rfl (hb hby d19_7) rfl k) ?_
        refine OD.go (B := (s₁.setTop (mkF m 10 #[.val (.ref a1), .val (.int x1), .val (.int (0 : Int32)), .val (.int (4 : Int32)), .val (.int x1.toInt8.toInt32), .val (.int (3 : Int32))] [(.int (4 : Int32)), (.int (3 : Int32))]))) (fun t k => XS.iloadN X0.here hx rfl (hb hby d19_9) rfl k) ?_
        refine OD.go (B := (s₁.setTop (mkF m 13 #[.val (.ref a1), .val (.int x1), .val (.int (0 : Int32)), .val (.int (4 : Int32)), .val (.int x1.toInt8.toInt32), .val (.int (3 : Int32))] []))) (fun t k => XS.icmpNo X0.here hx rfl (hb hby d19_10) rfl (tlt (by decide : (3 : Int32) < (4 : Int32))).2.1 k) ?_
        refine OD.go (B := (s₁.setTop (mkF m 14 #[.val (.ref a1), .val (.int x1), .val (.int (0 : Int32)), .val (.int (4 : Int32)), .val (.int x1.toInt8.toInt32), .val (.int (3 : Int32))] [(.ref a1)]))) (fun t k => XS.aloadN X0.here hx rfl (hb hby d19_13) rfl rfl k) ?_
        refine OD.go (B := (s₁.setTop (mkF m 16 #[.val (.ref a1), .val (.int x1), .val (.int (0 : Int32)), .val (.int (4 : Int32)), .val (.int x1.toInt8.toInt32), .val (.int (3 : Int32))] [(.int (3 : Int32)), (.ref a1)]))) (fun t k => XS.iload X0.here hx rfl (hb hby d19_14) rfl k) ?_
        obtain ⟨cl7, Ar7, hi7, ha7⟩ := own_at A1 (j := (3 : Int32)) (v := (.int c3)) ⟨by decide, by decide⟩ rfl
        refine OD.go (B := (s₁.setTop (mkF m 17 #[.val (.ref a1), .val (.int x1), .val (.int (0 : Int32)), .val (.int (4 : Int32)), .val (.int x1.toInt8.toInt32), .val (.int (3 : Int32))] [(.int c3)]))) (fun t k => X0.baloadBytes hx (j := (3 : Int32)) (v := (.int c3)) (by rw [e0]; exact Ar7.1) (State.isArrayOf_alike hZ.alike Ar7.2.1) Ar7.2.2 hi7 ha7 (g := (mkF m 16 #[.val (.ref a1), .val (.int x1), .val (.int (0 : Int32)), .val (.int (4 : Int32)), .val (.int x1.toInt8.toInt32), .val (.int (3 : Int32))] [(.int (3 : Int32)), (.ref a1)])) rfl rfl (hb hby d19_16) _ k) ?_
        refine OD.go (B := (s₁.setTop (mkF m 19 #[.val (.ref a1), .val (.int x1), .val (.int (0 : Int32)), .val (.int (4 : Int32)), .val (.int x1.toInt8.toInt32), .val (.int (3 : Int32))] [(.int x1.toInt8.toInt32), (.int c3)]))) (fun t k => XS.iload X0.here hx rfl (hb hby d19_17) rfl k) ?_
        by_cases c19_8 : c3 = x1.toInt8.toInt32
        · refine OD.go (B := (s₁.setTop (mkF m 22 #[.val (.ref a1), .val (.int x1), .val (.int (0 : Int32)), .val (.int (4 : Int32)), .val (.int x1.toInt8.toInt32), .val (.int (3 : Int32))] []))) (fun t k => XS.icmpNo X0.here hx rfl (hb hby d19_19) rfl (teq c19_8).2 k) ?_
          refine OD.go (B := (s₁.setTop (mkF m 24 #[.val (.ref a1), .val (.int x1), .val (.int (0 : Int32)), .val (.int (4 : Int32)), .val (.int x1.toInt8.toInt32), .val (.int (3 : Int32))] [(.int (3 : Int32))]))) (fun t k => XS.iload X0.here hx rfl (hb hby d19_22) rfl k) ?_
          have fin : (own_ix4 c0 c1 c2 c3 x1) = (3 : Int32) := by unfold own_ix4; rw [if_neg c19_2, if_neg c19_4, if_neg c19_6, if_pos c19_8]
          exact OD.ret X0 hx hlk (t := .int) Bd.returns rfl (Or.inl ⟨rfl, Or.inl rfl, _, rfl⟩) (hb hby d19_24) (Nat.le_of_ble_eq_true rfl) (Nat.le_of_ble_eq_true rfl) ⟨by rw [fin], rfl, e0⟩
        · refine OD.go (B := (s₁.setTop (mkF m 25 #[.val (.ref a1), .val (.int x1), .val (.int (0 : Int32)), .val (.int (4 : Int32)), .val (.int x1.toInt8.toInt32), .val (.int (3 : Int32))] []))) (fun t k => XS.icmpYes X0.here hx rfl (pc0 := 19) (pc' := 25) rfl (hb hby d19_19) rfl (feq c19_8).2 (by decide) (by decide) k) ?_
          refine OD.go (B := (s₁.setTop (mkF m 28 #[.val (.ref a1), .val (.int x1), .val (.int (0 : Int32)), .val (.int (4 : Int32)), .val (.int x1.toInt8.toInt32), .val (.int (4 : Int32))] []))) (fun t k => XS.iinc X0.here hx rfl (hb hby d19_25) rfl (l' := #[.val (.ref a1), .val (.int x1), .val (.int (0 : Int32)), .val (.int (4 : Int32)), .val (.int x1.toInt8.toInt32), .val (.int (4 : Int32))]) rfl k) ?_
          refine OD.go (B := (s₁.setTop (mkF m 7 #[.val (.ref a1), .val (.int x1), .val (.int (0 : Int32)), .val (.int (4 : Int32)), .val (.int x1.toInt8.toInt32), .val (.int (4 : Int32))] []))) (fun t k => XS.goto X0.here hx rfl (pc0 := 28) (pc' := 7) rfl (hb hby d19_28) (by decide) (by decide) k) ?_
          refine OD.go (B := (s₁.setTop (mkF m 9 #[.val (.ref a1), .val (.int x1), .val (.int (0 : Int32)), .val (.int (4 : Int32)), .val (.int x1.toInt8.toInt32), .val (.int (4 : Int32))] [(.int (4 : Int32))]))) (fun t k => XS.iload X0.here hx rfl (hb hby d19_7) rfl k) ?_
          refine OD.go (B := (s₁.setTop (mkF m 10 #[.val (.ref a1), .val (.int x1), .val (.int (0 : Int32)), .val (.int (4 : Int32)), .val (.int x1.toInt8.toInt32), .val (.int (4 : Int32))] [(.int (4 : Int32)), (.int (4 : Int32))]))) (fun t k => XS.iloadN X0.here hx rfl (hb hby d19_9) rfl k) ?_
          refine OD.go (B := (s₁.setTop (mkF m 31 #[.val (.ref a1), .val (.int x1), .val (.int (0 : Int32)), .val (.int (4 : Int32)), .val (.int x1.toInt8.toInt32), .val (.int (4 : Int32))] []))) (fun t k => XS.icmpYes X0.here hx rfl (pc0 := 10) (pc' := 31) rfl (hb hby d19_10) rfl (flt (by decide : ¬ (4 : Int32) < (4 : Int32))).2.1 (by decide) (by decide) k) ?_
          refine OD.go (B := (s₁.setTop (mkF m 32 #[.val (.ref a1), .val (.int x1), .val (.int (0 : Int32)), .val (.int (4 : Int32)), .val (.int x1.toInt8.toInt32), .val (.int (4 : Int32))] [(.int (-1 : Int32))]))) (fun t k => XS.iconst X0.here hx rfl (hb hby d19_31) k) ?_
          have fin : (own_ix4 c0 c1 c2 c3 x1) = (-1 : Int32) := by unfold own_ix4; rw [if_neg c19_2, if_neg c19_4, if_neg c19_6, if_neg c19_8]
          exact OD.ret X0 hx hlk (t := .int) Bd.returns rfl (Or.inl ⟨rfl, Or.inl rfl, _, rfl⟩) (hb hby d19_32) (Nat.le_of_ble_eq_true rfl) (Nat.le_of_ble_eq_true rfl) ⟨by rw [fin], rfl, e0⟩
def Q_rmLI4 (Z : State) (a1 : Addr) (x1 : Int32) (h0 : Heap) (c0 c1 c2 c3 : Int32) (v : Option Value) (h : Heap) (L : List Loc) : Prop := v = some (.int (own_li4 c0 c1 c2 c3 x1)) ∧ L = [] ∧ h = h0
set_option maxRecDepth 65536 in
set_option maxHeartbeats 40000000 in
theorem rmLI4 (l : Launch) (Z : State) (a0 : Array Value) (hw : ∀ d ∈ tables_1, d.before a0 Z = true) (ws : List Jvm.Cond) (a1 : Addr) (x1 : Int32) (h0 : Heap) (kt : ClassId) (c0 c1 c2 c3 : Int32) (A1 : Arv Z h0 a1 kt .byte (4 : Int32) [(.int c0), (.int c1), (.int c2), (.int c3)] (.int 0)) :
    MetFree l (⟨"java/lang/StringLatin1", "indexOf", "([BIII)I"⟩ : MethodName) (head1 (Jvm.Cond.code (⟨"java/lang/StringLatin1", "indexOf", "([BIII)I"⟩ : MethodName) jdk_43_method_22_code 4 (some .int) :: ws) ({ frames := 1, cells := 0, slots := 0, locals := 20 } : Room)) (fun a U => a = #[(.ref a1), (.int x1), (.int (0 : Int32)), (.int (4 : Int32))] ∧ Z.Warmed39 U.vm ∧ U.heap = h0) (fun _ _ _ _ _ => True) (fun _ U o U' => ∃ v L, o = .returned v ∧ Q_rmLI4 Z a1 x1 h0 c0 c1 c2 c3 v U'.heap L ∧ FrameEnd U o U' L ({ frames := 1, cells := 0, slots := 0, locals := 20 } : Room).cells ({ frames := 1, cells := 0, slots := 0, locals := 20 } : Room).slots) := by
  refine MetFree.of_bodySF (plainFor_of_name pn1) hisR ?_
  intro p e s m args below meth c s₁ Bd hml0 hP hK
  obtain ⟨rfl, hZ, hh⟩ := hP
  have hx := Bd.exec
  have hby := Bd.bytes
  have hlk : meth.locks = false := Bd.notSynchronized
  have hml : c.maxLocals = 4 := hml0
  have hown : s.vm.findClass "java/lang/StringLatin1" = some m.cls := findClass_of_methodNamed Bd.named
  have hnm := (name_of_methodNamed Bd.named Bd.method).1
  have X0 : Stand p l e ({ frames := 1, cells := 0, slots := 0, locals := 20 } : Room) s m #[(.ref a1), (.int x1), (.int (0 : Int32)), (.int (4 : Int32))] below meth c s₁ [] 0 0 := Stand.of_body Bd
  have e0 : s₁.heap = h0 := by rw [← hh, Bd.state]; rfl
  suffices hgo : OD p e s below (Q_rmLI4 Z a1 x1 h0 c0 c1 c2 c3) ({ frames := 1, cells := 0, slots := 0, locals := 20 } : Room).cells ({ frames := 1, cells := 0, slots := 0, locals := 20 } : Room).slots (s₁.setTop (mkF m 0 #[.val (.ref a1), .val (.int x1), .val (.int (0 : Int32)), .val (.int (4 : Int32))] [])) by
    obtain ⟨s₂, o, hgo1, hgo2⟩ := hgo
    exact ⟨s₂, o, castTop (ef5 m a1 x1 (0 : Int32) (4 : Int32)) hgo1, hgo2⟩
  refine OD.go (B := (s₁.setTop (mkF m 1 #[.val (.ref a1), .val (.int x1), .val (.int (0 : Int32)), .val (.int (4 : Int32))] [(.int x1)]))) (fun t k => XS.iloadN X0.here hx rfl (hb hby d15_0) rfl k) ?_
  obtain ⟨_, _, ⟨T1, L1, k1, n1⟩, -, X1, ⟨Lc1, hQ1, l1, y1, z1⟩, st1⟩ := Jvm.LawKit.callS X0 hx (y := (⟨"java/lang/StringLatin1", "canEncode", "(I)Z"⟩ : MethodName)) hown (mvT hZ (Wd73 hw)) (mvT hZ (Wd74 hw)) (mvT hZ (Wd71 hw)) (mvT hZ (Wd75 hw)) (by decide) (backOf (W := 0) (rmCEi l Z a0 hw [] x1 h0) hZ (Wd75 hw) (Wd71 hw) (by decide) (by decide)) (g := (mkF m 1 #[.val (.ref a1), .val (.int x1), .val (.int (0 : Int32)), .val (.int (4 : Int32))] [(.int x1)])) rfl (by rw [hml]; rfl) (argsL := [(.int x1)]) (rest := []) (lenOf pd2 rfl) rfl (by show 2 * 0 + _ ≤ _; exact Nat.le_of_eq rfl) (hb hby d15_1) (fun _ _ => ⟨rfl, e0, (Nat.le_of_ble_eq_true rfl), (Nat.le_of_ble_eq_true rfl)⟩)
  dsimp only [Pt.U, Pt.locs, Pt.cells, Pt.slots] at X1 l1 y1 z1 st1 hQ1
  subst l1 y1 z1
  obtain ⟨rfl, rfl, e1⟩ := hQ1
  refine OD.go (B := (T1.setTop (mkF m 4 #[.val (.ref a1), .val (.int x1), .val (.int (0 : Int32)), .val (.int (4 : Int32))] [(.int (own_ce x1))]))) st1 ?_
  by_cases c4_2 : (own_ce x1) = (0 : Int32)
  · refine OD.go (B := (T1.setTop (mkF m 7 #[.val (.ref a1), .val (.int x1), .val (.int (0 : Int32)), .val (.int (4 : Int32))] []))) (fun t k => XS.ifNo X1.here hx rfl (hb hby d15_4) rfl (by rw [if0]; exact (teq c4_2).2) k) ?_
    refine OD.go (B := (T1.setTop (mkF m 8 #[.val (.ref a1), .val (.int x1), .val (.int (0 : Int32)), .val (.int (4 : Int32))] [(.int (-1 : Int32))]))) (fun t k => XS.iconst X1.here hx rfl (hb hby d15_7) k) ?_
    have fin : (own_li4 c0 c1 c2 c3 x1) = (-1 : Int32) := by unfold own_li4; rw [if_pos c4_2]
    exact OD.ret X1 hx hlk (t := .int) Bd.returns rfl (Or.inl ⟨rfl, Or.inl rfl, _, rfl⟩) (hb hby d15_8) (Nat.le_of_ble_eq_true rfl) (Nat.le_of_ble_eq_true rfl) ⟨by rw [fin], rfl, e1⟩
  · refine OD.go (B := (T1.setTop (mkF m 9 #[.val (.ref a1), .val (.int x1), .val (.int (0 : Int32)), .val (.int (4 : Int32))] []))) (fun t k => XS.ifYes X1.here hx rfl (pc0 := 4) (pc' := 9) rfl (hb hby d15_4) rfl (by rw [if0]; exact (feq c4_2).2) (by decide) (by decide) k) ?_
    refine OD.go (B := (T1.setTop (mkF m 10 #[.val (.ref a1), .val (.int x1), .val (.int (0 : Int32)), .val (.int (4 : Int32))] [(.int (0 : Int32))]))) (fun t k => XS.iloadN X1.here hx rfl (hb hby d15_9) rfl k) ?_
    refine OD.go (B := (T1.setTop (mkF m 11 #[.val (.ref a1), .val (.int x1), .val (.int (0 : Int32)), .val (.int (4 : Int32))] [(.int (0 : Int32)), (.int (0 : Int32))]))) (fun t k => XS.iconst X1.here hx rfl (hb hby d15_10) k) ?_
    obtain ⟨_, _, ⟨T3, L3, k3, n3⟩, -, X3, ⟨Lc3, hQ3, l3, y3, z3⟩, st3⟩ := Jvm.LawKit.callS X1 hx (y := (⟨"java/lang/Math", "max", "(II)I"⟩ : MethodName)) hown (mvT hZ (Wd76 hw)) (mvT hZ (Wd77 hw)) (mvT hZ (Wd78 hw)) (mvT hZ (Wd79 hw)) (by decide) (backOf (W := 0) (rmMx00 l Z a0 hw [] h0) hZ (Wd79 hw) (Wd78 hw) (by decide) (by decide)) (g := (mkF m 11 #[.val (.ref a1), .val (.int x1), .val (.int (0 : Int32)), .val (.int (4 : Int32))] [(.int (0 : Int32)), (.int (0 : Int32))])) rfl (by rw [hml]; rfl) (argsL := [(.int (0 : Int32)), (.int (0 : Int32))]) (rest := []) (lenOf pd3 rfl) rfl (by show 2 * 0 + _ ≤ _; exact Nat.le_of_eq rfl) (hb hby d15_11) (fun _ _ => ⟨rfl, e1, (Nat.le_of_ble_eq_true rfl), (Nat.le_of_ble_eq_true rfl)⟩)
    dsimp only [Pt.U, Pt.locs, Pt.cells, Pt.slots] at X3 l3 y3 z3 st3 hQ3
    subst l3 y3 z3
    obtain ⟨rfl, rfl, e3⟩ := hQ3
    refine OD.go (B := (T3.setTop (mkF m 14 #[.val (.ref a1), .val (.int x1), .val (.int (0 : Int32)), .val (.int (4 : Int32))] [(.int (0 : Int32))]))) st3 ?_
    refine OD.go (B := (T3.setTop (mkF m 15 #[.val (.ref a1), .val (.int x1), .val (.int (0 : Int32)), .val (.int (4 : Int32))] []))) (fun t k => XS.istoreN X3.here hx rfl (hb hby d15_14) rfl (l' := #[.val (.ref a1), .val (.int x1), .val (.int (0 : Int32)), .val (.int (4 : Int32))]) rfl k) ?_
    refine OD.go (B := (T3.setTop (mkF m 16 #[.val (.ref a1), .val (.int x1), .val (.int (0 : Int32)), .val (.int (4 : Int32))] [(.int (4 : Int32))]))) (fun t k => XS.iloadN X3.here hx rfl (hb hby d15_15) rfl k) ?_
    refine OD.go (B := (T3.setTop (mkF m 17 #[.val (.ref a1), .val (.int x1), .val (.int (0 : Int32)), .val (.int (4 : Int32))] [(.ref a1), (.int (4 : Int32))]))) (fun t k => XS.aloadN X3.here hx rfl (hb hby d15_16) rfl rfl k) ?_
    obtain ⟨cl4, Ar4, hl4⟩ := own_len A1
    refine OD.go (B := (T3.setTop (mkF m 18 #[.val (.ref a1), .val (.int x1), .val (.int (0 : Int32)), .val (.int (4 : Int32))] [(.int (4 : Int32)), (.int (4 : Int32))]))) (fun t k => X3.arraylength hx (by rw [e3]; exact Ar4.1) (State.isArrayOf_alike hZ.alike Ar4.2.1) (g := (mkF m 17 #[.val (.ref a1), .val (.int x1), .val (.int (0 : Int32)), .val (.int (4 : Int32))] [(.ref a1), (.int (4 : Int32))])) rfl rfl (hb hby d15_17) _ (by rw [hl4]; exact k)) ?_
    obtain ⟨_, _, ⟨T5, L5, k5, n5⟩, -, X5, ⟨Lc5, hQ5, l5, y5, z5⟩, st5⟩ := Jvm.LawKit.callS X3 hx (y := (⟨"java/lang/Math", "min", "(II)I"⟩ : MethodName)) hown (mvT hZ (Wd80 hw)) (mvT hZ (Wd81 hw)) (mvT hZ (Wd78 hw)) (mvT hZ (Wd82 hw)) (by decide) (backOf (W := 0) (rmMn4 l Z a0 hw [] h0) hZ (Wd82 hw) (Wd78 hw) (by decide) (by decide)) (g := (mkF m 18 #[.val (.ref a1), .val (.int x1), .val (.int (0 : Int32)), .val (.int (4 : Int32))] [(.int (4 : Int32)), (.int (4 : Int32))])) rfl (by rw [hml]; rfl) (argsL := [(.int (4 : Int32)), (.int (4 : Int32))]) (rest := []) (lenOf pd3 rfl) rfl (by show 2 * 0 + _ ≤ _; exact Nat.le_of_eq rfl) (hb hby d15_18) (fun _ _ => ⟨rfl, e3, (Nat.le_of_ble_eq_true rfl), (Nat.le_of_ble_eq_true rfl)⟩)
    dsimp only [Pt.U, Pt.locs, Pt.cells, Pt.slots] at X5 l5 y5 z5 st5 hQ5
    subst l5 y5 z5
    obtain ⟨rfl, rfl, e5⟩ := hQ5
    refine OD.go (B := (T5.setTop (mkF m 21 #[.val (.ref a1), .val (.int x1), .val (.int (0 : Int32)), .val (.int (4 : Int32))] [(.int (4 : Int32))]))) st5 ?_
    refine OD.go (B := (T5.setTop (mkF m 22 #[.val (.ref a1), .val (.int x1), .val (.int (0 : Int32)), .val (.int (4 : Int32))] []))) (fun t k => XS.istoreN X5.here hx rfl (hb hby d15_21) rfl (l' := #[.val (.ref a1), .val (.int x1), .val (.int (0 : Int32)), .val (.int (4 : Int32))]) rfl k) ?_
    refine OD.go (B := (T5.setTop (mkF m 23 #[.val (.ref a1), .val (.int x1), .val (.int (0 : Int32)), .val (.int (4 : Int32))] [(.int (0 : Int32))]))) (fun t k => XS.iloadN X5.here hx rfl (hb hby d15_22) rfl k) ?_
    refine OD.go (B := (T5.setTop (mkF m 24 #[.val (.ref a1), .val (.int x1), .val (.int (0 : Int32)), .val (.int (4 : Int32))] [(.int (4 : Int32)), (.int (0 : Int32))]))) (fun t k => XS.iloadN X5.here hx rfl (hb hby d15_23) rfl k) ?_
    refine OD.go (B := (T5.setTop (mkF m 29 #[.val (.ref a1), .val (.int x1), .val (.int (0 : Int32)), .val (.int (4 : Int32))] []))) (fun t k => XS.icmpYes X5.here hx rfl (pc0 := 24) (pc' := 29) rfl (hb hby d15_24) rfl (tlt (by decide : (0 : Int32) < (4 : Int32))).1 (by decide) (by decide) k) ?_
    refine OD.go (B := (T5.setTop (mkF m 30 #[.val (.ref a1), .val (.int x1), .val (.int (0 : Int32)), .val (.int (4 : Int32))] [(.ref a1)]))) (fun t k => XS.aloadN X5.here hx rfl (hb hby d15_29) rfl rfl k) ?_
    refine OD.go (B := (T5.setTop (mkF m 31 #[.val (.ref a1), .val (.int x1), .val (.int (0 : Int32)), .val (.int (4 : Int32))] [(.int x1), (.ref a1)]))) (fun t k => XS.iloadN X5.here hx rfl (hb hby d15_30) rfl k) ?_
    refine OD.go (B := (T5.setTop (mkF m 32 #[.val (.ref a1), .val (.int x1), .val (.int (0 : Int32)), .val (.int (4 : Int32))] [(.int (0 : Int32)), (.int x1), (.ref a1)]))) (fun t k => XS.iloadN X5.here hx rfl (hb hby d15_31) rfl k) ?_
    refine OD.go (B := (T5.setTop (mkF m 33 #[.val (.ref a1), .val (.int x1), .val (.int (0 : Int32)), .val (.int (4 : Int32))] [(.int (4 : Int32)), (.int (0 : Int32)), (.int x1), (.ref a1)]))) (fun t k => XS.iloadN X5.here hx rfl (hb hby d15_32) rfl k) ?_
    obtain ⟨_, _, ⟨T6, L6, k6, n6⟩, -, X6, ⟨Lc6, hQ6, l6, y6, z6⟩, st6⟩ := Jvm.LawKit.callS X5 hx (y := (⟨"java/lang/StringLatin1", "indexOfChar", "([BIII)I"⟩ : MethodName)) hown (mvT hZ (Wd83 hw)) (mvT hZ (Wd84 hw)) (mvT hZ (Wd71 hw)) (mvT hZ (Wd85 hw)) (by decide) (backOf (W := 0) (rmIC4 l Z a0 hw [] a1 x1 h0 kt c0 c1 c2 c3 A1) hZ (Wd85 hw) (Wd71 hw) (by decide) (by decide)) (g := (mkF m 33 #[.val (.ref a1), .val (.int x1), .val (.int (0 : Int32)), .val (.int (4 : Int32))] [(.int (4 : Int32)), (.int (0 : Int32)), (.int x1), (.ref a1)])) rfl (by rw [hml]; rfl) (argsL := [(.ref a1), (.int x1), (.int (0 : Int32)), (.int (4 : Int32))]) (rest := []) (lenOf pd4 rfl) rfl (by show 2 * 0 + _ ≤ _; exact Nat.le_of_eq rfl) (hb hby d15_33) (fun _ _ => ⟨rfl, e5, (Nat.le_of_ble_eq_true rfl), (Nat.le_of_ble_eq_true rfl)⟩)
    dsimp only [Pt.U, Pt.locs, Pt.cells, Pt.slots] at X6 l6 y6 z6 st6 hQ6
    subst l6 y6 z6
    obtain ⟨rfl, rfl, e6⟩ := hQ6
    refine OD.go (B := (T6.setTop (mkF m 36 #[.val (.ref a1), .val (.int x1), .val (.int (0 : Int32)), .val (.int (4 : Int32))] [(.int (own_ix4 c0 c1 c2 c3 x1))]))) st6 ?_
    have fin : (own_li4 c0 c1 c2 c3 x1) = (own_ix4 c0 c1 c2 c3 x1) := by unfold own_li4; rw [if_neg c4_2]
    exact OD.ret X6 hx hlk (t := .int) Bd.returns rfl (Or.inl ⟨rfl, Or.inl rfl, _, rfl⟩) (hb hby d15_36) (Nat.le_of_ble_eq_true rfl) (Nat.le_of_ble_eq_true rfl) ⟨by rw [fin], rfl, e6⟩
def Q_rmX2_0 (Z : State) (a1 : Addr) (x1 : Int32) (h0 : Heap) (v : Option Value) (h : Heap) (L : List Loc) : Prop := v = some (.int (own_li0  x1)) ∧ L = [] ∧ h = h0
set_option maxRecDepth 65536 in
set_option maxHeartbeats 40000000 in
theorem rmX2_0 (l : Launch) (Z : State) (a0 : Array Value) (hw : ∀ d ∈ tables_1, d.before a0 Z = true) (ws : List Jvm.Cond) (a1 : Addr) (x1 : Int32) (h0 : Heap) (E1 : Exa Z h0 a1 "java/lang/String") (C1 : Fld Z h0 a1 "java/lang/String" "coder" "B" (.int (0 : Int32))) (t1 : Addr) (kt : ClassId) (V1 : Fld Z h0 a1 "java/lang/String" "value" "[B" (.ref t1)) (A1 : Arv Z h0 t1 kt .byte (0 : Int32) [] (.int 0)) (n0 : Nat) (X00 : Old Z n0 h0) (zc : Int32) (O2 : Sta Z Z.heap "java/lang/String" "COMPACT_STRINGS" "Z" (.int zc)) (P5 : ¬ zc = 0) :
    MetFree l (⟨"java/lang/String", "indexOf", "(II)I"⟩ : MethodName) (head1 (Jvm.Cond.code (⟨"java/lang/String", "indexOf", "(II)I"⟩ : MethodName) jdk_42_method_80_code 3 (some .int) :: ws) ({ frames := 3, cells := 0, slots := 0, locals := 60 } : Room)) (fun a U => a = #[(.ref a1), (.int x1), (.int (0 : Int32))] ∧ Z.Warmed39 U.vm ∧ U.heap = h0) (fun _ _ _ _ _ => True) (fun _ U o U' => ∃ v L, o = .returned v ∧ Q_rmX2_0 Z a1 x1 h0 v U'.heap L ∧ FrameEnd U o U' L ({ frames := 3, cells := 0, slots := 0, locals := 60 } : Room).cells ({ frames := 3, cells := 0, slots := 0, locals := 60 } : Room).slots) := by
  refine MetFree.of_bodySF (plainFor_of_name pn0) hisR ?_
  intro p e s m args below meth c s₁ Bd hml0 hP hK
  obtain ⟨rfl, hZ, hh⟩ := hP
  have hx := Bd.exec
  have hby := Bd.bytes
  have hlk : meth.locks = false := Bd.notSynchronized
  have hml : c.maxLocals = 3 := hml0
  have hown : s.vm.findClass "java/lang/String" = some m.cls := findClass_of_methodNamed Bd.named
  have hnm := (name_of_methodNamed Bd.named Bd.method).1
  have X0 : Stand p l e ({ frames := 3, cells := 0, slots := 0, locals := 60 } : Room) s m #[(.ref a1), (.int x1), (.int (0 : Int32))] below meth c s₁ [] 0 0 := Stand.of_body Bd
  have e0 : s₁.heap = h0 := by rw [← hh, Bd.state]; rfl
  suffices hgo : OD p e s below (Q_rmX2_0 Z a1 x1 h0) ({ frames := 3, cells := 0, slots := 0, locals := 60 } : Room).cells ({ frames := 3, cells := 0, slots := 0, locals := 60 } : Room).slots (s₁.setTop (mkF m 0 #[.val (.ref a1), .val (.int x1), .val (.int (0 : Int32))] [])) by
    obtain ⟨s₂, o, hgo1, hgo2⟩ := hgo
    exact ⟨s₂, o, castTop (ef7 m a1 x1 (0 : Int32)) hgo1, hgo2⟩
  refine OD.go (B := (s₁.setTop (mkF m 1 #[.val (.ref a1), .val (.int x1), .val (.int (0 : Int32))] [(.ref a1)]))) (fun t k => XS.aloadN X0.here hx rfl (hb hby d11_0) rfl rfl k) ?_
  obtain ⟨cq1, kq1, qa1, qb1, qc1⟩ := isOf hZ e0 E1
  obtain ⟨_, _, ⟨T1, L1, k1, n1⟩, -, X1, ⟨Lc1, hQ1, l1, y1, z1⟩, st1⟩ := X0.virtualBack hx (y := (⟨"java/lang/String", "isLatin1", "()Z"⟩ : MethodName)) (z := (⟨"java/lang/String", "isLatin1", "()Z"⟩ : MethodName)) hown (mvT hZ (Wd54 hw)) (mvT hZ (Wd55 hw)) (notFace_of_selects (args := #[]) (mvT hZ (Wd57 hw))) (mvT hZ (Wd57 hw)) (mvT hZ (Wd56 hw)) (by decide) (backOf (W := 0) (rmIL_0 l Z a0 hw [] a1  h0 E1 C1 t1 kt V1  A1 n0 X00 zc O2 P5) hZ (Wd58 hw) (Wd6 hw) (by decide) (by decide)) qa1 qc1 (g := (mkF m 1 #[.val (.ref a1), .val (.int x1), .val (.int (0 : Int32))] [(.ref a1)])) rfl (by rw [hml]; rfl) (Steps.refl _) (argsL := []) (rest := []) (lenOf pd5 rfl) rfl (by show 2 * 0 + _ ≤ _; exact Nat.le_of_eq rfl) (hb hby d11_1) (fun _ _ => ⟨rfl, e0, (Nat.le_of_ble_eq_true rfl), (Nat.le_of_ble_eq_true rfl)⟩)
  dsimp only [Pt.U, Pt.locs, Pt.cells, Pt.slots] at X1 l1 y1 z1 st1 hQ1
  subst l1 y1 z1
  obtain ⟨rfl, rfl, e1⟩ := hQ1
  refine OD.via (B := (T1.setTop (mkF m 4 #[.val (.ref a1), .val (.int x1), .val (.int (0 : Int32))] [(.int (1 : Int32))]))) st1 ?_
  refine OD.go (B := (T1.setTop (mkF m 7 #[.val (.ref a1), .val (.int x1), .val (.int (0 : Int32))] []))) (fun t k => XS.ifNo X1.here hx rfl (hb hby d11_4) rfl (by rw [if0]; exact (feq (by decide : ¬ (1 : Int32) = (0 : Int32))).1) k) ?_
  refine OD.go (B := (T1.setTop (mkF m 8 #[.val (.ref a1), .val (.int x1), .val (.int (0 : Int32))] [(.ref a1)]))) (fun t k => XS.aloadN X1.here hx rfl (hb hby d11_7) rfl rfl k) ?_
  obtain ⟨T2, X2, e2, st2⟩ := getF X1 hx hZ hown (host := "") (Or.inl (Wd32 hw)) Via.refl e1 V1 (g := (mkF m 8 #[.val (.ref a1), .val (.int x1), .val (.int (0 : Int32))] [(.ref a1)])) rfl rfl (hb hby d11_8)
  refine OD.go (B := (T2.setTop (mkF m 11 #[.val (.ref a1), .val (.int x1), .val (.int (0 : Int32))] [(.ref t1)]))) st2 ?_
  refine OD.go (B := (T2.setTop (mkF m 12 #[.val (.ref a1), .val (.int x1), .val (.int (0 : Int32))] [(.int x1), (.ref t1)]))) (fun t k => XS.iloadN X2.here hx rfl (hb hby d11_11) rfl k) ?_
  refine OD.go (B := (T2.setTop (mkF m 13 #[.val (.ref a1), .val (.int x1), .val (.int (0 : Int32))] [(.int (0 : Int32)), (.int x1), (.ref t1)]))) (fun t k => XS.iloadN X2.here hx rfl (hb hby d11_12) rfl k) ?_
  refine OD.go (B := (T2.setTop (mkF m 14 #[.val (.ref a1), .val (.int x1), .val (.int (0 : Int32))] [(.ref a1), (.int (0 : Int32)), (.int x1), (.ref t1)]))) (fun t k => XS.aloadN X2.here hx rfl (hb hby d11_13) rfl rfl k) ?_
  obtain ⟨cq3, kq3, qa3, qb3, qc3⟩ := isOf hZ e2 E1
  obtain ⟨_, _, ⟨T3, L3, k3, n3⟩, -, X3, ⟨Lc3, hQ3, l3, y3, z3⟩, st3⟩ := X2.virtualBack hx (y := (⟨"java/lang/String", "length", "()I"⟩ : MethodName)) (z := (⟨"java/lang/String", "length", "()I"⟩ : MethodName)) hown (mvT hZ (Wd59 hw)) (mvT hZ (Wd60 hw)) (notFace_of_selects (args := #[]) (mvT hZ (Wd62 hw))) (mvT hZ (Wd62 hw)) (mvT hZ (Wd61 hw)) (by decide) (backOf (W := 3) (rmLe_0 l Z a0 hw [] a1  h0 E1 C1 t1 kt V1  A1 n0 X00 zc O2 P5) hZ (Wd63 hw) (Wd6 hw) (by decide) (by decide)) qa3 qc3 (g := (mkF m 14 #[.val (.ref a1), .val (.int x1), .val (.int (0 : Int32))] [(.ref a1), (.int (0 : Int32)), (.int x1), (.ref t1)])) rfl (by rw [hml]; rfl) (Steps.refl _) (argsL := []) (rest := [(.int (0 : Int32)), (.int x1), (.ref t1)]) (lenOf pd6 rfl) rfl (by show 2 * 0 + _ ≤ _; exact Nat.le_of_eq rfl) (hb hby d11_14) (fun _ _ => ⟨rfl, e2, (Nat.le_of_ble_eq_true rfl), (Nat.le_of_ble_eq_true rfl)⟩)
  dsimp only [Pt.U, Pt.locs, Pt.cells, Pt.slots] at X3 l3 y3 z3 st3 hQ3
  subst l3 y3 z3
  obtain ⟨rfl, rfl, e3⟩ := hQ3
  refine OD.via (B := (T3.setTop (mkF m 17 #[.val (.ref a1), .val (.int x1), .val (.int (0 : Int32))] [(.int (0 : Int32)), (.int (0 : Int32)), (.int x1), (.ref t1)]))) st3 ?_
  obtain ⟨_, _, ⟨T4, L4, k4, n4⟩, -, X4, ⟨Lc4, hQ4, l4, y4, z4⟩, st4⟩ := Jvm.LawKit.callS X3 hx (y := (⟨"java/lang/StringLatin1", "indexOf", "([BIII)I"⟩ : MethodName)) hown (mvT hZ (Wd69 hw)) (mvT hZ (Wd70 hw)) (mvT hZ (Wd71 hw)) (mvT hZ (Wd72 hw)) (by decide) (backOf (W := 0) (rmLI0 l Z a0 hw [] t1 x1 h0 kt  A1) hZ (Wd72 hw) (Wd71 hw) (by decide) (by decide)) (g := (mkF m 17 #[.val (.ref a1), .val (.int x1), .val (.int (0 : Int32))] [(.int (0 : Int32)), (.int (0 : Int32)), (.int x1), (.ref t1)])) rfl (by rw [hml]; rfl) (argsL := [(.ref t1), (.int x1), (.int (0 : Int32)), (.int (0 : Int32))]) (rest := []) (lenOf pd4 rfl) rfl (by show 2 * 0 + _ ≤ _; exact Nat.le_of_eq rfl) (hb hby d11_17) (fun _ _ => ⟨rfl, e3, (Nat.le_of_ble_eq_true rfl), (Nat.le_of_ble_eq_true rfl)⟩)
  dsimp only [Pt.U, Pt.locs, Pt.cells, Pt.slots] at X4 l4 y4 z4 st4 hQ4
  subst l4 y4 z4
  obtain ⟨rfl, rfl, e4⟩ := hQ4
  refine OD.go (B := (T4.setTop (mkF m 20 #[.val (.ref a1), .val (.int x1), .val (.int (0 : Int32))] [(.int (own_li0  x1))]))) st4 ?_
  refine OD.go (B := (T4.setTop (mkF m 36 #[.val (.ref a1), .val (.int x1), .val (.int (0 : Int32))] [(.int (own_li0  x1))]))) (fun t k => XS.goto X4.here hx rfl (pc0 := 20) (pc' := 36) rfl (hb hby d11_20) (by decide) (by decide) k) ?_
  exact OD.ret X4 hx hlk (t := .int) Bd.returns rfl (Or.inl ⟨rfl, Or.inl rfl, _, rfl⟩) (hb hby d11_36) (Nat.le_of_ble_eq_true rfl) (Nat.le_of_ble_eq_true rfl) ⟨rfl, rfl, e4⟩
def Q_rmX2_1 (Z : State) (a1 : Addr) (x1 : Int32) (h0 : Heap) (c0 : Int32) (v : Option Value) (h : Heap) (L : List Loc) : Prop := v = some (.int (own_li1 c0 x1)) ∧ L = [] ∧ h = h0
set_option maxRecDepth 65536 in
set_option maxHeartbeats 40000000 in
theorem rmX2_1 (l : Launch) (Z : State) (a0 : Array Value) (hw : ∀ d ∈ tables_1, d.before a0 Z = true) (ws : List Jvm.Cond) (a1 : Addr) (x1 : Int32) (h0 : Heap) (E1 : Exa Z h0 a1 "java/lang/String") (C1 : Fld Z h0 a1 "java/lang/String" "coder" "B" (.int (0 : Int32))) (t1 : Addr) (kt : ClassId) (V1 : Fld Z h0 a1 "java/lang/String" "value" "[B" (.ref t1)) (c0 : Int32) (A1 : Arv Z h0 t1 kt .byte (1 : Int32) [(.int c0)] (.int 0)) (n0 : Nat) (X00 : Old Z n0 h0) (zc : Int32) (O2 : Sta Z Z.heap "java/lang/String" "COMPACT_STRINGS" "Z" (.int zc)) (P5 : ¬ zc = 0) :
    MetFree l (⟨"java/lang/String", "indexOf", "(II)I"⟩ : MethodName) (head1 (Jvm.Cond.code (⟨"java/lang/String", "indexOf", "(II)I"⟩ : MethodName) jdk_42_method_80_code 3 (some .int) :: ws) ({ frames := 3, cells := 0, slots := 0, locals := 60 } : Room)) (fun a U => a = #[(.ref a1), (.int x1), (.int (0 : Int32))] ∧ Z.Warmed39 U.vm ∧ U.heap = h0) (fun _ _ _ _ _ => True) (fun _ U o U' => ∃ v L, o = .returned v ∧ Q_rmX2_1 Z a1 x1 h0 c0 v U'.heap L ∧ FrameEnd U o U' L ({ frames := 3, cells := 0, slots := 0, locals := 60 } : Room).cells ({ frames := 3, cells := 0, slots := 0, locals := 60 } : Room).slots) := by
  refine MetFree.of_bodySF (plainFor_of_name pn0) hisR ?_
  intro p e s m args below meth c s₁ Bd hml0 hP hK
  obtain ⟨rfl, hZ, hh⟩ := hP
  have hx := Bd.exec
  have hby := Bd.bytes
  have hlk : meth.locks = false := Bd.notSynchronized
  have hml : c.maxLocals = 3 := hml0
  have hown : s.vm.findClass "java/lang/String" = some m.cls := findClass_of_methodNamed Bd.named
  have hnm := (name_of_methodNamed Bd.named Bd.method).1
  have X0 : Stand p l e ({ frames := 3, cells := 0, slots := 0, locals := 60 } : Room) s m #[(.ref a1), (.int x1), (.int (0 : Int32))] below meth c s₁ [] 0 0 := Stand.of_body Bd
  have e0 : s₁.heap = h0 := by rw [← hh, Bd.state]; rfl
  suffices hgo : OD p e s below (Q_rmX2_1 Z a1 x1 h0 c0) ({ frames := 3, cells := 0, slots := 0, locals := 60 } : Room).cells ({ frames := 3, cells := 0, slots := 0, locals := 60 } : Room).slots (s₁.setTop (mkF m 0 #[.val (.ref a1), .val (.int x1), .val (.int (0 : Int32))] [])) by
    obtain ⟨s₂, o, hgo1, hgo2⟩ := hgo
    exact ⟨s₂, o, castTop (ef7 m a1 x1 (0 : Int32)) hgo1, hgo2⟩
  refine OD.go (B := (s₁.setTop (mkF m 1 #[.val (.ref a1), .val (.int x1), .val (.int (0 : Int32))] [(.ref a1)]))) (fun t k => XS.aloadN X0.here hx rfl (hb hby d11_0) rfl rfl k) ?_
  obtain ⟨cq1, kq1, qa1, qb1, qc1⟩ := isOf hZ e0 E1
  obtain ⟨_, _, ⟨T1, L1, k1, n1⟩, -, X1, ⟨Lc1, hQ1, l1, y1, z1⟩, st1⟩ := X0.virtualBack hx (y := (⟨"java/lang/String", "isLatin1", "()Z"⟩ : MethodName)) (z := (⟨"java/lang/String", "isLatin1", "()Z"⟩ : MethodName)) hown (mvT hZ (Wd54 hw)) (mvT hZ (Wd55 hw)) (notFace_of_selects (args := #[]) (mvT hZ (Wd57 hw))) (mvT hZ (Wd57 hw)) (mvT hZ (Wd56 hw)) (by decide) (backOf (W := 0) (rmIL_1 l Z a0 hw [] a1  h0 E1 C1 t1 kt V1 c0 A1 n0 X00 zc O2 P5) hZ (Wd58 hw) (Wd6 hw) (by decide) (by decide)) qa1 qc1 (g := (mkF m 1 #[.val (.ref a1), .val (.int x1), .val (.int (0 : Int32))] [(.ref a1)])) rfl (by rw [hml]; rfl) (Steps.refl _) (argsL := []) (rest := []) (lenOf pd5 rfl) rfl (by show 2 * 0 + _ ≤ _; exact Nat.le_of_eq rfl) (hb hby d11_1) (fun _ _ => ⟨rfl, e0, (Nat.le_of_ble_eq_true rfl), (Nat.le_of_ble_eq_true rfl)⟩)
  dsimp only [Pt.U, Pt.locs, Pt.cells, Pt.slots] at X1 l1 y1 z1 st1 hQ1
  subst l1 y1 z1
  obtain ⟨rfl, rfl, e1⟩ := hQ1
  refine OD.via (B := (T1.setTop (mkF m 4 #[.val (.ref a1), .val (.int x1), .val (.int (0 : Int32))] [(.int (1 : Int32))]))) st1 ?_
  refine OD.go (B := (T1.setTop (mkF m 7 #[.val (.ref a1), .val (.int x1), .val (.int (0 : Int32))] []))) (fun t k => XS.ifNo X1.here hx rfl (hb hby d11_4) rfl (by rw [if0]; exact (feq (by decide : ¬ (1 : Int32) = (0 : Int32))).1) k) ?_
  refine OD.go (B := (T1.setTop (mkF m 8 #[.val (.ref a1), .val (.int x1), .val (.int (0 : Int32))] [(.ref a1)]))) (fun t k => XS.aloadN X1.here hx rfl (hb hby d11_7) rfl rfl k) ?_
  obtain ⟨T2, X2, e2, st2⟩ := getF X1 hx hZ hown (host := "") (Or.inl (Wd32 hw)) Via.refl e1 V1 (g := (mkF m 8 #[.val (.ref a1), .val (.int x1), .val (.int (0 : Int32))] [(.ref a1)])) rfl rfl (hb hby d11_8)
  refine OD.go (B := (T2.setTop (mkF m 11 #[.val (.ref a1), .val (.int x1), .val (.int (0 : Int32))] [(.ref t1)]))) st2 ?_
  refine OD.go (B := (T2.setTop (mkF m 12 #[.val (.ref a1), .val (.int x1), .val (.int (0 : Int32))] [(.int x1), (.ref t1)]))) (fun t k => XS.iloadN X2.here hx rfl (hb hby d11_11) rfl k) ?_
  refine OD.go (B := (T2.setTop (mkF m 13 #[.val (.ref a1), .val (.int x1), .val (.int (0 : Int32))] [(.int (0 : Int32)), (.int x1), (.ref t1)]))) (fun t k => XS.iloadN X2.here hx rfl (hb hby d11_12) rfl k) ?_
  refine OD.go (B := (T2.setTop (mkF m 14 #[.val (.ref a1), .val (.int x1), .val (.int (0 : Int32))] [(.ref a1), (.int (0 : Int32)), (.int x1), (.ref t1)]))) (fun t k => XS.aloadN X2.here hx rfl (hb hby d11_13) rfl rfl k) ?_
  obtain ⟨cq3, kq3, qa3, qb3, qc3⟩ := isOf hZ e2 E1
  obtain ⟨_, _, ⟨T3, L3, k3, n3⟩, -, X3, ⟨Lc3, hQ3, l3, y3, z3⟩, st3⟩ := X2.virtualBack hx (y := (⟨"java/lang/String", "length", "()I"⟩ : MethodName)) (z := (⟨"java/lang/String", "length", "()I"⟩ : MethodName)) hown (mvT hZ (Wd59 hw)) (mvT hZ (Wd60 hw)) (notFace_of_selects (args := #[]) (mvT hZ (Wd62 hw))) (mvT hZ (Wd62 hw)) (mvT hZ (Wd61 hw)) (by decide) (backOf (W := 3) (rmLe_1 l Z a0 hw [] a1  h0 E1 C1 t1 kt V1 c0 A1 n0 X00 zc O2 P5) hZ (Wd63 hw) (Wd6 hw) (by decide) (by decide)) qa3 qc3 (g := (mkF m 14 #[.val (.ref a1), .val (.int x1), .val (.int (0 : Int32))] [(.ref a1), (.int (0 : Int32)), (.int x1), (.ref t1)])) rfl (by rw [hml]; rfl) (Steps.refl _) (argsL := []) (rest := [(.int (0 : Int32)), (.int x1), (.ref t1)]) (lenOf pd6 rfl) rfl (by show 2 * 0 + _ ≤ _; exact Nat.le_of_eq rfl) (hb hby d11_14) (fun _ _ => ⟨rfl, e2, (Nat.le_of_ble_eq_true rfl), (Nat.le_of_ble_eq_true rfl)⟩)
  dsimp only [Pt.U, Pt.locs, Pt.cells, Pt.slots] at X3 l3 y3 z3 st3 hQ3
  subst l3 y3 z3
  obtain ⟨rfl, rfl, e3⟩ := hQ3
  refine OD.via (B := (T3.setTop (mkF m 17 #[.val (.ref a1), .val (.int x1), .val (.int (0 : Int32))] [(.int (1 : Int32)), (.int (0 : Int32)), (.int x1), (.ref t1)]))) st3 ?_
  obtain ⟨_, _, ⟨T4, L4, k4, n4⟩, -, X4, ⟨Lc4, hQ4, l4, y4, z4⟩, st4⟩ := Jvm.LawKit.callS X3 hx (y := (⟨"java/lang/StringLatin1", "indexOf", "([BIII)I"⟩ : MethodName)) hown (mvT hZ (Wd69 hw)) (mvT hZ (Wd70 hw)) (mvT hZ (Wd71 hw)) (mvT hZ (Wd72 hw)) (by decide) (backOf (W := 0) (rmLI1 l Z a0 hw [] t1 x1 h0 kt c0 A1) hZ (Wd72 hw) (Wd71 hw) (by decide) (by decide)) (g := (mkF m 17 #[.val (.ref a1), .val (.int x1), .val (.int (0 : Int32))] [(.int (1 : Int32)), (.int (0 : Int32)), (.int x1), (.ref t1)])) rfl (by rw [hml]; rfl) (argsL := [(.ref t1), (.int x1), (.int (0 : Int32)), (.int (1 : Int32))]) (rest := []) (lenOf pd4 rfl) rfl (by show 2 * 0 + _ ≤ _; exact Nat.le_of_eq rfl) (hb hby d11_17) (fun _ _ => ⟨rfl, e3, (Nat.le_of_ble_eq_true rfl), (Nat.le_of_ble_eq_true rfl)⟩)
  dsimp only [Pt.U, Pt.locs, Pt.cells, Pt.slots] at X4 l4 y4 z4 st4 hQ4
  subst l4 y4 z4
  obtain ⟨rfl, rfl, e4⟩ := hQ4
  refine OD.go (B := (T4.setTop (mkF m 20 #[.val (.ref a1), .val (.int x1), .val (.int (0 : Int32))] [(.int (own_li1 c0 x1))]))) st4 ?_
  refine OD.go (B := (T4.setTop (mkF m 36 #[.val (.ref a1), .val (.int x1), .val (.int (0 : Int32))] [(.int (own_li1 c0 x1))]))) (fun t k => XS.goto X4.here hx rfl (pc0 := 20) (pc' := 36) rfl (hb hby d11_20) (by decide) (by decide) k) ?_
  exact OD.ret X4 hx hlk (t := .int) Bd.returns rfl (Or.inl ⟨rfl, Or.inl rfl, _, rfl⟩) (hb hby d11_36) (Nat.le_of_ble_eq_true rfl) (Nat.le_of_ble_eq_true rfl) ⟨rfl, rfl, e4⟩
def Q_rmX2_2 (Z : State) (a1 : Addr) (x1 : Int32) (h0 : Heap) (c0 c1 : Int32) (v : Option Value) (h : Heap) (L : List Loc) : Prop := v = some (.int (own_li2 c0 c1 x1)) ∧ L = [] ∧ h = h0
set_option maxRecDepth 65536 in
set_option maxHeartbeats 40000000 in
theorem rmX2_2 (l : Launch) (Z : State) (a0 : Array Value) (hw : ∀ d ∈ tables_1, d.before a0 Z = true) (ws : List Jvm.Cond) (a1 : Addr) (x1 : Int32) (h0 : Heap) (E1 : Exa Z h0 a1 "java/lang/String") (C1 : Fld Z h0 a1 "java/lang/String" "coder" "B" (.int (0 : Int32))) (t1 : Addr) (kt : ClassId) (V1 : Fld Z h0 a1 "java/lang/String" "value" "[B" (.ref t1)) (c0 c1 : Int32) (A1 : Arv Z h0 t1 kt .byte (2 : Int32) [(.int c0), (.int c1)] (.int 0)) (n0 : Nat) (X00 : Old Z n0 h0) (zc : Int32) (O2 : Sta Z Z.heap "java/lang/String" "COMPACT_STRINGS" "Z" (.int zc)) (P5 : ¬ zc = 0) :
    MetFree l (⟨"java/lang/String", "indexOf", "(II)I"⟩ : MethodName) (head1 (Jvm.Cond.code (⟨"java/lang/String", "indexOf", "(II)I"⟩ : MethodName) jdk_42_method_80_code 3 (some .int) :: ws) ({ frames := 3, cells := 0, slots := 0, locals := 60 } : Room)) (fun a U => a = #[(.ref a1), (.int x1), (.int (0 : Int32))] ∧ Z.Warmed39 U.vm ∧ U.heap = h0) (fun _ _ _ _ _ => True) (fun _ U o U' => ∃ v L, o = .returned v ∧ Q_rmX2_2 Z a1 x1 h0 c0 c1 v U'.heap L ∧ FrameEnd U o U' L ({ frames := 3, cells := 0, slots := 0, locals := 60 } : Room).cells ({ frames := 3, cells := 0, slots := 0, locals := 60 } : Room).slots) := by
  refine MetFree.of_bodySF (plainFor_of_name pn0) hisR ?_
  intro p e s m args below meth c s₁ Bd hml0 hP hK
  obtain ⟨rfl, hZ, hh⟩ := hP
  have hx := Bd.exec
  have hby := Bd.bytes
  have hlk : meth.locks = false := Bd.notSynchronized
  have hml : c.maxLocals = 3 := hml0
  have hown : s.vm.findClass "java/lang/String" = some m.cls := findClass_of_methodNamed Bd.named
  have hnm := (name_of_methodNamed Bd.named Bd.method).1
  have X0 : Stand p l e ({ frames := 3, cells := 0, slots := 0, locals := 60 } : Room) s m #[(.ref a1), (.int x1), (.int (0 : Int32))] below meth c s₁ [] 0 0 := Stand.of_body Bd
  have e0 : s₁.heap = h0 := by rw [← hh, Bd.state]; rfl
  suffices hgo : OD p e s below (Q_rmX2_2 Z a1 x1 h0 c0 c1) ({ frames := 3, cells := 0, slots := 0, locals := 60 } : Room).cells ({ frames := 3, cells := 0, slots := 0, locals := 60 } : Room).slots (s₁.setTop (mkF m 0 #[.val (.ref a1), .val (.int x1), .val (.int (0 : Int32))] [])) by
    obtain ⟨s₂, o, hgo1, hgo2⟩ := hgo
    exact ⟨s₂, o, castTop (ef7 m a1 x1 (0 : Int32)) hgo1, hgo2⟩
  refine OD.go (B := (s₁.setTop (mkF m 1 #[.val (.ref a1), .val (.int x1), .val (.int (0 : Int32))] [(.ref a1)]))) (fun t k => XS.aloadN X0.here hx rfl (hb hby d11_0) rfl rfl k) ?_
  obtain ⟨cq1, kq1, qa1, qb1, qc1⟩ := isOf hZ e0 E1
  obtain ⟨_, _, ⟨T1, L1, k1, n1⟩, -, X1, ⟨Lc1, hQ1, l1, y1, z1⟩, st1⟩ := X0.virtualBack hx (y := (⟨"java/lang/String", "isLatin1", "()Z"⟩ : MethodName)) (z := (⟨"java/lang/String", "isLatin1", "()Z"⟩ : MethodName)) hown (mvT hZ (Wd54 hw)) (mvT hZ (Wd55 hw)) (notFace_of_selects (args := #[]) (mvT hZ (Wd57 hw))) (mvT hZ (Wd57 hw)) (mvT hZ (Wd56 hw)) (by decide) (backOf (W := 0) (rmIL_2 l Z a0 hw [] a1  h0 E1 C1 t1 kt V1 c0 c1 A1 n0 X00 zc O2 P5) hZ (Wd58 hw) (Wd6 hw) (by decide) (by decide)) qa1 qc1 (g := (mkF m 1 #[.val (.ref a1), .val (.int x1), .val (.int (0 : Int32))] [(.ref a1)])) rfl (by rw [hml]; rfl) (Steps.refl _) (argsL := []) (rest := []) (lenOf pd5 rfl) rfl (by show 2 * 0 + _ ≤ _; exact Nat.le_of_eq rfl) (hb hby d11_1) (fun _ _ => ⟨rfl, e0, (Nat.le_of_ble_eq_true rfl), (Nat.le_of_ble_eq_true rfl)⟩)
  dsimp only [Pt.U, Pt.locs, Pt.cells, Pt.slots] at X1 l1 y1 z1 st1 hQ1
  subst l1 y1 z1
  obtain ⟨rfl, rfl, e1⟩ := hQ1
  refine OD.via (B := (T1.setTop (mkF m 4 #[.val (.ref a1), .val (.int x1), .val (.int (0 : Int32))] [(.int (1 : Int32))]))) st1 ?_
  refine OD.go (B := (T1.setTop (mkF m 7 #[.val (.ref a1), .val (.int x1), .val (.int (0 : Int32))] []))) (fun t k => XS.ifNo X1.here hx rfl (hb hby d11_4) rfl (by rw [if0]; exact (feq (by decide : ¬ (1 : Int32) = (0 : Int32))).1) k) ?_
  refine OD.go (B := (T1.setTop (mkF m 8 #[.val (.ref a1), .val (.int x1), .val (.int (0 : Int32))] [(.ref a1)]))) (fun t k => XS.aloadN X1.here hx rfl (hb hby d11_7) rfl rfl k) ?_
  obtain ⟨T2, X2, e2, st2⟩ := getF X1 hx hZ hown (host := "") (Or.inl (Wd32 hw)) Via.refl e1 V1 (g := (mkF m 8 #[.val (.ref a1), .val (.int x1), .val (.int (0 : Int32))] [(.ref a1)])) rfl rfl (hb hby d11_8)
  refine OD.go (B := (T2.setTop (mkF m 11 #[.val (.ref a1), .val (.int x1), .val (.int (0 : Int32))] [(.ref t1)]))) st2 ?_
  refine OD.go (B := (T2.setTop (mkF m 12 #[.val (.ref a1), .val (.int x1), .val (.int (0 : Int32))] [(.int x1), (.ref t1)]))) (fun t k => XS.iloadN X2.here hx rfl (hb hby d11_11) rfl k) ?_
  refine OD.go (B := (T2.setTop (mkF m 13 #[.val (.ref a1), .val (.int x1), .val (.int (0 : Int32))] [(.int (0 : Int32)), (.int x1), (.ref t1)]))) (fun t k => XS.iloadN X2.here hx rfl (hb hby d11_12) rfl k) ?_
  refine OD.go (B := (T2.setTop (mkF m 14 #[.val (.ref a1), .val (.int x1), .val (.int (0 : Int32))] [(.ref a1), (.int (0 : Int32)), (.int x1), (.ref t1)]))) (fun t k => XS.aloadN X2.here hx rfl (hb hby d11_13) rfl rfl k) ?_
  obtain ⟨cq3, kq3, qa3, qb3, qc3⟩ := isOf hZ e2 E1
  obtain ⟨_, _, ⟨T3, L3, k3, n3⟩, -, X3, ⟨Lc3, hQ3, l3, y3, z3⟩, st3⟩ := X2.virtualBack hx (y := (⟨"java/lang/String", "length", "()I"⟩ : MethodName)) (z := (⟨"java/lang/String", "length", "()I"⟩ : MethodName)) hown (mvT hZ (Wd59 hw)) (mvT hZ (Wd60 hw)) (notFace_of_selects (args := #[]) (mvT hZ (Wd62 hw))) (mvT hZ (Wd62 hw)) (mvT hZ (Wd61 hw)) (by decide) (backOf (W := 3) (rmLe_2 l Z a0 hw [] a1  h0 E1 C1 t1 kt V1 c0 c1 A1 n0 X00 zc O2 P5) hZ (Wd63 hw) (Wd6 hw) (by decide) (by decide)) qa3 qc3 (g := (mkF m 14 #[.val (.ref a1), .val (.int x1), .val (.int (0 : Int32))] [(.ref a1), (.int (0 : Int32)), (.int x1), (.ref t1)])) rfl (by rw [hml]; rfl) (Steps.refl _) (argsL := []) (rest := [(.int (0 : Int32)), (.int x1), (.ref t1)]) (lenOf pd6 rfl) rfl (by show 2 * 0 + _ ≤ _; exact Nat.le_of_eq rfl) (hb hby d11_14) (fun _ _ => ⟨rfl, e2, (Nat.le_of_ble_eq_true rfl), (Nat.le_of_ble_eq_true rfl)⟩)
  dsimp only [Pt.U, Pt.locs, Pt.cells, Pt.slots] at X3 l3 y3 z3 st3 hQ3
  subst l3 y3 z3
  obtain ⟨rfl, rfl, e3⟩ := hQ3
  refine OD.via (B := (T3.setTop (mkF m 17 #[.val (.ref a1), .val (.int x1), .val (.int (0 : Int32))] [(.int (2 : Int32)), (.int (0 : Int32)), (.int x1), (.ref t1)]))) st3 ?_
  obtain ⟨_, _, ⟨T4, L4, k4, n4⟩, -, X4, ⟨Lc4, hQ4, l4, y4, z4⟩, st4⟩ := Jvm.LawKit.callS X3 hx (y := (⟨"java/lang/StringLatin1", "indexOf", "([BIII)I"⟩ : MethodName)) hown (mvT hZ (Wd69 hw)) (mvT hZ (Wd70 hw)) (mvT hZ (Wd71 hw)) (mvT hZ (Wd72 hw)) (by decide) (backOf (W := 0) (rmLI2 l Z a0 hw [] t1 x1 h0 kt c0 c1 A1) hZ (Wd72 hw) (Wd71 hw) (by decide) (by decide)) (g := (mkF m 17 #[.val (.ref a1), .val (.int x1), .val (.int (0 : Int32))] [(.int (2 : Int32)), (.int (0 : Int32)), (.int x1), (.ref t1)])) rfl (by rw [hml]; rfl) (argsL := [(.ref t1), (.int x1), (.int (0 : Int32)), (.int (2 : Int32))]) (rest := []) (lenOf pd4 rfl) rfl (by show 2 * 0 + _ ≤ _; exact Nat.le_of_eq rfl) (hb hby d11_17) (fun _ _ => ⟨rfl, e3, (Nat.le_of_ble_eq_true rfl), (Nat.le_of_ble_eq_true rfl)⟩)
  dsimp only [Pt.U, Pt.locs, Pt.cells, Pt.slots] at X4 l4 y4 z4 st4 hQ4
  subst l4 y4 z4
  obtain ⟨rfl, rfl, e4⟩ := hQ4
  refine OD.go (B := (T4.setTop (mkF m 20 #[.val (.ref a1), .val (.int x1), .val (.int (0 : Int32))] [(.int (own_li2 c0 c1 x1))]))) st4 ?_
  refine OD.go (B := (T4.setTop (mkF m 36 #[.val (.ref a1), .val (.int x1), .val (.int (0 : Int32))] [(.int (own_li2 c0 c1 x1))]))) (fun t k => XS.goto X4.here hx rfl (pc0 := 20) (pc' := 36) rfl (hb hby d11_20) (by decide) (by decide) k) ?_
  exact OD.ret X4 hx hlk (t := .int) Bd.returns rfl (Or.inl ⟨rfl, Or.inl rfl, _, rfl⟩) (hb hby d11_36) (Nat.le_of_ble_eq_true rfl) (Nat.le_of_ble_eq_true rfl) ⟨rfl, rfl, e4⟩
def Q_rmX2_3 (Z : State) (a1 : Addr) (x1 : Int32) (h0 : Heap) (c0 c1 c2 : Int32) (v : Option Value) (h : Heap) (L : List Loc) : Prop := v = some (.int (own_li3 c0 c1 c2 x1)) ∧ L = [] ∧ h = h0
set_option maxRecDepth 65536 in
set_option maxHeartbeats 40000000 in
theorem rmX2_3 (l : Launch) (Z : State) (a0 : Array Value) (hw : ∀ d ∈ tables_1, d.before a0 Z = true) (ws : List Jvm.Cond) (a1 : Addr) (x1 : Int32) (h0 : Heap) (E1 : Exa Z h0 a1 "java/lang/String") (C1 : Fld Z h0 a1 "java/lang/String" "coder" "B" (.int (0 : Int32))) (t1 : Addr) (kt : ClassId) (V1 : Fld Z h0 a1 "java/lang/String" "value" "[B" (.ref t1)) (c0 c1 c2 : Int32) (A1 : Arv Z h0 t1 kt .byte (3 : Int32) [(.int c0), (.int c1), (.int c2)] (.int 0)) (n0 : Nat) (X00 : Old Z n0 h0) (zc : Int32) (O2 : Sta Z Z.heap "java/lang/String" "COMPACT_STRINGS" "Z" (.int zc)) (P5 : ¬ zc = 0) :
    MetFree l (⟨"java/lang/String", "indexOf", "(II)I"⟩ : MethodName) (head1 (Jvm.Cond.code (⟨"java/lang/String", "indexOf", "(II)I"⟩ : MethodName) jdk_42_method_80_code 3 (some .int) :: ws) ({ frames := 3, cells := 0, slots := 0, locals := 60 } : Room)) (fun a U => a = #[(.ref a1), (.int x1), (.int (0 : Int32))] ∧ Z.Warmed39 U.vm ∧ U.heap = h0) (fun _ _ _ _ _ => True) (fun _ U o U' => ∃ v L, o = .returned v ∧ Q_rmX2_3 Z a1 x1 h0 c0 c1 c2 v U'.heap L ∧ FrameEnd U o U' L ({ frames := 3, cells := 0, slots := 0, locals := 60 } : Room).cells ({ frames := 3, cells := 0, slots := 0, locals := 60 } : Room).slots) := by
  refine MetFree.of_bodySF (plainFor_of_name pn0) hisR ?_
  intro p e s m args below meth c s₁ Bd hml0 hP hK
  obtain ⟨rfl, hZ, hh⟩ := hP
  have hx := Bd.exec
  have hby := Bd.bytes
  have hlk : meth.locks = false := Bd.notSynchronized
  have hml : c.maxLocals = 3 := hml0
  have hown : s.vm.findClass "java/lang/String" = some m.cls := findClass_of_methodNamed Bd.named
  have hnm := (name_of_methodNamed Bd.named Bd.method).1
  have X0 : Stand p l e ({ frames := 3, cells := 0, slots := 0, locals := 60 } : Room) s m #[(.ref a1), (.int x1), (.int (0 : Int32))] below meth c s₁ [] 0 0 := Stand.of_body Bd
  have e0 : s₁.heap = h0 := by rw [← hh, Bd.state]; rfl
  suffices hgo : OD p e s below (Q_rmX2_3 Z a1 x1 h0 c0 c1 c2) ({ frames := 3, cells := 0, slots := 0, locals := 60 } : Room).cells ({ frames := 3, cells := 0, slots := 0, locals := 60 } : Room).slots (s₁.setTop (mkF m 0 #[.val (.ref a1), .val (.int x1), .val (.int (0 : Int32))] [])) by
    obtain ⟨s₂, o, hgo1, hgo2⟩ := hgo
    exact ⟨s₂, o, castTop (ef7 m a1 x1 (0 : Int32)) hgo1, hgo2⟩
  refine OD.go (B := (s₁.setTop (mkF m 1 #[.val (.ref a1), .val (.int x1), .val (.int (0 : Int32))] [(.ref a1)]))) (fun t k => XS.aloadN X0.here hx rfl (hb hby d11_0) rfl rfl k) ?_
  obtain ⟨cq1, kq1, qa1, qb1, qc1⟩ := isOf hZ e0 E1
  obtain ⟨_, _, ⟨T1, L1, k1, n1⟩, -, X1, ⟨Lc1, hQ1, l1, y1, z1⟩, st1⟩ := X0.virtualBack hx (y := (⟨"java/lang/String", "isLatin1", "()Z"⟩ : MethodName)) (z := (⟨"java/lang/String", "isLatin1", "()Z"⟩ : MethodName)) hown (mvT hZ (Wd54 hw)) (mvT hZ (Wd55 hw)) (notFace_of_selects (args := #[]) (mvT hZ (Wd57 hw))) (mvT hZ (Wd57 hw)) (mvT hZ (Wd56 hw)) (by decide) (backOf (W := 0) (rmIL_3 l Z a0 hw [] a1  h0 E1 C1 t1 kt V1 c0 c1 c2 A1 n0 X00 zc O2 P5) hZ (Wd58 hw) (Wd6 hw) (by decide) (by decide)) qa1 qc1 (g := (mkF m 1 #[.val (.ref a1), .val (.int x1), .val (.int (0 : Int32))] [(.ref a1)])) rfl (by rw [hml]; rfl) (Steps.refl _) (argsL := []) (rest := []) (lenOf pd5 rfl) rfl (by show 2 * 0 + _ ≤ _; exact Nat.le_of_eq rfl) (hb hby d11_1) (fun _ _ => ⟨rfl, e0, (Nat.le_of_ble_eq_true rfl), (Nat.le_of_ble_eq_true rfl)⟩)
  dsimp only [Pt.U, Pt.locs, Pt.cells, Pt.slots] at X1 l1 y1 z1 st1 hQ1
  subst l1 y1 z1
  obtain ⟨rfl, rfl, e1⟩ := hQ1
  refine OD.via (B := (T1.setTop (mkF m 4 #[.val (.ref a1), .val (.int x1), .val (.int (0 : Int32))] [(.int (1 : Int32))]))) st1 ?_
  refine OD.go (B := (T1.setTop (mkF m 7 #[.val (.ref a1), .val (.int x1), .val (.int (0 : Int32))] []))) (fun t k => XS.ifNo X1.here hx rfl (hb hby d11_4) rfl (by rw [if0]; exact (feq (by decide : ¬ (1 : Int32) = (0 : Int32))).1) k) ?_
  refine OD.go (B := (T1.setTop (mkF m 8 #[.val (.ref a1), .val (.int x1), .val (.int (0 : Int32))] [(.ref a1)]))) (fun t k => XS.aloadN X1.here hx rfl (hb hby d11_7) rfl rfl k) ?_
  obtain ⟨T2, X2, e2, st2⟩ := getF X1 hx hZ hown (host := "") (Or.inl (Wd32 hw)) Via.refl e1 V1 (g := (mkF m 8 #[.val (.ref a1), .val (.int x1), .val (.int (0 : Int32))] [(.ref a1)])) rfl rfl (hb hby d11_8)
  refine OD.go (B := (T2.setTop (mkF m 11 #[.val (.ref a1), .val (.int x1), .val (.int (0 : Int32))] [(.ref t1)]))) st2 ?_
  refine OD.go (B := (T2.setTop (mkF m 12 #[.val (.ref a1), .val (.int x1), .val (.int (0 : Int32))] [(.int x1), (.ref t1)]))) (fun t k => XS.iloadN X2.here hx rfl (hb hby d11_11) rfl k) ?_
  refine OD.go (B := (T2.setTop (mkF m 13 #[.val (.ref a1), .val (.int x1), .val (.int (0 : Int32))] [(.int (0 : Int32)), (.int x1), (.ref t1)]))) (fun t k => XS.iloadN X2.here hx rfl (hb hby d11_12) rfl k) ?_
  refine OD.go (B := (T2.setTop (mkF m 14 #[.val (.ref a1), .val (.int x1), .val (.int (0 : Int32))] [(.ref a1), (.int (0 : Int32)), (.int x1), (.ref t1)]))) (fun t k => XS.aloadN X2.here hx rfl (hb hby d11_13) rfl rfl k) ?_
  obtain ⟨cq3, kq3, qa3, qb3, qc3⟩ := isOf hZ e2 E1
  obtain ⟨_, _, ⟨T3, L3, k3, n3⟩, -, X3, ⟨Lc3, hQ3, l3, y3, z3⟩, st3⟩ := X2.virtualBack hx (y := (⟨"java/lang/String", "length", "()I"⟩ : MethodName)) (z := (⟨"java/lang/String", "length", "()I"⟩ : MethodName)) hown (mvT hZ (Wd59 hw)) (mvT hZ (Wd60 hw)) (notFace_of_selects (args := #[]) (mvT hZ (Wd62 hw))) (mvT hZ (Wd62 hw)) (mvT hZ (Wd61 hw)) (by decide) (backOf (W := 3) (rmLe_3 l Z a0 hw [] a1  h0 E1 C1 t1 kt V1 c0 c1 c2 A1 n0 X00 zc O2 P5) hZ (Wd63 hw) (Wd6 hw) (by decide) (by decide)) qa3 qc3 (g := (mkF m 14 #[.val (.ref a1), .val (.int x1), .val (.int (0 : Int32))] [(.ref a1), (.int (0 : Int32)), (.int x1), (.ref t1)])) rfl (by rw [hml]; rfl) (Steps.refl _) (argsL := []) (rest := [(.int (0 : Int32)), (.int x1), (.ref t1)]) (lenOf pd6 rfl) rfl (by show 2 * 0 + _ ≤ _; exact Nat.le_of_eq rfl) (hb hby d11_14) (fun _ _ => ⟨rfl, e2, (Nat.le_of_ble_eq_true rfl), (Nat.le_of_ble_eq_true rfl)⟩)
  dsimp only [Pt.U, Pt.locs, Pt.cells, Pt.slots] at X3 l3 y3 z3 st3 hQ3
  subst l3 y3 z3
  obtain ⟨rfl, rfl, e3⟩ := hQ3
  refine OD.via (B := (T3.setTop (mkF m 17 #[.val (.ref a1), .val (.int x1), .val (.int (0 : Int32))] [(.int (3 : Int32)), (.int (0 : Int32)), (.int x1), (.ref t1)]))) st3 ?_
  obtain ⟨_, _, ⟨T4, L4, k4, n4⟩, -, X4, ⟨Lc4, hQ4, l4, y4, z4⟩, st4⟩ := Jvm.LawKit.callS X3 hx (y := (⟨"java/lang/StringLatin1", "indexOf", "([BIII)I"⟩ : MethodName)) hown (mvT hZ (Wd69 hw)) (mvT hZ (Wd70 hw)) (mvT hZ (Wd71 hw)) (mvT hZ (Wd72 hw)) (by decide) (backOf (W := 0) (rmLI3 l Z a0 hw [] t1 x1 h0 kt c0 c1 c2 A1) hZ (Wd72 hw) (Wd71 hw) (by decide) (by decide)) (g := (mkF m 17 #[.val (.ref a1), .val (.int x1), .val (.int (0 : Int32))] [(.int (3 : Int32)), (.int (0 : Int32)), (.int x1), (.ref t1)])) rfl (by rw [hml]; rfl) (argsL := [(.ref t1), (.int x1), (.int (0 : Int32)), (.int (3 : Int32))]) (rest := []) (lenOf pd4 rfl) rfl (by show 2 * 0 + _ ≤ _; exact Nat.le_of_eq rfl) (hb hby d11_17) (fun _ _ => ⟨rfl, e3, (Nat.le_of_ble_eq_true rfl), (Nat.le_of_ble_eq_true rfl)⟩)
  dsimp only [Pt.U, Pt.locs, Pt.cells, Pt.slots] at X4 l4 y4 z4 st4 hQ4
  subst l4 y4 z4
  obtain ⟨rfl, rfl, e4⟩ := hQ4
  refine OD.go (B := (T4.setTop (mkF m 20 #[.val (.ref a1), .val (.int x1), .val (.int (0 : Int32))] [(.int (own_li3 c0 c1 c2 x1))]))) st4 ?_
  refine OD.go (B := (T4.setTop (mkF m 36 #[.val (.ref a1), .val (.int x1), .val (.int (0 : Int32))] [(.int (own_li3 c0 c1 c2 x1))]))) (fun t k => XS.goto X4.here hx rfl (pc0 := 20) (pc' := 36) rfl (hb hby d11_20) (by decide) (by decide) k) ?_
  exact OD.ret X4 hx hlk (t := .int) Bd.returns rfl (Or.inl ⟨rfl, Or.inl rfl, _, rfl⟩) (hb hby d11_36) (Nat.le_of_ble_eq_true rfl) (Nat.le_of_ble_eq_true rfl) ⟨rfl, rfl, e4⟩
def Q_rmX2_4 (Z : State) (a1 : Addr) (x1 : Int32) (h0 : Heap) (c0 c1 c2 c3 : Int32) (v : Option Value) (h : Heap) (L : List Loc) : Prop := v = some (.int (own_li4 c0 c1 c2 c3 x1)) ∧ L = [] ∧ h = h0
set_option maxRecDepth 65536 in
set_option maxHeartbeats 40000000 in
theorem rmX2_4 (l : Launch) (Z : State) (a0 : Array Value) (hw : ∀ d ∈ tables_1, d.before a0 Z = true) (ws : List Jvm.Cond) (a1 : Addr) (x1 : Int32) (h0 : Heap) (E1 : Exa Z h0 a1 "java/lang/String") (C1 : Fld Z h0 a1 "java/lang/String" "coder" "B" (.int (0 : Int32))) (t1 : Addr) (kt : ClassId) (V1 : Fld Z h0 a1 "java/lang/String" "value" "[B" (.ref t1)) (c0 c1 c2 c3 : Int32) (A1 : Arv Z h0 t1 kt .byte (4 : Int32) [(.int c0), (.int c1), (.int c2), (.int c3)] (.int 0)) (n0 : Nat) (X00 : Old Z n0 h0) (zc : Int32) (O2 : Sta Z Z.heap "java/lang/String" "COMPACT_STRINGS" "Z" (.int zc)) (P5 : ¬ zc = 0) :
    MetFree l (⟨"java/lang/String", "indexOf", "(II)I"⟩ : MethodName) (head1 (Jvm.Cond.code (⟨"java/lang/String", "indexOf", "(II)I"⟩ : MethodName) jdk_42_method_80_code 3 (some .int) :: ws) ({ frames := 3, cells := 0, slots := 0, locals := 60 } : Room)) (fun a U => a = #[(.ref a1), (.int x1), (.int (0 : Int32))] ∧ Z.Warmed39 U.vm ∧ U.heap = h0) (fun _ _ _ _ _ => True) (fun _ U o U' => ∃ v L, o = .returned v ∧ Q_rmX2_4 Z a1 x1 h0 c0 c1 c2 c3 v U'.heap L ∧ FrameEnd U o U' L ({ frames := 3, cells := 0, slots := 0, locals := 60 } : Room).cells ({ frames := 3, cells := 0, slots := 0, locals := 60 } : Room).slots) := by
  refine MetFree.of_bodySF (plainFor_of_name pn0) hisR ?_
  intro p e s m args below meth c s₁ Bd hml0 hP hK
  obtain ⟨rfl, hZ, hh⟩ := hP
  have hx := Bd.exec
  have hby := Bd.bytes
  have hlk : meth.locks = false := Bd.notSynchronized
  have hml : c.maxLocals = 3 := hml0
  have hown : s.vm.findClass "java/lang/String" = some m.cls := findClass_of_methodNamed Bd.named
  have hnm := (name_of_methodNamed Bd.named Bd.method).1
  have X0 : Stand p l e ({ frames := 3, cells := 0, slots := 0, locals := 60 } : Room) s m #[(.ref a1), (.int x1), (.int (0 : Int32))] below meth c s₁ [] 0 0 := Stand.of_body Bd
  have e0 : s₁.heap = h0 := by rw [← hh, Bd.state]; rfl
  suffices hgo : OD p e s below (Q_rmX2_4 Z a1 x1 h0 c0 c1 c2 c3) ({ frames := 3, cells := 0, slots := 0, locals := 60 } : Room).cells ({ frames := 3, cells := 0, slots := 0, locals := 60 } : Room).slots (s₁.setTop (mkF m 0 #[.val (.ref a1), .val (.int x1), .val (.int (0 : Int32))] [])) by
    obtain ⟨s₂, o, hgo1, hgo2⟩ := hgo
    exact ⟨s₂, o, castTop (ef7 m a1 x1 (0 : Int32)) hgo1, hgo2⟩
  refine OD.go (B := (s₁.setTop (mkF m 1 #[.val (.ref a1), .val (.int x1), .val (.int (0 : Int32))] [(.ref a1)]))) (fun t k => XS.aloadN X0.here hx rfl (hb hby d11_0) rfl rfl k) ?_
  obtain ⟨cq1, kq1, qa1, qb1, qc1⟩ := isOf hZ e0 E1
  obtain ⟨_, _, ⟨T1, L1, k1, n1⟩, -, X1, ⟨Lc1, hQ1, l1, y1, z1⟩, st1⟩ := X0.virtualBack hx (y := (⟨"java/lang/String", "isLatin1", "()Z"⟩ : MethodName)) (z := (⟨"java/lang/String", "isLatin1", "()Z"⟩ : MethodName)) hown (mvT hZ (Wd54 hw)) (mvT hZ (Wd55 hw)) (notFace_of_selects (args := #[]) (mvT hZ (Wd57 hw))) (mvT hZ (Wd57 hw)) (mvT hZ (Wd56 hw)) (by decide) (backOf (W := 0) (rmIL_4 l Z a0 hw [] a1  h0 E1 C1 t1 kt V1 c0 c1 c2 c3 A1 n0 X00 zc O2 P5) hZ (Wd58 hw) (Wd6 hw) (by decide) (by decide)) qa1 qc1 (g := (mkF m 1 #[.val (.ref a1), .val (.int x1), .val (.int (0 : Int32))] [(.ref a1)])) rfl (by rw [hml]; rfl) (Steps.refl _) (argsL := []) (rest := []) (lenOf pd5 rfl) rfl (by show 2 * 0 + _ ≤ _; exact Nat.le_of_eq rfl) (hb hby d11_1) (fun _ _ => ⟨rfl, e0, (Nat.le_of_ble_eq_true rfl), (Nat.le_of_ble_eq_true rfl)⟩)
  dsimp only [Pt.U, Pt.locs, Pt.cells, Pt.slots] at X1 l1 y1 z1 st1 hQ1
  subst l1 y1 z1
  obtain ⟨rfl, rfl, e1⟩ := hQ1
  refine OD.via (B := (T1.setTop (mkF m 4 #[.val (.ref a1), .val (.int x1), .val (.int (0 : Int32))] [(.int (1 : Int32))]))) st1 ?_
  refine OD.go (B := (T1.setTop (mkF m 7 #[.val (.ref a1), .val (.int x1), .val (.int (0 : Int32))] []))) (fun t k => XS.ifNo X1.here hx rfl (hb hby d11_4) rfl (by rw [if0]; exact (feq (by decide : ¬ (1 : Int32) = (0 : Int32))).1) k) ?_
  refine OD.go (B := (T1.setTop (mkF m 8 #[.val (.ref a1), .val (.int x1), .val (.int (0 : Int32))] [(.ref a1)]))) (fun t k => XS.aloadN X1.here hx rfl (hb hby d11_7) rfl rfl k) ?_
  obtain ⟨T2, X2, e2, st2⟩ := getF X1 hx hZ hown (host := "") (Or.inl (Wd32 hw)) Via.refl e1 V1 (g := (mkF m 8 #[.val (.ref a1), .val (.int x1), .val (.int (0 : Int32))] [(.ref a1)])) rfl rfl (hb hby d11_8)
  refine OD.go (B := (T2.setTop (mkF m 11 #[.val (.ref a1), .val (.int x1), .val (.int (0 : Int32))] [(.ref t1)]))) st2 ?_
  refine OD.go (B := (T2.setTop (mkF m 12 #[.val (.ref a1), .val (.int x1), .val (.int (0 : Int32))] [(.int x1), (.ref t1)]))) (fun t k => XS.iloadN X2.here hx rfl (hb hby d11_11) rfl k) ?_
  refine OD.go (B := (T2.setTop (mkF m 13 #[.val (.ref a1), .val (.int x1), .val (.int (0 : Int32))] [(.int (0 : Int32)), (.int x1), (.ref t1)]))) (fun t k => XS.iloadN X2.here hx rfl (hb hby d11_12) rfl k) ?_
  refine OD.go (B := (T2.setTop (mkF m 14 #[.val (.ref a1), .val (.int x1), .val (.int (0 : Int32))] [(.ref a1), (.int (0 : Int32)), (.int x1), (.ref t1)]))) (fun t k => XS.aloadN X2.here hx rfl (hb hby d11_13) rfl rfl k) ?_
  obtain ⟨cq3, kq3, qa3, qb3, qc3⟩ := isOf hZ e2 E1
  obtain ⟨_, _, ⟨T3, L3, k3, n3⟩, -, X3, ⟨Lc3, hQ3, l3, y3, z3⟩, st3⟩ := X2.virtualBack hx (y := (⟨"java/lang/String", "length", "()I"⟩ : MethodName)) (z := (⟨"java/lang/String", "length", "()I"⟩ : MethodName)) hown (mvT hZ (Wd59 hw)) (mvT hZ (Wd60 hw)) (notFace_of_selects (args := #[]) (mvT hZ (Wd62 hw))) (mvT hZ (Wd62 hw)) (mvT hZ (Wd61 hw)) (by decide) (backOf (W := 3) (rmLe_4 l Z a0 hw [] a1  h0 E1 C1 t1 kt V1 c0 c1 c2 c3 A1 n0 X00 zc O2 P5) hZ (Wd63 hw) (Wd6 hw) (by decide) (by decide)) qa3 qc3 (g := (mkF m 14 #[.val (.ref a1), .val (.int x1), .val (.int (0 : Int32))] [(.ref a1), (.int (0 : Int32)), (.int x1), (.ref t1)])) rfl (by rw [hml]; rfl) (Steps.refl _) (argsL := []) (rest := [(.int (0 : Int32)), (.int x1), (.ref t1)]) (lenOf pd6 rfl) rfl (by show 2 * 0 + _ ≤ _; exact Nat.le_of_eq rfl) (hb hby d11_14) (fun _ _ => ⟨rfl, e2, (Nat.le_of_ble_eq_true rfl), (Nat.le_of_ble_eq_true rfl)⟩)
  dsimp only [Pt.U, Pt.locs, Pt.cells, Pt.slots] at X3 l3 y3 z3 st3 hQ3
  subst l3 y3 z3
  obtain ⟨rfl, rfl, e3⟩ := hQ3
  refine OD.via (B := (T3.setTop (mkF m 17 #[.val (.ref a1), .val (.int x1), .val (.int (0 : Int32))] [(.int (4 : Int32)), (.int (0 : Int32)), (.int x1), (.ref t1)]))) st3 ?_
  obtain ⟨_, _, ⟨T4, L4, k4, n4⟩, -, X4, ⟨Lc4, hQ4, l4, y4, z4⟩, st4⟩ := Jvm.LawKit.callS X3 hx (y := (⟨"java/lang/StringLatin1", "indexOf", "([BIII)I"⟩ : MethodName)) hown (mvT hZ (Wd69 hw)) (mvT hZ (Wd70 hw)) (mvT hZ (Wd71 hw)) (mvT hZ (Wd72 hw)) (by decide) (backOf (W := 0) (rmLI4 l Z a0 hw [] t1 x1 h0 kt c0 c1 c2 c3 A1) hZ (Wd72 hw) (Wd71 hw) (by decide) (by decide)) (g := (mkF m 17 #[.val (.ref a1), .val (.int x1), .val (.int (0 : Int32))] [(.int (4 : Int32)), (.int (0 : Int32)), (.int x1), (.ref t1)])) rfl (by rw [hml]; rfl) (argsL := [(.ref t1), (.int x1), (.int (0 : Int32)), (.int (4 : Int32))]) (rest := []) (lenOf pd4 rfl) rfl (by show 2 * 0 + _ ≤ _; exact Nat.le_of_eq rfl) (hb hby d11_17) (fun _ _ => ⟨rfl, e3, (Nat.le_of_ble_eq_true rfl), (Nat.le_of_ble_eq_true rfl)⟩)
  dsimp only [Pt.U, Pt.locs, Pt.cells, Pt.slots] at X4 l4 y4 z4 st4 hQ4
  subst l4 y4 z4
  obtain ⟨rfl, rfl, e4⟩ := hQ4
  refine OD.go (B := (T4.setTop (mkF m 20 #[.val (.ref a1), .val (.int x1), .val (.int (0 : Int32))] [(.int (own_li4 c0 c1 c2 c3 x1))]))) st4 ?_
  refine OD.go (B := (T4.setTop (mkF m 36 #[.val (.ref a1), .val (.int x1), .val (.int (0 : Int32))] [(.int (own_li4 c0 c1 c2 c3 x1))]))) (fun t k => XS.goto X4.here hx rfl (pc0 := 20) (pc' := 36) rfl (hb hby d11_20) (by decide) (by decide) k) ?_
  exact OD.ret X4 hx hlk (t := .int) Bd.returns rfl (Or.inl ⟨rfl, Or.inl rfl, _, rfl⟩) (hb hby d11_36) (Nat.le_of_ble_eq_true rfl) (Nat.le_of_ble_eq_true rfl) ⟨rfl, rfl, e4⟩
def Q_rmX1_0 (Z : State) (a1 : Addr) (x1 : Int32) (h0 : Heap) (v : Option Value) (h : Heap) (L : List Loc) : Prop := v = some (.int (own_li0  x1)) ∧ L = [] ∧ h = h0
set_option maxRecDepth 65536 in
set_option maxHeartbeats 40000000 in
theorem rmX1_0 (l : Launch) (Z : State) (a0 : Array Value) (hw : ∀ d ∈ tables_1, d.before a0 Z = true) (ws : List Jvm.Cond) (a1 : Addr) (x1 : Int32) (h0 : Heap) (E1 : Exa Z h0 a1 "java/lang/String") (C1 : Fld Z h0 a1 "java/lang/String" "coder" "B" (.int (0 : Int32))) (t1 : Addr) (kt : ClassId) (V1 : Fld Z h0 a1 "java/lang/String" "value" "[B" (.ref t1)) (A1 : Arv Z h0 t1 kt .byte (0 : Int32) [] (.int 0)) (n0 : Nat) (X00 : Old Z n0 h0) (zc : Int32) (O2 : Sta Z Z.heap "java/lang/String" "COMPACT_STRINGS" "Z" (.int zc)) (P5 : ¬ zc = 0) :
    MetFree l (⟨"java/lang/String", "indexOf", "(I)I"⟩ : MethodName) (head1 (Jvm.Cond.code (⟨"java/lang/String", "indexOf", "(I)I"⟩ : MethodName) jdk_42_method_79_code 2 (some .int) :: ws) ({ frames := 4, cells := 0, slots := 0, locals := 80 } : Room)) (fun a U => a = #[(.ref a1), (.int x1)] ∧ Z.Warmed39 U.vm ∧ U.heap = h0) (fun _ _ _ _ _ => True) (fun _ U o U' => ∃ v L, o = .returned v ∧ Q_rmX1_0 Z a1 x1 h0 v U'.heap L ∧ FrameEnd U o U' L ({ frames := 4, cells := 0, slots := 0, locals := 80 } : Room).cells ({ frames := 4, cells := 0, slots := 0, locals := 80 } : Room).slots) := by
  refine MetFree.of_bodySF (plainFor_of_name pn0) hisR ?_
  intro p e s m args below meth c s₁ Bd hml0 hP hK
  obtain ⟨rfl, hZ, hh⟩ := hP
  have hx := Bd.exec
  have hby := Bd.bytes
  have hlk : meth.locks = false := Bd.notSynchronized
  have hml : c.maxLocals = 2 := hml0
  have hown : s.vm.findClass "java/lang/String" = some m.cls := findClass_of_methodNamed Bd.named
  have hnm := (name_of_methodNamed Bd.named Bd.method).1
  have X0 : Stand p l e ({ frames := 4, cells := 0, slots := 0, locals := 80 } : Room) s m #[(.ref a1), (.int x1)] below meth c s₁ [] 0 0 := Stand.of_body Bd
  have e0 : s₁.heap = h0 := by rw [← hh, Bd.state]; rfl
  suffices hgo : OD p e s below (Q_rmX1_0 Z a1 x1 h0) ({ frames := 4, cells := 0, slots := 0, locals := 80 } : Room).cells ({ frames := 4, cells := 0, slots := 0, locals := 80 } : Room).slots (s₁.setTop (mkF m 0 #[.val (.ref a1), .val (.int x1)] [])) by
    obtain ⟨s₂, o, hgo1, hgo2⟩ := hgo
    exact ⟨s₂, o, castTop (ef8 m a1 x1) hgo1, hgo2⟩
  refine OD.go (B := (s₁.setTop (mkF m 1 #[.val (.ref a1), .val (.int x1)] [(.ref a1)]))) (fun t k => XS.aloadN X0.here hx rfl (hb hby d10_0) rfl rfl k) ?_
  refine OD.go (B := (s₁.setTop (mkF m 2 #[.val (.ref a1), .val (.int x1)] [(.int x1), (.ref a1)]))) (fun t k => XS.iloadN X0.here hx rfl (hb hby d10_1) rfl k) ?_
  refine OD.go (B := (s₁.setTop (mkF m 3 #[.val (.ref a1), .val (.int x1)] [(.int (0 : Int32)), (.int x1), (.ref a1)]))) (fun t k => XS.iconst X0.here hx rfl (hb hby d10_2) k) ?_
  obtain ⟨cq1, kq1, qa1, qb1, qc1⟩ := isOf hZ e0 E1
  obtain ⟨_, _, ⟨T1, L1, k1, n1⟩, -, X1, ⟨Lc1, hQ1, l1, y1, z1⟩, st1⟩ := X0.virtualBack hx (y := (⟨"java/lang/String", "indexOf", "(II)I"⟩ : MethodName)) (z := (⟨"java/lang/String", "indexOf", "(II)I"⟩ : MethodName)) hown (mvT hZ (Wd49 hw)) (mvT hZ (Wd50 hw)) (notFace_of_selects (args := #[]) (mvT hZ (Wd52 hw))) (mvT hZ (Wd52 hw)) (mvT hZ (Wd51 hw)) (by decide) (backOf (W := 0) (rmX2_0 l Z a0 hw [] a1 x1 h0 E1 C1 t1 kt V1  A1 n0 X00 zc O2 P5) hZ (Wd53 hw) (Wd6 hw) (by decide) (by decide)) qa1 qc1 (g := (mkF m 3 #[.val (.ref a1), .val (.int x1)] [(.int (0 : Int32)), (.int x1), (.ref a1)])) rfl (by rw [hml]; rfl) (Steps.refl _) (argsL := [(.int x1), (.int (0 : Int32))]) (rest := []) (lenOf pd3 rfl) rfl (by show 2 * 0 + _ ≤ _; exact Nat.le_of_eq rfl) (hb hby d10_3) (fun _ _ => ⟨rfl, e0, (Nat.le_of_ble_eq_true rfl), (Nat.le_of_ble_eq_true rfl)⟩)
  dsimp only [Pt.U, Pt.locs, Pt.cells, Pt.slots] at X1 l1 y1 z1 st1 hQ1
  subst l1 y1 z1
  obtain ⟨rfl, rfl, e1⟩ := hQ1
  refine OD.via (B := (T1.setTop (mkF m 6 #[.val (.ref a1), .val (.int x1)] [(.int (own_li0  x1))]))) st1 ?_
  exact OD.ret X1 hx hlk (t := .int) Bd.returns rfl (Or.inl ⟨rfl, Or.inl rfl, _, rfl⟩) (hb hby d10_6) (Nat.le_of_ble_eq_true rfl) (Nat.le_of_ble_eq_true rfl) ⟨rfl, rfl, e1⟩
def Q_rmX1_1 (Z : State) (a1 : Addr) (x1 : Int32) (h0 : Heap) (c0 : Int32) (v : Option Value) (h : Heap) (L : List Loc) : Prop := v = some (.int (own_li1 c0 x1)) ∧ L = [] ∧ h = h0
set_option maxRecDepth 65536 in
set_option maxHeartbeats 40000000 in
theorem rmX1_1 (l : Launch) (Z : State) (a0 : Array Value) (hw : ∀ d ∈ tables_1, d.before a0 Z = true) (ws : List Jvm.Cond) (a1 : Addr) (x1 : Int32) (h0 : Heap) (E1 : Exa Z h0 a1 "java/lang/String") (C1 : Fld Z h0 a1 "java/lang/String" "coder" "B" (.int (0 : Int32))) (t1 : Addr) (kt : ClassId) (V1 : Fld Z h0 a1 "java/lang/String" "value" "[B" (.ref t1)) (c0 : Int32) (A1 : Arv Z h0 t1 kt .byte (1 : Int32) [(.int c0)] (.int 0)) (n0 : Nat) (X00 : Old Z n0 h0) (zc : Int32) (O2 : Sta Z Z.heap "java/lang/String" "COMPACT_STRINGS" "Z" (.int zc)) (P5 : ¬ zc = 0) :
    MetFree l (⟨"java/lang/String", "indexOf", "(I)I"⟩ : MethodName) (head1 (Jvm.Cond.code (⟨"java/lang/String", "indexOf", "(I)I"⟩ : MethodName) jdk_42_method_79_code 2 (some .int) :: ws) ({ frames := 4, cells := 0, slots := 0, locals := 80 } : Room)) (fun a U => a = #[(.ref a1), (.int x1)] ∧ Z.Warmed39 U.vm ∧ U.heap = h0) (fun _ _ _ _ _ => True) (fun _ U o U' => ∃ v L, o = .returned v ∧ Q_rmX1_1 Z a1 x1 h0 c0 v U'.heap L ∧ FrameEnd U o U' L ({ frames := 4, cells := 0, slots := 0, locals := 80 } : Room).cells ({ frames := 4, cells := 0, slots := 0, locals := 80 } : Room).slots) := by
  refine MetFree.of_bodySF (plainFor_of_name pn0) hisR ?_
  intro p e s m args below meth c s₁ Bd hml0 hP hK
  obtain ⟨rfl, hZ, hh⟩ := hP
  have hx := Bd.exec
  have hby := Bd.bytes
  have hlk : meth.locks = false := Bd.notSynchronized
  have hml : c.maxLocals = 2 := hml0
  have hown : s.vm.findClass "java/lang/String" = some m.cls := findClass_of_methodNamed Bd.named
  have hnm := (name_of_methodNamed Bd.named Bd.method).1
  have X0 : Stand p l e ({ frames := 4, cells := 0, slots := 0, locals := 80 } : Room) s m #[(.ref a1), (.int x1)] below meth c s₁ [] 0 0 := Stand.of_body Bd
  have e0 : s₁.heap = h0 := by rw [← hh, Bd.state]; rfl
  suffices hgo : OD p e s below (Q_rmX1_1 Z a1 x1 h0 c0) ({ frames := 4, cells := 0, slots := 0, locals := 80 } : Room).cells ({ frames := 4, cells := 0, slots := 0, locals := 80 } : Room).slots (s₁.setTop (mkF m 0 #[.val (.ref a1), .val (.int x1)] [])) by
    obtain ⟨s₂, o, hgo1, hgo2⟩ := hgo
    exact ⟨s₂, o, castTop (ef8 m a1 x1) hgo1, hgo2⟩
  refine OD.go (B := (s₁.setTop (mkF m 1 #[.val (.ref a1), .val (.int x1)] [(.ref a1)]))) (fun t k => XS.aloadN X0.here hx rfl (hb hby d10_0) rfl rfl k) ?_
  refine OD.go (B := (s₁.setTop (mkF m 2 #[.val (.ref a1), .val (.int x1)] [(.int x1), (.ref a1)]))) (fun t k => XS.iloadN X0.here hx rfl (hb hby d10_1) rfl k) ?_
  refine OD.go (B := (s₁.setTop (mkF m 3 #[.val (.ref a1), .val (.int x1)] [(.int (0 : Int32)), (.int x1), (.ref a1)]))) (fun t k => XS.iconst X0.here hx rfl (hb hby d10_2) k) ?_
  obtain ⟨cq1, kq1, qa1, qb1, qc1⟩ := isOf hZ e0 E1
  obtain ⟨_, _, ⟨T1, L1, k1, n1⟩, -, X1, ⟨Lc1, hQ1, l1, y1, z1⟩, st1⟩ := X0.virtualBack hx (y := (⟨"java/lang/String", "indexOf", "(II)I"⟩ : MethodName)) (z := (⟨"java/lang/String", "indexOf", "(II)I"⟩ : MethodName)) hown (mvT hZ (Wd49 hw)) (mvT hZ (Wd50 hw)) (notFace_of_selects (args := #[]) (mvT hZ (Wd52 hw))) (mvT hZ (Wd52 hw)) (mvT hZ (Wd51 hw)) (by decide) (backOf (W := 0) (rmX2_1 l Z a0 hw [] a1 x1 h0 E1 C1 t1 kt V1 c0 A1 n0 X00 zc O2 P5) hZ (Wd53 hw) (Wd6 hw) (by decide) (by decide)) qa1 qc1 (g := (mkF m 3 #[.val (.ref a1), .val (.int x1)] [(.int (0 : Int32)), (.int x1), (.ref a1)])) rfl (by rw [hml]; rfl) (Steps.refl _) (argsL := [(.int x1), (.int (0 : Int32))]) (rest := []) (lenOf pd3 rfl) rfl (by show 2 * 0 + _ ≤ _; exact Nat.le_of_eq rfl) (hb hby d10_3) (fun _ _ => ⟨rfl, e0, (Nat.le_of_ble_eq_true rfl), (Nat.le_of_ble_eq_true rfl)⟩)
  dsimp only [Pt.U, Pt.locs, Pt.cells, Pt.slots] at X1 l1 y1 z1 st1 hQ1
  subst l1 y1 z1
  obtain ⟨rfl, rfl, e1⟩ := hQ1
  refine OD.via (B := (T1.setTop (mkF m 6 #[.val (.ref a1), .val (.int x1)] [(.int (own_li1 c0 x1))]))) st1 ?_
  exact OD.ret X1 hx hlk (t := .int) Bd.returns rfl (Or.inl ⟨rfl, Or.inl rfl, _, rfl⟩) (hb hby d10_6) (Nat.le_of_ble_eq_true rfl) (Nat.le_of_ble_eq_true rfl) ⟨rfl, rfl, e1⟩
def Q_rmX1_2 (Z : State) (a1 : Addr) (x1 : Int32) (h0 : Heap) (c0 c1 : Int32) (v : Option Value) (h : Heap) (L : List Loc) : Prop := v = some (.int (own_li2 c0 c1 x1)) ∧ L = [] ∧ h = h0
set_option maxRecDepth 65536 in
set_option maxHeartbeats 40000000 in
theorem rmX1_2 (l : Launch) (Z : State) (a0 : Array Value) (hw : ∀ d ∈ tables_1, d.before a0 Z = true) (ws : List Jvm.Cond) (a1 : Addr) (x1 : Int32) (h0 : Heap) (E1 : Exa Z h0 a1 "java/lang/String") (C1 : Fld Z h0 a1 "java/lang/String" "coder" "B" (.int (0 : Int32))) (t1 : Addr) (kt : ClassId) (V1 : Fld Z h0 a1 "java/lang/String" "value" "[B" (.ref t1)) (c0 c1 : Int32) (A1 : Arv Z h0 t1 kt .byte (2 : Int32) [(.int c0), (.int c1)] (.int 0)) (n0 : Nat) (X00 : Old Z n0 h0) (zc : Int32) (O2 : Sta Z Z.heap "java/lang/String" "COMPACT_STRINGS" "Z" (.int zc)) (P5 : ¬ zc = 0) :
    MetFree l (⟨"java/lang/String", "indexOf", "(I)I"⟩ : MethodName) (head1 (Jvm.Cond.code (⟨"java/lang/String", "indexOf", "(I)I"⟩ : MethodName) jdk_42_method_79_code 2 (some .int) :: ws) ({ frames := 4, cells := 0, slots := 0, locals := 80 } : Room)) (fun a U => a = #[(.ref a1), (.int x1)] ∧ Z.Warmed39 U.vm ∧ U.heap = h0) (fun _ _ _ _ _ => True) (fun _ U o U' => ∃ v L, o = .returned v ∧ Q_rmX1_2 Z a1 x1 h0 c0 c1 v U'.heap L ∧ FrameEnd U o U' L ({ frames := 4, cells := 0, slots := 0, locals := 80 } : Room).cells ({ frames := 4, cells := 0, slots := 0, locals := 80 } : Room).slots) := by
  refine MetFree.of_bodySF (plainFor_of_name pn0) hisR ?_
  intro p e s m args below meth c s₁ Bd hml0 hP hK
  obtain ⟨rfl, hZ, hh⟩ := hP
  have hx := Bd.exec
  have hby := Bd.bytes
  have hlk : meth.locks = false := Bd.notSynchronized
  have hml : c.maxLocals = 2 := hml0
  have hown : s.vm.findClass "java/lang/String" = some m.cls := findClass_of_methodNamed Bd.named
  have hnm := (name_of_methodNamed Bd.named Bd.method).1
  have X0 : Stand p l e ({ frames := 4, cells := 0, slots := 0, locals := 80 } : Room) s m #[(.ref a1), (.int x1)] below meth c s₁ [] 0 0 := Stand.of_body Bd
  have e0 : s₁.heap = h0 := by rw [← hh, Bd.state]; rfl
  suffices hgo : OD p e s below (Q_rmX1_2 Z a1 x1 h0 c0 c1) ({ frames := 4, cells := 0, slots := 0, locals := 80 } : Room).cells ({ frames := 4, cells := 0, slots := 0, locals := 80 } : Room).slots (s₁.setTop (mkF m 0 #[.val (.ref a1), .val (.int x1)] [])) by
    obtain ⟨s₂, o, hgo1, hgo2⟩ := hgo
    exact ⟨s₂, o, castTop (ef8 m a1 x1) hgo1, hgo2⟩
  refine OD.go (B := (s₁.setTop (mkF m 1 #[.val (.ref a1), .val (.int x1)] [(.ref a1)]))) (fun t k => XS.aloadN X0.here hx rfl (hb hby d10_0) rfl rfl k) ?_
  refine OD.go (B := (s₁.setTop (mkF m 2 #[.val (.ref a1), .val (.int x1)] [(.int x1), (.ref a1)]))) (fun t k => XS.iloadN X0.here hx rfl (hb hby d10_1) rfl k) ?_
  refine OD.go (B := (s₁.setTop (mkF m 3 #[.val (.ref a1), .val (.int x1)] [(.int (0 : Int32)), (.int x1), (.ref a1)]))) (fun t k => XS.iconst X0.here hx rfl (hb hby d10_2) k) ?_
  obtain ⟨cq1, kq1, qa1, qb1, qc1⟩ := isOf hZ e0 E1
  obtain ⟨_, _, ⟨T1, L1, k1, n1⟩, -, X1, ⟨Lc1, hQ1, l1, y1, z1⟩, st1⟩ := X0.virtualBack hx (y := (⟨"java/lang/String", "indexOf", "(II)I"⟩ : MethodName)) (z := (⟨"java/lang/String", "indexOf", "(II)I"⟩ : MethodName)) hown (mvT hZ (Wd49 hw)) (mvT hZ (Wd50 hw)) (notFace_of_selects (args := #[]) (mvT hZ (Wd52 hw))) (mvT hZ (Wd52 hw)) (mvT hZ (Wd51 hw)) (by decide) (backOf (W := 0) (rmX2_2 l Z a0 hw [] a1 x1 h0 E1 C1 t1 kt V1 c0 c1 A1 n0 X00 zc O2 P5) hZ (Wd53 hw) (Wd6 hw) (by decide) (by decide)) qa1 qc1 (g := (mkF m 3 #[.val (.ref a1), .val (.int x1)] [(.int (0 : Int32)), (.int x1), (.ref a1)])) rfl (by rw [hml]; rfl) (Steps.refl _) (argsL := [(.int x1), (.int (0 : Int32))]) (rest := []) (lenOf pd3 rfl) rfl (by show 2 * 0 + _ ≤ _; exact Nat.le_of_eq rfl) (hb hby d10_3) (fun _ _ => ⟨rfl, e0, (Nat.le_of_ble_eq_true rfl), (Nat.le_of_ble_eq_true rfl)⟩)
  dsimp only [Pt.U, Pt.locs, Pt.cells, Pt.slots] at X1 l1 y1 z1 st1 hQ1
  subst l1 y1 z1
  obtain ⟨rfl, rfl, e1⟩ := hQ1
  refine OD.via (B := (T1.setTop (mkF m 6 #[.val (.ref a1), .val (.int x1)] [(.int (own_li2 c0 c1 x1))]))) st1 ?_
  exact OD.ret X1 hx hlk (t := .int) Bd.returns rfl (Or.inl ⟨rfl, Or.inl rfl, _, rfl⟩) (hb hby d10_6) (Nat.le_of_ble_eq_true rfl) (Nat.le_of_ble_eq_true rfl) ⟨rfl, rfl, e1⟩
def Q_rmX1_3 (Z : State) (a1 : Addr) (x1 : Int32) (h0 : Heap) (c0 c1 c2 : Int32) (v : Option Value) (h : Heap) (L : List Loc) : Prop := v = some (.int (own_li3 c0 c1 c2 x1)) ∧ L = [] ∧ h = h0
set_option maxRecDepth 65536 in
set_option maxHeartbeats 40000000 in
theorem rmX1_3 (l : Launch) (Z : State) (a0 : Array Value) (hw : ∀ d ∈ tables_1, d.before a0 Z = true) (ws : List Jvm.Cond) (a1 : Addr) (x1 : Int32) (h0 : Heap) (E1 : Exa Z h0 a1 "java/lang/String") (C1 : Fld Z h0 a1 "java/lang/String" "coder" "B" (.int (0 : Int32))) (t1 : Addr) (kt : ClassId) (V1 : Fld Z h0 a1 "java/lang/String" "value" "[B" (.ref t1)) (c0 c1 c2 : Int32) (A1 : Arv Z h0 t1 kt .byte (3 : Int32) [(.int c0), (.int c1), (.int c2)] (.int 0)) (n0 : Nat) (X00 : Old Z n0 h0) (zc : Int32) (O2 : Sta Z Z.heap "java/lang/String" "COMPACT_STRINGS" "Z" (.int zc)) (P5 : ¬ zc = 0) :
    MetFree l (⟨"java/lang/String", "indexOf", "(I)I"⟩ : MethodName) (head1 (Jvm.Cond.code (⟨"java/lang/String", "indexOf", "(I)I"⟩ : MethodName) jdk_42_method_79_code 2 (some .int) :: ws) ({ frames := 4, cells := 0, slots := 0, locals := 80 } : Room)) (fun a U => a = #[(.ref a1), (.int x1)] ∧ Z.Warmed39 U.vm ∧ U.heap = h0) (fun _ _ _ _ _ => True) (fun _ U o U' => ∃ v L, o = .returned v ∧ Q_rmX1_3 Z a1 x1 h0 c0 c1 c2 v U'.heap L ∧ FrameEnd U o U' L ({ frames := 4, cells := 0, slots := 0, locals := 80 } : Room).cells ({ frames := 4, cells := 0, slots := 0, locals := 80 } : Room).slots) := by
  refine MetFree.of_bodySF (plainFor_of_name pn0) hisR ?_
  intro p e s m args below meth c s₁ Bd hml0 hP hK
  obtain ⟨rfl, hZ, hh⟩ := hP
  have hx := Bd.exec
  have hby := Bd.bytes
  have hlk : meth.locks = false := Bd.notSynchronized
  have hml : c.maxLocals = 2 := hml0
  have hown : s.vm.findClass "java/lang/String" = some m.cls := findClass_of_methodNamed Bd.named
  have hnm := (name_of_methodNamed Bd.named Bd.method).1
  have X0 : Stand p l e ({ frames := 4, cells := 0, slots := 0, locals := 80 } : Room) s m #[(.ref a1), (.int x1)] below meth c s₁ [] 0 0 := Stand.of_body Bd
  have e0 : s₁.heap = h0 := by rw [← hh, Bd.state]; rfl
  suffices hgo : OD p e s below (Q_rmX1_3 Z a1 x1 h0 c0 c1 c2) ({ frames := 4, cells := 0, slots := 0, locals := 80 } : Room).cells ({ frames := 4, cells := 0, slots := 0, locals := 80 } : Room).slots (s₁.setTop (mkF m 0 #[.val (.ref a1), .val (.int x1)] [])) by
    obtain ⟨s₂, o, hgo1, hgo2⟩ := hgo
    exact ⟨s₂, o, castTop (ef8 m a1 x1) hgo1, hgo2⟩
  refine OD.go (B := (s₁.setTop (mkF m 1 #[.val (.ref a1), .val (.int x1)] [(.ref a1)]))) (fun t k => XS.aloadN X0.here hx rfl (hb hby d10_0) rfl rfl k) ?_
  refine OD.go (B := (s₁.setTop (mkF m 2 #[.val (.ref a1), .val (.int x1)] [(.int x1), (.ref a1)]))) (fun t k => XS.iloadN X0.here hx rfl (hb hby d10_1) rfl k) ?_
  refine OD.go (B := (s₁.setTop (mkF m 3 #[.val (.ref a1), .val (.int x1)] [(.int (0 : Int32)), (.int x1), (.ref a1)]))) (fun t k => XS.iconst X0.here hx rfl (hb hby d10_2) k) ?_
  obtain ⟨cq1, kq1, qa1, qb1, qc1⟩ := isOf hZ e0 E1
  obtain ⟨_, _, ⟨T1, L1, k1, n1⟩, -, X1, ⟨Lc1, hQ1, l1, y1, z1⟩, st1⟩ := X0.virtualBack hx (y := (⟨"java/lang/String", "indexOf", "(II)I"⟩ : MethodName)) (z := (⟨"java/lang/String", "indexOf", "(II)I"⟩ : MethodName)) hown (mvT hZ (Wd49 hw)) (mvT hZ (Wd50 hw)) (notFace_of_selects (args := #[]) (mvT hZ (Wd52 hw))) (mvT hZ (Wd52 hw)) (mvT hZ (Wd51 hw)) (by decide) (backOf (W := 0) (rmX2_3 l Z a0 hw [] a1 x1 h0 E1 C1 t1 kt V1 c0 c1 c2 A1 n0 X00 zc O2 P5) hZ (Wd53 hw) (Wd6 hw) (by decide) (by decide)) qa1 qc1 (g := (mkF m 3 #[.val (.ref a1), .val (.int x1)] [(.int (0 : Int32)), (.int x1), (.ref a1)])) rfl (by rw [hml]; rfl) (Steps.refl _) (argsL := [(.int x1), (.int (0 : Int32))]) (rest := []) (lenOf pd3 rfl) rfl (by show 2 * 0 + _ ≤ _; exact Nat.le_of_eq rfl) (hb hby d10_3) (fun _ _ => ⟨rfl, e0, (Nat.le_of_ble_eq_true rfl), (Nat.le_of_ble_eq_true rfl)⟩)
  dsimp only [Pt.U, Pt.locs, Pt.cells, Pt.slots] at X1 l1 y1 z1 st1 hQ1
  subst l1 y1 z1
  obtain ⟨rfl, rfl, e1⟩ := hQ1
  refine OD.via (B := (T1.setTop (mkF m 6 #[.val (.ref a1), .val (.int x1)] [(.int (own_li3 c0 c1 c2 x1))]))) st1 ?_
  exact OD.ret X1 hx hlk (t := .int) Bd.returns rfl (Or.inl ⟨rfl, Or.inl rfl, _, rfl⟩) (hb hby d10_6) (Nat.le_of_ble_eq_true rfl) (Nat.le_of_ble_eq_true rfl) ⟨rfl, rfl, e1⟩
def Q_rmX1_4 (Z : State) (a1 : Addr) (x1 : Int32) (h0 : Heap) (c0 c1 c2 c3 : Int32) (v : Option Value) (h : Heap) (L : List Loc) : Prop := v = some (.int (own_li4 c0 c1 c2 c3 x1)) ∧ L = [] ∧ h = h0
set_option maxRecDepth 65536 in
set_option maxHeartbeats 40000000 in
theorem rmX1_4 (l : Launch) (Z : State) (a0 : Array Value) (hw : ∀ d ∈ tables_1, d.before a0 Z = true) (ws : List Jvm.Cond) (a1 : Addr) (x1 : Int32) (h0 : Heap) (E1 : Exa Z h0 a1 "java/lang/String") (C1 : Fld Z h0 a1 "java/lang/String" "coder" "B" (.int (0 : Int32))) (t1 : Addr) (kt : ClassId) (V1 : Fld Z h0 a1 "java/lang/String" "value" "[B" (.ref t1)) (c0 c1 c2 c3 : Int32) (A1 : Arv Z h0 t1 kt .byte (4 : Int32) [(.int c0), (.int c1), (.int c2), (.int c3)] (.int 0)) (n0 : Nat) (X00 : Old Z n0 h0) (zc : Int32) (O2 : Sta Z Z.heap "java/lang/String" "COMPACT_STRINGS" "Z" (.int zc)) (P5 : ¬ zc = 0) :
    MetFree l (⟨"java/lang/String", "indexOf", "(I)I"⟩ : MethodName) (head1 (Jvm.Cond.code (⟨"java/lang/String", "indexOf", "(I)I"⟩ : MethodName) jdk_42_method_79_code 2 (some .int) :: ws) ({ frames := 4, cells := 0, slots := 0, locals := 80 } : Room)) (fun a U => a = #[(.ref a1), (.int x1)] ∧ Z.Warmed39 U.vm ∧ U.heap = h0) (fun _ _ _ _ _ => True) (fun _ U o U' => ∃ v L, o = .returned v ∧ Q_rmX1_4 Z a1 x1 h0 c0 c1 c2 c3 v U'.heap L ∧ FrameEnd U o U' L ({ frames := 4, cells := 0, slots := 0, locals := 80 } : Room).cells ({ frames := 4, cells := 0, slots := 0, locals := 80 } : Room).slots) := by
  refine MetFree.of_bodySF (plainFor_of_name pn0) hisR ?_
  intro p e s m args below meth c s₁ Bd hml0 hP hK
  obtain ⟨rfl, hZ, hh⟩ := hP
  have hx := Bd.exec
  have hby := Bd.bytes
  have hlk : meth.locks = false := Bd.notSynchronized
  have hml : c.maxLocals = 2 := hml0
  have hown : s.vm.findClass "java/lang/String" = some m.cls := findClass_of_methodNamed Bd.named
  have hnm := (name_of_methodNamed Bd.named Bd.method).1
  have X0 : Stand p l e ({ frames := 4, cells := 0, slots := 0, locals := 80 } : Room) s m #[(.ref a1), (.int x1)] below meth c s₁ [] 0 0 := Stand.of_body Bd
  have e0 : s₁.heap = h0 := by rw [← hh, Bd.state]; rfl
  suffices hgo : OD p e s below (Q_rmX1_4 Z a1 x1 h0 c0 c1 c2 c3) ({ frames := 4, cells := 0, slots := 0, locals := 80 } : Room).cells ({ frames := 4, cells := 0, slots := 0, locals := 80 } : Room).slots (s₁.setTop (mkF m 0 #[.val (.ref a1), .val (.int x1)] [])) by
    obtain ⟨s₂, o, hgo1, hgo2⟩ := hgo
    exact ⟨s₂, o, castTop (ef8 m a1 x1) hgo1, hgo2⟩
  refine OD.go (B := (s₁.setTop (mkF m 1 #[.val (.ref a1), .val (.int x1)] [(.ref a1)]))) (fun t k => XS.aloadN X0.here hx rfl (hb hby d10_0) rfl rfl k) ?_
  refine OD.go (B := (s₁.setTop (mkF m 2 #[.val (.ref a1), .val (.int x1)] [(.int x1), (.ref a1)]))) (fun t k => XS.iloadN X0.here hx rfl (hb hby d10_1) rfl k) ?_
  refine OD.go (B := (s₁.setTop (mkF m 3 #[.val (.ref a1), .val (.int x1)] [(.int (0 : Int32)), (.int x1), (.ref a1)]))) (fun t k => XS.iconst X0.here hx rfl (hb hby d10_2) k) ?_
  obtain ⟨cq1, kq1, qa1, qb1, qc1⟩ := isOf hZ e0 E1
  obtain ⟨_, _, ⟨T1, L1, k1, n1⟩, -, X1, ⟨Lc1, hQ1, l1, y1, z1⟩, st1⟩ := X0.virtualBack hx (y := (⟨"java/lang/String", "indexOf", "(II)I"⟩ : MethodName)) (z := (⟨"java/lang/String", "indexOf", "(II)I"⟩ : MethodName)) hown (mvT hZ (Wd49 hw)) (mvT hZ (Wd50 hw)) (notFace_of_selects (args := #[]) (mvT hZ (Wd52 hw))) (mvT hZ (Wd52 hw)) (mvT hZ (Wd51 hw)) (by decide) (backOf (W := 0) (rmX2_4 l Z a0 hw [] a1 x1 h0 E1 C1 t1 kt V1 c0 c1 c2 c3 A1 n0 X00 zc O2 P5) hZ (Wd53 hw) (Wd6 hw) (by decide) (by decide)) qa1 qc1 (g := (mkF m 3 #[.val (.ref a1), .val (.int x1)] [(.int (0 : Int32)), (.int x1), (.ref a1)])) rfl (by rw [hml]; rfl) (Steps.refl _) (argsL := [(.int x1), (.int (0 : Int32))]) (rest := []) (lenOf pd3 rfl) rfl (by show 2 * 0 + _ ≤ _; exact Nat.le_of_eq rfl) (hb hby d10_3) (fun _ _ => ⟨rfl, e0, (Nat.le_of_ble_eq_true rfl), (Nat.le_of_ble_eq_true rfl)⟩)
  dsimp only [Pt.U, Pt.locs, Pt.cells, Pt.slots] at X1 l1 y1 z1 st1 hQ1
  subst l1 y1 z1
  obtain ⟨rfl, rfl, e1⟩ := hQ1
  refine OD.via (B := (T1.setTop (mkF m 6 #[.val (.ref a1), .val (.int x1)] [(.int (own_li4 c0 c1 c2 c3 x1))]))) st1 ?_
  exact OD.ret X1 hx hlk (t := .int) Bd.returns rfl (Or.inl ⟨rfl, Or.inl rfl, _, rfl⟩) (hb hby d10_6) (Nat.le_of_ble_eq_true rfl) (Nat.le_of_ble_eq_true rfl) ⟨rfl, rfl, e1⟩
def Q_rmK0 (Z : State) (x0 : Int32) (a1 : Addr) (h0 : Heap) (n0 : Nat) (v : Option Value) (h : Heap) (L : List Loc) : Prop := v = some (.int (own_kept (own_al x0) (own_li4 (45 : Int32) (46 : Int32) (95 : Int32) (126 : Int32) x0) (own_li0  x0))) ∧ Fr n0 L ∧ Keep h0 h []
set_option maxRecDepth 65536 in
set_option maxHeartbeats 40000000 in
theorem rmK0 (l : Launch) (Z : State) (a0 : Array Value) (hw : ∀ d ∈ tables_1, d.before a0 Z = true) (ws : List Jvm.Cond) (x0 : Int32) (a1 : Addr) (h0 : Heap) (E1 : Exa Z h0 a1 "java/lang/String") (C1 : Fld Z h0 a1 "java/lang/String" "coder" "B" (.int (0 : Int32))) (t1 : Addr) (kt : ClassId) (V1 : Fld Z h0 a1 "java/lang/String" "value" "[B" (.ref t1)) (A1 : Arv Z h0 t1 kt .byte (0 : Int32) [] (.int 0)) (n0 : Nat) (X00 : Old Z n0 h0) (Z0 : n0 ≤ h0.size) (zc : Int32) (O2 : Sta Z Z.heap "java/lang/String" "COMPACT_STRINGS" "Z" (.int zc)) (P5 : ¬ zc = 0) :
    MetFree l (⟨"com/example/triad/triad/rest/PercentEncoding", "isKept", "(ILjava/lang/String;)Z"⟩ : MethodName) (head1 (Jvm.Cond.code (⟨"com/example/triad/triad/rest/PercentEncoding", "isKept", "(ILjava/lang/String;)Z"⟩ : MethodName) prog_9_method_2_code 3 (some .boolean) :: ws) ({ frames := 5, cells := 2, slots := 20, locals := 100 } : Room)) (fun a U => a = #[(.int x0), (.ref a1)] ∧ Z.Warmed39 U.vm ∧ U.heap = h0 ∧ CHv Z own_EL U.vm h0) (fun _ _ _ _ _ => True) (fun _ U o U' => ∃ v L, o = .returned v ∧ Q_rmK0 Z x0 a1 h0 n0 v U'.heap L ∧ CHr Z own_EL U.vm U.heap U'.vm U'.heap ∧ ReturnedEndW U o U' L ({ frames := 5, cells := 2, slots := 20, locals := 100 } : Room).cells ({ frames := 5, cells := 2, slots := 20, locals := 100 } : Room).slots) := by
  refine MetFree.of_bodySF (plainFor_of_name pn2) hisR ?_
  intro p e s m args below meth c s₁ Bd hml0 hP hK
  obtain ⟨rfl, hZ, hh, hH0⟩ := hP
  have hx := Bd.exec
  have hby := Bd.bytes
  have hlk : meth.locks = false := Bd.notSynchronized
  have hml : c.maxLocals = 3 := hml0
  have hown : s.vm.findClass "com/example/triad/triad/rest/PercentEncoding" = some m.cls := findClass_of_methodNamed Bd.named
  have hnm := (name_of_methodNamed Bd.named Bd.method).1
  have X0 : Stand p l e ({ frames := 5, cells := 2, slots := 20, locals := 100 } : Room) s m #[(.int x0), (.ref a1)] below meth c s₁ [] 0 0 := Stand.of_body Bd
  have e0 : s₁.heap = h0 := by rw [← hh, Bd.state]; rfl
  have hS0 : s.Since s.vm s.heap.size := (State.WarmedH.refl s).since _
  have hk0 : s.heap.size ≤ h0.size := Nat.le_of_eq (by rw [hh])
  have X0 : Stand p l e ({ frames := 5, cells := 2, slots := 20, locals := 100 } : Room) (s.setVm s.vm) m #[(.int x0), (.ref a1)] below meth c s₁ [] 0 0 := X0
  have hZ : Z.Warmed39 (s.setVm s.vm).vm := hZ
  have hown : (s.setVm s.vm).vm.findClass "com/example/triad/triad/rest/PercentEncoding" = some m.cls := hown
  have ch0 : CHr Z own_EL s.vm s.heap s.vm h0 := by have q := CHr.refl hH0; rw [← hh] at q ⊢; exact q
  have N0 := Fr.nil n0
  suffices hgo : ODH Z own_EL p e s below (Q_rmK0 Z x0 a1 h0 n0) ({ frames := 5, cells := 2, slots := 20, locals := 100 } : Room).cells ({ frames := 5, cells := 2, slots := 20, locals := 100 } : Room).slots (s₁.setTop (mkF m 0 #[.val (.int x0), .val (.ref a1), .unset] [])) by
    obtain ⟨s₂, o, hgo1, hgo2⟩ := hgo
    exact ⟨s₂, o, castTop (ef9 m x0 a1) hgo1, hgo2⟩
  refine ODH.go (B := (s₁.setTop (mkF m 1 #[.val (.int x0), .val (.ref a1), .unset] [(.int x0)]))) (fun t k => XS.iloadN X0.here hx rfl (hb hby d9_0) rfl k) ?_
  refine ODH.go (B := (s₁.setTop (mkF m 3 #[.val (.int x0), .val (.ref a1), .unset] [(.int (97 : Int32)), (.int x0)]))) (fun t k => XS.bipush X0.here hx rfl (hb hby d9_1) k) ?_
  obtain ⟨v41_1, hv41_1⟩ : ∃ z : Int32, z = (if x0 < (97 : Int32) then (if x0 < (65 : Int32) then (if x0 < (48 : Int32) then (0 : Int32) else (if (57 : Int32) < x0 then (0 : Int32) else (1 : Int32))) else (if (90 : Int32) < x0 then (if x0 < (48 : Int32) then (0 : Int32) else (if (57 : Int32) < x0 then (0 : Int32) else (1 : Int32))) else (1 : Int32))) else (if (122 : Int32) < x0 then (if x0 < (65 : Int32) then (if x0 < (48 : Int32) then (0 : Int32) else (if (57 : Int32) < x0 then (0 : Int32) else (1 : Int32))) else (if (90 : Int32) < x0 then (if x0 < (48 : Int32) then (0 : Int32) else (if (57 : Int32) < x0 then (0 : Int32) else (1 : Int32))) else (1 : Int32))) else (1 : Int32))) := ⟨_, rfl⟩
  refine ODH.cut (B := (s₁.setTop (mkF m 41 #[.val (.int x0), .val (.ref a1), .unset] [(.int v41_1)]))) (fun J41_2 => ?_) ?_
  · skip
    by_cases c3_3 : x0 < (97 : Int32)
    · refine ODH.go (B := (s₁.setTop (mkF m 12 #[.val (.int x0), .val (.ref a1), .unset] []))) (fun t k => XS.icmpYes X0.here hx rfl (pc0 := 3) (pc' := 12) rfl (hb hby d9_3) rfl (tlt c3_3).1 (by decide) (by decide) k) ?_
      refine ODH.go (B := (s₁.setTop (mkF m 13 #[.val (.int x0), .val (.ref a1), .unset] [(.int x0)]))) (fun t k => XS.iloadN X0.here hx rfl (hb hby d9_12) rfl k) ?_
      refine ODH.go (B := (s₁.setTop (mkF m 15 #[.val (.int x0), .val (.ref a1), .unset] [(.int (65 : Int32)), (.int x0)]))) (fun t k => XS.bipush X0.here hx rfl (hb hby d9_13) k) ?_
      by_cases c15_4 : x0 < (65 : Int32)
      · refine ODH.go (B := (s₁.setTop (mkF m 24 #[.val (.int x0), .val (.ref a1), .unset] []))) (fun t k => XS.icmpYes X0.here hx rfl (pc0 := 15) (pc' := 24) rfl (hb hby d9_15) rfl (tlt c15_4).1 (by decide) (by decide) k) ?_
        refine ODH.go (B := (s₁.setTop (mkF m 25 #[.val (.int x0), .val (.ref a1), .unset] [(.int x0)]))) (fun t k => XS.iloadN X0.here hx rfl (hb hby d9_24) rfl k) ?_
        refine ODH.go (B := (s₁.setTop (mkF m 27 #[.val (.int x0), .val (.ref a1), .unset] [(.int (48 : Int32)), (.int x0)]))) (fun t k => XS.bipush X0.here hx rfl (hb hby d9_25) k) ?_
        by_cases c27_5 : x0 < (48 : Int32)
        · refine ODH.go (B := (s₁.setTop (mkF m 40 #[.val (.int x0), .val (.ref a1), .unset] []))) (fun t k => XS.icmpYes X0.here hx rfl (pc0 := 27) (pc' := 40) rfl (hb hby d9_27) rfl (tlt c27_5).1 (by decide) (by decide) k) ?_
          refine ODH.go (B := (s₁.setTop (mkF m 41 #[.val (.int x0), .val (.ref a1), .unset] [(.int (0 : Int32))]))) (fun t k => XS.iconst X0.here hx rfl (hb hby d9_40) k) ?_
          rw [if_pos c3_3, if_pos c15_4, if_pos c27_5] at hv41_1
          rw [hv41_1] at J41_2
          exact J41_2
        · refine ODH.go (B := (s₁.setTop (mkF m 30 #[.val (.int x0), .val (.ref a1), .unset] []))) (fun t k => XS.icmpNo X0.here hx rfl (hb hby d9_27) rfl (flt c27_5).1 k) ?_
          refine ODH.go (B := (s₁.setTop (mkF m 31 #[.val (.int x0), .val (.ref a1), .unset] [(.int x0)]))) (fun t k => XS.iloadN X0.here hx rfl (hb hby d9_30) rfl k) ?_
          refine ODH.go (B := (s₁.setTop (mkF m 33 #[.val (.int x0), .val (.ref a1), .unset] [(.int (57 : Int32)), (.int x0)]))) (fun t k => XS.bipush X0.here hx rfl (hb hby d9_31) k) ?_
          by_cases c33_6 : (57 : Int32) < x0
          · refine ODH.go (B := (s₁.setTop (mkF m 40 #[.val (.int x0), .val (.ref a1), .unset] []))) (fun t k => XS.icmpYes X0.here hx rfl (pc0 := 33) (pc' := 40) rfl (hb hby d9_33) rfl (tlt c33_6).2.2.1 (by decide) (by decide) k) ?_
            refine ODH.go (B := (s₁.setTop (mkF m 41 #[.val (.int x0), .val (.ref a1), .unset] [(.int (0 : Int32))]))) (fun t k => XS.iconst X0.here hx rfl (hb hby d9_40) k) ?_
            rw [if_pos c3_3, if_pos c15_4, if_neg c27_5, if_pos c33_6] at hv41_1
            rw [hv41_1] at J41_2
            exact J41_2
          · refine ODH.go (B := (s₁.setTop (mkF m 36 #[.val (.int x0), .val (.ref a1), .unset] []))) (fun t k => XS.icmpNo X0.here hx rfl (hb hby d9_33) rfl (flt c33_6).2.2.1 k) ?_
            refine ODH.go (B := (s₁.setTop (mkF m 37 #[.val (.int x0), .val (.ref a1), .unset] [(.int (1 : Int32))]))) (fun t k => XS.iconst X0.here hx rfl (hb hby d9_36) k) ?_
            refine ODH.go (B := (s₁.setTop (mkF m 41 #[.val (.int x0), .val (.ref a1), .unset] [(.int (1 : Int32))]))) (fun t k => XS.goto X0.here hx rfl (pc0 := 37) (pc' := 41) rfl (hb hby d9_37) (by decide) (by decide) k) ?_
            rw [if_pos c3_3, if_pos c15_4, if_neg c27_5, if_neg c33_6] at hv41_1
            rw [hv41_1] at J41_2
            exact J41_2
      · refine ODH.go (B := (s₁.setTop (mkF m 18 #[.val (.int x0), .val (.ref a1), .unset] []))) (fun t k => XS.icmpNo X0.here hx rfl (hb hby d9_15) rfl (flt c15_4).1 k) ?_
        refine ODH.go (B := (s₁.setTop (mkF m 19 #[.val (.int x0), .val (.ref a1), .unset] [(.int x0)]))) (fun t k => XS.iloadN X0.here hx rfl (hb hby d9_18) rfl k) ?_
        refine ODH.go (B := (s₁.setTop (mkF m 21 #[.val (.int x0), .val (.ref a1), .unset] [(.int (90 : Int32)), (.int x0)]))) (fun t k => XS.bipush X0.here hx rfl (hb hby d9_19) k) ?_
        by_cases c21_7 : (90 : Int32) < x0
        · refine ODH.go (B := (s₁.setTop (mkF m 24 #[.val (.int x0), .val (.ref a1), .unset] []))) (fun t k => XS.icmpNo X0.here hx rfl (hb hby d9_21) rfl (tlt c21_7).2.2.2 k) ?_
          refine ODH.go (B := (s₁.setTop (mkF m 25 #[.val (.int x0), .val (.ref a1), .unset] [(.int x0)]))) (fun t k => XS.iloadN X0.here hx rfl (hb hby d9_24) rfl k) ?_
          refine ODH.go (B := (s₁.setTop (mkF m 27 #[.val (.int x0), .val (.ref a1), .unset] [(.int (48 : Int32)), (.int x0)]))) (fun t k => XS.bipush X0.here hx rfl (hb hby d9_25) k) ?_
          by_cases c27_8 : x0 < (48 : Int32)
          · refine ODH.go (B := (s₁.setTop (mkF m 40 #[.val (.int x0), .val (.ref a1), .unset] []))) (fun t k => XS.icmpYes X0.here hx rfl (pc0 := 27) (pc' := 40) rfl (hb hby d9_27) rfl (tlt c27_8).1 (by decide) (by decide) k) ?_
            refine ODH.go (B := (s₁.setTop (mkF m 41 #[.val (.int x0), .val (.ref a1), .unset] [(.int (0 : Int32))]))) (fun t k => XS.iconst X0.here hx rfl (hb hby d9_40) k) ?_
            rw [if_pos c3_3, if_neg c15_4, if_pos c21_7, if_pos c27_8] at hv41_1
            rw [hv41_1] at J41_2
            exact J41_2
          · refine ODH.go (B := (s₁.setTop (mkF m 30 #[.val (.int x0), .val (.ref a1), .unset] []))) (fun t k => XS.icmpNo X0.here hx rfl (hb hby d9_27) rfl (flt c27_8).1 k) ?_
            refine ODH.go (B := (s₁.setTop (mkF m 31 #[.val (.int x0), .val (.ref a1), .unset] [(.int x0)]))) (fun t k => XS.iloadN X0.here hx rfl (hb hby d9_30) rfl k) ?_
            refine ODH.go (B := (s₁.setTop (mkF m 33 #[.val (.int x0), .val (.ref a1), .unset] [(.int (57 : Int32)), (.int x0)]))) (fun t k => XS.bipush X0.here hx rfl (hb hby d9_31) k) ?_
            by_cases c33_9 : (57 : Int32) < x0
            · refine ODH.go (B := (s₁.setTop (mkF m 40 #[.val (.int x0), .val (.ref a1), .unset] []))) (fun t k => XS.icmpYes X0.here hx rfl (pc0 := 33) (pc' := 40) rfl (hb hby d9_33) rfl (tlt c33_9).2.2.1 (by decide) (by decide) k) ?_
              refine ODH.go (B := (s₁.setTop (mkF m 41 #[.val (.int x0), .val (.ref a1), .unset] [(.int (0 : Int32))]))) (fun t k => XS.iconst X0.here hx rfl (hb hby d9_40) k) ?_
              rw [if_pos c3_3, if_neg c15_4, if_pos c21_7, if_neg c27_8, if_pos c33_9] at hv41_1
              rw [hv41_1] at J41_2
              exact J41_2
            · refine ODH.go (B := (s₁.setTop (mkF m 36 #[.val (.int x0), .val (.ref a1), .unset] []))) (fun t k => XS.icmpNo X0.here hx rfl (hb hby d9_33) rfl (flt c33_9).2.2.1 k) ?_
              refine ODH.go (B := (s₁.setTop (mkF m 37 #[.val (.int x0), .val (.ref a1), .unset] [(.int (1 : Int32))]))) (fun t k => XS.iconst X0.here hx rfl (hb hby d9_36) k) ?_
              refine ODH.go (B := (s₁.setTop (mkF m 41 #[.val (.int x0), .val (.ref a1), .unset] [(.int (1 : Int32))]))) (fun t k => XS.goto X0.here hx rfl (pc0 := 37) (pc' := 41) rfl (hb hby d9_37) (by decide) (by decide) k) ?_
              rw [if_pos c3_3, if_neg c15_4, if_pos c21_7, if_neg c27_8, if_neg c33_9] at hv41_1
              rw [hv41_1] at J41_2
              exact J41_2
        · refine ODH.go (B := (s₁.setTop (mkF m 36 #[.val (.int x0), .val (.ref a1), .unset] []))) (fun t k => XS.icmpYes X0.here hx rfl (pc0 := 21) (pc' := 36) rfl (hb hby d9_21) rfl (flt c21_7).2.2.2 (by decide) (by decide) k) ?_
          refine ODH.go (B := (s₁.setTop (mkF m 37 #[.val (.int x0), .val (.ref a1), .unset] [(.int (1 : Int32))]))) (fun t k => XS.iconst X0.here hx rfl (hb hby d9_36) k) ?_
          refine ODH.go (B := (s₁.setTop (mkF m 41 #[.val (.int x0), .val (.ref a1), .unset] [(.int (1 : Int32))]))) (fun t k => XS.goto X0.here hx rfl (pc0 := 37) (pc' := 41) rfl (hb hby d9_37) (by decide) (by decide) k) ?_
          rw [if_pos c3_3, if_neg c15_4, if_neg c21_7] at hv41_1
          rw [hv41_1] at J41_2
          exact J41_2
    · refine ODH.go (B := (s₁.setTop (mkF m 6 #[.val (.int x0), .val (.ref a1), .unset] []))) (fun t k => XS.icmpNo X0.here hx rfl (hb hby d9_3) rfl (flt c3_3).1 k) ?_
      refine ODH.go (B := (s₁.setTop (mkF m 7 #[.val (.int x0), .val (.ref a1), .unset] [(.int x0)]))) (fun t k => XS.iloadN X0.here hx rfl (hb hby d9_6) rfl k) ?_
      refine ODH.go (B := (s₁.setTop (mkF m 9 #[.val (.int x0), .val (.ref a1), .unset] [(.int (122 : Int32)), (.int x0)]))) (fun t k => XS.bipush X0.here hx rfl (hb hby d9_7) k) ?_
      by_cases c9_10 : (122 : Int32) < x0
      · refine ODH.go (B := (s₁.setTop (mkF m 12 #[.val (.int x0), .val (.ref a1), .unset] []))) (fun t k => XS.icmpNo X0.here hx rfl (hb hby d9_9) rfl (tlt c9_10).2.2.2 k) ?_
        refine ODH.go (B := (s₁.setTop (mkF m 13 #[.val (.int x0), .val (.ref a1), .unset] [(.int x0)]))) (fun t k => XS.iloadN X0.here hx rfl (hb hby d9_12) rfl k) ?_
        refine ODH.go (B := (s₁.setTop (mkF m 15 #[.val (.int x0), .val (.ref a1), .unset] [(.int (65 : Int32)), (.int x0)]))) (fun t k => XS.bipush X0.here hx rfl (hb hby d9_13) k) ?_
        by_cases c15_11 : x0 < (65 : Int32)
        · refine ODH.go (B := (s₁.setTop (mkF m 24 #[.val (.int x0), .val (.ref a1), .unset] []))) (fun t k => XS.icmpYes X0.here hx rfl (pc0 := 15) (pc' := 24) rfl (hb hby d9_15) rfl (tlt c15_11).1 (by decide) (by decide) k) ?_
          refine ODH.go (B := (s₁.setTop (mkF m 25 #[.val (.int x0), .val (.ref a1), .unset] [(.int x0)]))) (fun t k => XS.iloadN X0.here hx rfl (hb hby d9_24) rfl k) ?_
          refine ODH.go (B := (s₁.setTop (mkF m 27 #[.val (.int x0), .val (.ref a1), .unset] [(.int (48 : Int32)), (.int x0)]))) (fun t k => XS.bipush X0.here hx rfl (hb hby d9_25) k) ?_
          by_cases c27_12 : x0 < (48 : Int32)
          · refine ODH.go (B := (s₁.setTop (mkF m 40 #[.val (.int x0), .val (.ref a1), .unset] []))) (fun t k => XS.icmpYes X0.here hx rfl (pc0 := 27) (pc' := 40) rfl (hb hby d9_27) rfl (tlt c27_12).1 (by decide) (by decide) k) ?_
            refine ODH.go (B := (s₁.setTop (mkF m 41 #[.val (.int x0), .val (.ref a1), .unset] [(.int (0 : Int32))]))) (fun t k => XS.iconst X0.here hx rfl (hb hby d9_40) k) ?_
            rw [if_neg c3_3, if_pos c9_10, if_pos c15_11, if_pos c27_12] at hv41_1
            rw [hv41_1] at J41_2
            exact J41_2
          · refine ODH.go (B := (s₁.setTop (mkF m 30 #[.val (.int x0), .val (.ref a1), .unset] []))) (fun t k => XS.icmpNo X0.here hx rfl (hb hby d9_27) rfl (flt c27_12).1 k) ?_
            refine ODH.go (B := (s₁.setTop (mkF m 31 #[.val (.int x0), .val (.ref a1), .unset] [(.int x0)]))) (fun t k => XS.iloadN X0.here hx rfl (hb hby d9_30) rfl k) ?_
            refine ODH.go (B := (s₁.setTop (mkF m 33 #[.val (.int x0), .val (.ref a1), .unset] [(.int (57 : Int32)), (.int x0)]))) (fun t k => XS.bipush X0.here hx rfl (hb hby d9_31) k) ?_
            by_cases c33_13 : (57 : Int32) < x0
            · refine ODH.go (B := (s₁.setTop (mkF m 40 #[.val (.int x0), .val (.ref a1), .unset] []))) (fun t k => XS.icmpYes X0.here hx rfl (pc0 := 33) (pc' := 40) rfl (hb hby d9_33) rfl (tlt c33_13).2.2.1 (by decide) (by decide) k) ?_
              refine ODH.go (B := (s₁.setTop (mkF m 41 #[.val (.int x0), .val (.ref a1), .unset] [(.int (0 : Int32))]))) (fun t k => XS.iconst X0.here hx rfl (hb hby d9_40) k) ?_
              rw [if_neg c3_3, if_pos c9_10, if_pos c15_11, if_neg c27_12, if_pos c33_13] at hv41_1
              rw [hv41_1] at J41_2
              exact J41_2
            · refine ODH.go (B := (s₁.setTop (mkF m 36 #[.val (.int x0), .val (.ref a1), .unset] []))) (fun t k => XS.icmpNo X0.here hx rfl (hb hby d9_33) rfl (flt c33_13).2.2.1 k) ?_
              refine ODH.go (B := (s₁.setTop (mkF m 37 #[.val (.int x0), .val (.ref a1), .unset] [(.int (1 : Int32))]))) (fun t k => XS.iconst X0.here hx rfl (hb hby d9_36) k) ?_
              refine ODH.go (B := (s₁.setTop (mkF m 41 #[.val (.int x0), .val (.ref a1), .unset] [(.int (1 : Int32))]))) (fun t k => XS.goto X0.here hx rfl (pc0 := 37) (pc' := 41) rfl (hb hby d9_37) (by decide) (by decide) k) ?_
              rw [if_neg c3_3, if_pos c9_10, if_pos c15_11, if_neg c27_12, if_neg c33_13] at hv41_1
              rw [hv41_1] at J41_2
              exact J41_2
        · refine ODH.go (B := (s₁.setTop (mkF m 18 #[.val (.int x0), .val (.ref a1), .unset] []))) (fun t k => XS.icmpNo X0.here hx rfl (hb hby d9_15) rfl (flt c15_11).1 k) ?_
          refine ODH.go (B := (s₁.setTop (mkF m 19 #[.val (.int x0), .val (.ref a1), .unset] [(.int x0)]))) (fun t k => XS.iloadN X0.here hx rfl (hb hby d9_18) rfl k) ?_
          refine ODH.go (B := (s₁.setTop (mkF m 21 #[.val (.int x0), .val (.ref a1), .unset] [(.int (90 : Int32)), (.int x0)]))) (fun t k => XS.bipush X0.here hx rfl (hb hby d9_19) k) ?_
          by_cases c21_14 : (90 : Int32) < x0
          · refine ODH.go (B := (s₁.setTop (mkF m 24 #[.val (.int x0), .val (.ref a1), .unset] []))) (fun t k => XS.icmpNo X0.here hx rfl (hb hby d9_21) rfl (tlt c21_14).2.2.2 k) ?_
            refine ODH.go (B := (s₁.setTop (mkF m 25 #[.val (.int x0), .val (.ref a1), .unset] [(.int x0)]))) (fun t k => XS.iloadN X0.here hx rfl (hb hby d9_24) rfl k) ?_
            refine ODH.go (B := (s₁.setTop (mkF m 27 #[.val (.int x0), .val (.ref a1), .unset] [(.int (48 : Int32)), (.int x0)]))) (fun t k => XS.bipush X0.here hx rfl (hb hby d9_25) k) ?_
            by_cases c27_15 : x0 < (48 : Int32)
            · refine ODH.go (B := (s₁.setTop (mkF m 40 #[.val (.int x0), .val (.ref a1), .unset] []))) (fun t k => XS.icmpYes X0.here hx rfl (pc0 := 27) (pc' := 40) rfl (hb hby d9_27) rfl (tlt c27_15).1 (by decide) (by decide) k) ?_
              refine ODH.go (B := (s₁.setTop (mkF m 41 #[.val (.int x0), .val (.ref a1), .unset] [(.int (0 : Int32))]))) (fun t k => XS.iconst X0.here hx rfl (hb hby d9_40) k) ?_
              rw [if_neg c3_3, if_pos c9_10, if_neg c15_11, if_pos c21_14, if_pos c27_15] at hv41_1
              rw [hv41_1] at J41_2
              exact J41_2
            · refine ODH.go (B := (s₁.setTop (mkF m 30 #[.val (.int x0), .val (.ref a1), .unset] []))) (fun t k => XS.icmpNo X0.here hx rfl (hb hby d9_27) rfl (flt c27_15).1 k) ?_
              refine ODH.go (B := (s₁.setTop (mkF m 31 #[.val (.int x0), .val (.ref a1), .unset] [(.int x0)]))) (fun t k => XS.iloadN X0.here hx rfl (hb hby d9_30) rfl k) ?_
              refine ODH.go (B := (s₁.setTop (mkF m 33 #[.val (.int x0), .val (.ref a1), .unset] [(.int (57 : Int32)), (.int x0)]))) (fun t k => XS.bipush X0.here hx rfl (hb hby d9_31) k) ?_
              by_cases c33_16 : (57 : Int32) < x0
              · refine ODH.go (B := (s₁.setTop (mkF m 40 #[.val (.int x0), .val (.ref a1), .unset] []))) (fun t k => XS.icmpYes X0.here hx rfl (pc0 := 33) (pc' := 40) rfl (hb hby d9_33) rfl (tlt c33_16).2.2.1 (by decide) (by decide) k) ?_
                refine ODH.go (B := (s₁.setTop (mkF m 41 #[.val (.int x0), .val (.ref a1), .unset] [(.int (0 : Int32))]))) (fun t k => XS.iconst X0.here hx rfl (hb hby d9_40) k) ?_
                rw [if_neg c3_3, if_pos c9_10, if_neg c15_11, if_pos c21_14, if_neg c27_15, if_pos c33_16] at hv41_1
                rw [hv41_1] at J41_2
                exact J41_2
              · refine ODH.go (B := (s₁.setTop (mkF m 36 #[.val (.int x0), .val (.ref a1), .unset] []))) (fun t k => XS.icmpNo X0.here hx rfl (hb hby d9_33) rfl (flt c33_16).2.2.1 k) ?_
                refine ODH.go (B := (s₁.setTop (mkF m 37 #[.val (.int x0), .val (.ref a1), .unset] [(.int (1 : Int32))]))) (fun t k => XS.iconst X0.here hx rfl (hb hby d9_36) k) ?_
                refine ODH.go (B := (s₁.setTop (mkF m 41 #[.val (.int x0), .val (.ref a1), .unset] [(.int (1 : Int32))]))) (fun t k => XS.goto X0.here hx rfl (pc0 := 37) (pc' := 41) rfl (hb hby d9_37) (by decide) (by decide) k) ?_
                rw [if_neg c3_3, if_pos c9_10, if_neg c15_11, if_pos c21_14, if_neg c27_15, if_neg c33_16] at hv41_1
                rw [hv41_1] at J41_2
                exact J41_2
          · refine ODH.go (B := (s₁.setTop (mkF m 36 #[.val (.int x0), .val (.ref a1), .unset] []))) (fun t k => XS.icmpYes X0.here hx rfl (pc0 := 21) (pc' := 36) rfl (hb hby d9_21) rfl (flt c21_14).2.2.2 (by decide) (by decide) k) ?_
            refine ODH.go (B := (s₁.setTop (mkF m 37 #[.val (.int x0), .val (.ref a1), .unset] [(.int (1 : Int32))]))) (fun t k => XS.iconst X0.here hx rfl (hb hby d9_36) k) ?_
            refine ODH.go (B := (s₁.setTop (mkF m 41 #[.val (.int x0), .val (.ref a1), .unset] [(.int (1 : Int32))]))) (fun t k => XS.goto X0.here hx rfl (pc0 := 37) (pc' := 41) rfl (hb hby d9_37) (by decide) (by decide) k) ?_
            rw [if_neg c3_3, if_pos c9_10, if_neg c15_11, if_neg c21_14] at hv41_1
            rw [hv41_1] at J41_2
            exact J41_2
      · refine ODH.go (B := (s₁.setTop (mkF m 36 #[.val (.int x0), .val (.ref a1), .unset] []))) (fun t k => XS.icmpYes X0.here hx rfl (pc0 := 9) (pc' := 36) rfl (hb hby d9_9) rfl (flt c9_10).2.2.2 (by decide) (by decide) k) ?_
        refine ODH.go (B := (s₁.setTop (mkF m 37 #[.val (.int x0), .val (.ref a1), .unset] [(.int (1 : Int32))]))) (fun t k => XS.iconst X0.here hx rfl (hb hby d9_36) k) ?_
        refine ODH.go (B := (s₁.setTop (mkF m 41 #[.val (.int x0), .val (.ref a1), .unset] [(.int (1 : Int32))]))) (fun t k => XS.goto X0.here hx rfl (pc0 := 37) (pc' := 41) rfl (hb hby d9_37) (by decide) (by decide) k) ?_
        rw [if_neg c3_3, if_neg c9_10] at hv41_1
        rw [hv41_1] at J41_2
        exact J41_2
  refine ODH.go (B := (s₁.setTop (mkF m 42 #[.val (.int x0), .val (.ref a1), .val (.int v41_1)] []))) (fun t k => XS.istoreN X0.here hx rfl (hb hby d9_41) rfl (l' := #[.val (.int x0), .val (.ref a1), .val (.int v41_1)]) rfl k) ?_
  refine ODH.go (B := (s₁.setTop (mkF m 43 #[.val (.int x0), .val (.ref a1), .val (.int v41_1)] [(.int v41_1)]))) (fun t k => XS.iloadN X0.here hx rfl (hb hby d9_42) rfl k) ?_
  by_cases c43_17 : v41_1 = (0 : Int32)
  · refine ODH.go (B := (s₁.setTop (mkF m 46 #[.val (.int x0), .val (.ref a1), .val (.int v41_1)] []))) (fun t k => XS.ifNo X0.here hx rfl (hb hby d9_43) rfl (by rw [if0]; exact (teq c43_17).2) k) ?_
    obtain ⟨b18, T18, h18, k18, t18, kb18, X18, e18, E18, hS18, hk18, hZ, hown, Ea18, Ca18, Va18, Ab18, la18, lb18, cr18, -, ns18, st18⟩ := ldcCH X0 hx hZ hown (Wd41 hw) (wS_in hw) e0 hS0 hk0 (EL_in hw) (List.mem_of_getElem? (i := 0) rfl) ch0.1 (vs := [(.int (45 : Int32)), (.int (46 : Int32)), (.int (95 : Int32)), (.int (126 : Int32))]) (z := (4 : Int32)) ⟨by decide, by decide⟩ (by decide) (by decide) (g := (mkF m 46 #[.val (.int x0), .val (.ref a1), .val (.int v41_1)] [])) rfl (hb hby d9_46) (n := 16) (by decide) (by decide) (Nat.le_of_ble_eq_true rfl) (Nat.le_of_ble_eq_true rfl)
    have ch18 := ch0.trans cr18
    refine ODH.go (B := (T18.setTop (mkF m 48 #[.val (.int x0), .val (.ref a1), .val (.int v41_1)] [(.ref b18)]))) st18 ?_
    refine ODH.go (B := (T18.setTop (mkF m 49 #[.val (.int x0), .val (.ref a1), .val (.int v41_1)] [(.int x0), (.ref b18)]))) (fun t k => XS.iloadN X18.here hx rfl (hb hby d9_48) rfl k) ?_
    obtain ⟨cq19, kq19, qa19, qb19, qc19⟩ := isOf hZ e18 Ea18
    obtain ⟨_, _, ⟨T19, L19, k19, n19⟩, -, X19, ⟨Lc19, hQ19, l19, y19, z19⟩, st19⟩ := X18.virtualBack hx (y := (⟨"java/lang/String", "indexOf", "(I)I"⟩ : MethodName)) (z := (⟨"java/lang/String", "indexOf", "(I)I"⟩ : MethodName)) hown (mvT hZ (Wd44 hw)) (mvT hZ (Wd45 hw)) (notFace_of_selects (args := #[]) (mvT hZ (Wd47 hw))) (mvT hZ (Wd47 hw)) (mvT hZ (Wd46 hw)) (by decide) (backOf (W := 0) (rmX1_4 l Z a0 hw [] b18 x0 h18 Ea18 Ca18 t18 kb18 Va18 (45 : Int32) (46 : Int32) (95 : Int32) (126 : Int32) Ab18 n0 (X00.ext E18) zc O2 P5) hZ (Wd48 hw) (Wd6 hw) (by decide) (by decide)) qa19 qc19 (g := (mkF m 49 #[.val (.int x0), .val (.ref a1), .val (.int v41_1)] [(.int x0), (.ref b18)])) rfl (by rw [hml]; rfl) (Steps.refl _) (argsL := [(.int x0)]) (rest := []) (lenOf pd7 rfl) rfl (by show 2 * 0 + _ ≤ _; exact Nat.le_of_eq rfl) (hb hby d9_49) (fun _ _ => ⟨rfl, e18, (Nat.le_of_ble_eq_true rfl), (Nat.le_of_ble_eq_true rfl)⟩)
    dsimp only [Pt.U, Pt.locs, Pt.cells, Pt.slots] at X19 l19 y19 z19 st19 hQ19
    subst l19 y19 z19
    obtain ⟨rfl, rfl, e19⟩ := hQ19
    try rw [List.append_nil] at X19
    refine ODH.via (B := (T19.setTop (mkF m 52 #[.val (.int x0), .val (.ref a1), .val (.int v41_1)] [(.int (own_li4 (45 : Int32) (46 : Int32) (95 : Int32) (126 : Int32) x0))]))) st19 ?_
    by_cases c52_20 : (own_li4 (45 : Int32) (46 : Int32) (95 : Int32) (126 : Int32) x0) < (0 : Int32)
    · refine ODH.go (B := (T19.setTop (mkF m 55 #[.val (.int x0), .val (.ref a1), .val (.int v41_1)] []))) (fun t k => XS.ifNo X19.here hx rfl (hb hby d9_52) rfl (by rw [if0]; exact (tlt c52_20).2.1) k) ?_
      refine ODH.go (B := (T19.setTop (mkF m 56 #[.val (.int x0), .val (.ref a1), .val (.int v41_1)] [(.ref a1)]))) (fun t k => XS.aloadN X19.here hx rfl (hb hby d9_55) rfl rfl k) ?_
      refine ODH.go (B := (T19.setTop (mkF m 57 #[.val (.int x0), .val (.ref a1), .val (.int v41_1)] [(.int x0), (.ref a1)]))) (fun t k => XS.iloadN X19.here hx rfl (hb hby d9_56) rfl k) ?_
      have f21 := (E1.ext E18)
      have f22 := (C1.ext E18)
      have f23 := (V1.ext E18)
      have f24 := (A1.ext E18)
      obtain ⟨cq25, kq25, qa25, qb25, qc25⟩ := isOf hZ e19 f21
      obtain ⟨_, _, ⟨T25, L25, k25, n25⟩, -, X25, ⟨Lc25, hQ25, l25, y25, z25⟩, st25⟩ := X19.virtualBack hx (y := (⟨"java/lang/String", "indexOf", "(I)I"⟩ : MethodName)) (z := (⟨"java/lang/String", "indexOf", "(I)I"⟩ : MethodName)) hown (mvT hZ (Wd44 hw)) (mvT hZ (Wd45 hw)) (notFace_of_selects (args := #[]) (mvT hZ (Wd47 hw))) (mvT hZ (Wd47 hw)) (mvT hZ (Wd46 hw)) (by decide) (backOf (W := 0) (rmX1_0 l Z a0 hw [] a1 x0 h18 f21 f22 t1 kt f23  f24 n0 (X00.ext E18) zc O2 P5) hZ (Wd48 hw) (Wd6 hw) (by decide) (by decide)) qa25 qc25 (g := (mkF m 57 #[.val (.int x0), .val (.ref a1), .val (.int v41_1)] [(.int x0), (.ref a1)])) rfl (by rw [hml]; rfl) (Steps.refl _) (argsL := [(.int x0)]) (rest := []) (lenOf pd7 rfl) rfl (by show 2 * 0 + _ ≤ _; exact Nat.le_of_eq rfl) (hb hby d9_57) (fun _ _ => ⟨rfl, e19, (Nat.le_of_ble_eq_true rfl), (Nat.le_of_ble_eq_true rfl)⟩)
      dsimp only [Pt.U, Pt.locs, Pt.cells, Pt.slots] at X25 l25 y25 z25 st25 hQ25
      subst l25 y25 z25
      obtain ⟨rfl, rfl, e25⟩ := hQ25
      try rw [List.append_nil] at X25
      refine ODH.via (B := (T25.setTop (mkF m 60 #[.val (.int x0), .val (.ref a1), .val (.int v41_1)] [(.int (own_li0  x0))]))) st25 ?_
      by_cases c60_26 : (own_li0  x0) < (0 : Int32)
      · refine ODH.go (B := (T25.setTop (mkF m 67 #[.val (.int x0), .val (.ref a1), .val (.int v41_1)] []))) (fun t k => XS.ifYes X25.here hx rfl (pc0 := 60) (pc' := 67) rfl (hb hby d9_60) rfl (by rw [if0]; exact (tlt c60_26).1) (by decide) (by decide) k) ?_
        refine ODH.go (B := (T25.setTop (mkF m 68 #[.val (.int x0), .val (.ref a1), .val (.int v41_1)] [(.int (0 : Int32))]))) (fun t k => XS.iconst X25.here hx rfl (hb hby d9_67) k) ?_
        have eal : own_al x0 = v41_1 := hv41_1.symm
        have fin : (own_kept (own_al x0) (own_li4 (45 : Int32) (46 : Int32) (95 : Int32) (126 : Int32) x0) (own_li0  x0)) = (0 : Int32) := by unfold own_kept; rw [eal, if_pos c43_17, if_pos c52_20, if_pos c60_26]
        exact ODH.ret X25 hx hlk hS18 (by rw [e25]; exact hk18) (by rw [e25]; exact ch18.trans (CHv.at X25 hZ (EL_in hw) ch18.1)) (t := .boolean) Bd.returns rfl (Or.inl ⟨rfl, Or.inr (Or.inl rfl), _, rfl⟩) (hb hby d9_68) (Nat.le_of_ble_eq_true rfl) (Nat.le_of_ble_eq_true rfl) ⟨by rw [fin], N0, by rw [e25]; exact ((Keep.refl h0 []).ext E18)⟩
      · refine ODH.go (B := (T25.setTop (mkF m 63 #[.val (.int x0), .val (.ref a1), .val (.int v41_1)] []))) (fun t k => XS.ifNo X25.here hx rfl (hb hby d9_60) rfl (by rw [if0]; exact (flt c60_26).1) k) ?_
        refine ODH.go (B := (T25.setTop (mkF m 64 #[.val (.int x0), .val (.ref a1), .val (.int v41_1)] [(.int (1 : Int32))]))) (fun t k => XS.iconst X25.here hx rfl (hb hby d9_63) k) ?_
        refine ODH.go (B := (T25.setTop (mkF m 68 #[.val (.int x0), .val (.ref a1), .val (.int v41_1)] [(.int (1 : Int32))]))) (fun t k => XS.goto X25.here hx rfl (pc0 := 64) (pc' := 68) rfl (hb hby d9_64) (by decide) (by decide) k) ?_
        have eal : own_al x0 = v41_1 := hv41_1.symm
        have fin : (own_kept (own_al x0) (own_li4 (45 : Int32) (46 : Int32) (95 : Int32) (126 : Int32) x0) (own_li0  x0)) = (1 : Int32) := by unfold own_kept; rw [eal, if_pos c43_17, if_pos c52_20, if_neg c60_26]
        exact ODH.ret X25 hx hlk hS18 (by rw [e25]; exact hk18) (by rw [e25]; exact ch18.trans (CHv.at X25 hZ (EL_in hw) ch18.1)) (t := .boolean) Bd.returns rfl (Or.inl ⟨rfl, Or.inr (Or.inl rfl), _, rfl⟩) (hb hby d9_68) (Nat.le_of_ble_eq_true rfl) (Nat.le_of_ble_eq_true rfl) ⟨by rw [fin], N0, by rw [e25]; exact ((Keep.refl h0 []).ext E18)⟩
    · refine ODH.go (B := (T19.setTop (mkF m 63 #[.val (.int x0), .val (.ref a1), .val (.int v41_1)] []))) (fun t k => XS.ifYes X19.here hx rfl (pc0 := 52) (pc' := 63) rfl (hb hby d9_52) rfl (by rw [if0]; exact (flt c52_20).2.1) (by decide) (by decide) k) ?_
      refine ODH.go (B := (T19.setTop (mkF m 64 #[.val (.int x0), .val (.ref a1), .val (.int v41_1)] [(.int (1 : Int32))]))) (fun t k => XS.iconst X19.here hx rfl (hb hby d9_63) k) ?_
      refine ODH.go (B := (T19.setTop (mkF m 68 #[.val (.int x0), .val (.ref a1), .val (.int v41_1)] [(.int (1 : Int32))]))) (fun t k => XS.goto X19.here hx rfl (pc0 := 64) (pc' := 68) rfl (hb hby d9_64) (by decide) (by decide) k) ?_
      have eal : own_al x0 = v41_1 := hv41_1.symm
      have fin : (own_kept (own_al x0) (own_li4 (45 : Int32) (46 : Int32) (95 : Int32) (126 : Int32) x0) (own_li0  x0)) = (1 : Int32) := by unfold own_kept; rw [eal, if_pos c43_17, if_neg c52_20]
      exact ODH.ret X19 hx hlk hS18 (by rw [e19]; exact hk18) (by rw [e19]; exact ch18.trans (CHv.at X19 hZ (EL_in hw) ch18.1)) (t := .boolean) Bd.returns rfl (Or.inl ⟨rfl, Or.inr (Or.inl rfl), _, rfl⟩) (hb hby d9_68) (Nat.le_of_ble_eq_true rfl) (Nat.le_of_ble_eq_true rfl) ⟨by rw [fin], N0, by rw [e19]; exact ((Keep.refl h0 []).ext E18)⟩
  · refine ODH.go (B := (s₁.setTop (mkF m 63 #[.val (.int x0), .val (.ref a1), .val (.int v41_1)] []))) (fun t k => XS.ifYes X0.here hx rfl (pc0 := 43) (pc' := 63) rfl (hb hby d9_43) rfl (by rw [if0]; exact (feq c43_17).2) (by decide) (by decide) k) ?_
    refine ODH.go (B := (s₁.setTop (mkF m 64 #[.val (.int x0), .val (.ref a1), .val (.int v41_1)] [(.int (1 : Int32))]))) (fun t k => XS.iconst X0.here hx rfl (hb hby d9_63) k) ?_
    refine ODH.go (B := (s₁.setTop (mkF m 68 #[.val (.int x0), .val (.ref a1), .val (.int v41_1)] [(.int (1 : Int32))]))) (fun t k => XS.goto X0.here hx rfl (pc0 := 64) (pc' := 68) rfl (hb hby d9_64) (by decide) (by decide) k) ?_
    have eal : own_al x0 = v41_1 := hv41_1.symm
    have fin : (own_kept (own_al x0) (own_li4 (45 : Int32) (46 : Int32) (95 : Int32) (126 : Int32) x0) (own_li0  x0)) = (1 : Int32) := by unfold own_kept; rw [eal, if_neg c43_17]
    exact ODH.ret X0 hx hlk hS0 (by rw [e0]; exact hk0) (by rw [e0]; exact ch0.trans (CHv.at X0 hZ (EL_in hw) ch0.1)) (t := .boolean) Bd.returns rfl (Or.inl ⟨rfl, Or.inr (Or.inl rfl), _, rfl⟩) (hb hby d9_68) (Nat.le_of_ble_eq_true rfl) (Nat.le_of_ble_eq_true rfl) ⟨by rw [fin], N0, by rw [e0]; exact (Keep.refl h0 [])⟩
def Q_rmK1 (Z : State) (x0 : Int32) (a1 : Addr) (h0 : Heap) (c0 : Int32) (n0 : Nat) (v : Option Value) (h : Heap) (L : List Loc) : Prop := v = some (.int (own_kept (own_al x0) (own_li4 (45 : Int32) (46 : Int32) (95 : Int32) (126 : Int32) x0) (own_li1 c0 x0))) ∧ Fr n0 L ∧ Keep h0 h []
set_option maxRecDepth 65536 in
set_option maxHeartbeats 40000000 in
theorem rmK1 (l : Launch) (Z : State) (a0 : Array Value) (hw : ∀ d ∈ tables_1, d.before a0 Z = true) (ws : List Jvm.Cond) (x0 : Int32) (a1 : Addr) (h0 : Heap) (E1 : Exa Z h0 a1 "java/lang/String") (C1 : Fld Z h0 a1 "java/lang/String" "coder" "B" (.int (0 : Int32))) (t1 : Addr) (kt : ClassId) (V1 : Fld Z h0 a1 "java/lang/String" "value" "[B" (.ref t1)) (c0 : Int32) (A1 : Arv Z h0 t1 kt .byte (1 : Int32) [(.int c0)] (.int 0)) (n0 : Nat) (X00 : Old Z n0 h0) (Z0 : n0 ≤ h0.size) (zc : Int32) (O2 : Sta Z Z.heap "java/lang/String" "COMPACT_STRINGS" "Z" (.int zc)) (P5 : ¬ zc = 0) :
    MetFree l (⟨"com/example/triad/triad/rest/PercentEncoding", "isKept", "(ILjava/lang/String;)Z"⟩ : MethodName) (head1 (Jvm.Cond.code (⟨"com/example/triad/triad/rest/PercentEncoding", "isKept", "(ILjava/lang/String;)Z"⟩ : MethodName) prog_9_method_2_code 3 (some .boolean) :: ws) ({ frames := 5, cells := 2, slots := 20, locals := 100 } : Room)) (fun a U => a = #[(.int x0), (.ref a1)] ∧ Z.Warmed39 U.vm ∧ U.heap = h0 ∧ CHv Z own_EL U.vm h0) (fun _ _ _ _ _ => True) (fun _ U o U' => ∃ v L, o = .returned v ∧ Q_rmK1 Z x0 a1 h0 c0 n0 v U'.heap L ∧ CHr Z own_EL U.vm U.heap U'.vm U'.heap ∧ ReturnedEndW U o U' L ({ frames := 5, cells := 2, slots := 20, locals := 100 } : Room).cells ({ frames := 5, cells := 2, slots := 20, locals := 100 } : Room).slots) := by
  refine MetFree.of_bodySF (plainFor_of_name pn2) hisR ?_
  intro p e s m args below meth c s₁ Bd hml0 hP hK
  obtain ⟨rfl, hZ, hh, hH0⟩ := hP
  have hx := Bd.exec
  have hby := Bd.bytes
  have hlk : meth.locks = false := Bd.notSynchronized
  have hml : c.maxLocals = 3 := hml0
  have hown : s.vm.findClass "com/example/triad/triad/rest/PercentEncoding" = some m.cls := findClass_of_methodNamed Bd.named
  have hnm := (name_of_methodNamed Bd.named Bd.method).1
  have X0 : Stand p l e ({ frames := 5, cells := 2, slots := 20, locals := 100 } : Room) s m #[(.int x0), (.ref a1)] below meth c s₁ [] 0 0 := Stand.of_body Bd
  have e0 : s₁.heap = h0 := by rw [← hh, Bd.state]; rfl
  have hS0 : s.Since s.vm s.heap.size := (State.WarmedH.refl s).since _
  have hk0 : s.heap.size ≤ h0.size := Nat.le_of_eq (by rw [hh])
  have X0 : Stand p l e ({ frames := 5, cells := 2, slots := 20, locals := 100 } : Room) (s.setVm s.vm) m #[(.int x0), (.ref a1)] below meth c s₁ [] 0 0 := X0
  have hZ : Z.Warmed39 (s.setVm s.vm).vm := hZ
  have hown : (s.setVm s.vm).vm.findClass "com/example/triad/triad/rest/PercentEncoding" = some m.cls := hown
  have ch0 : CHr Z own_EL s.vm s.heap s.vm h0 := by have q := CHr.refl hH0; rw [← hh] at q ⊢; exact q
  have N0 := Fr.nil n0
  suffices hgo : ODH Z own_EL p e s below (Q_rmK1 Z x0 a1 h0 c0 n0) ({ frames := 5, cells := 2, slots := 20, locals := 100 } : Room).cells ({ frames := 5, cells := 2, slots := 20, locals := 100 } : Room).slots (s₁.setTop (mkF m 0 #[.val (.int x0), .val (.ref a1), .unset] [])) by
    obtain ⟨s₂, o, hgo1, hgo2⟩ := hgo
    exact ⟨s₂, o, castTop (ef9 m x0 a1) hgo1, hgo2⟩
  refine ODH.go (B := (s₁.setTop (mkF m 1 #[.val (.int x0), .val (.ref a1), .unset] [(.int x0)]))) (fun t k => XS.iloadN X0.here hx rfl (hb hby d9_0) rfl k) ?_
  refine ODH.go (B := (s₁.setTop (mkF m 3 #[.val (.int x0), .val (.ref a1), .unset] [(.int (97 : Int32)), (.int x0)]))) (fun t k => XS.bipush X0.here hx rfl (hb hby d9_1) k) ?_
  obtain ⟨v41_1, hv41_1⟩ : ∃ z : Int32, z = (if x0 < (97 : Int32) then (if x0 < (65 : Int32) then (if x0 < (48 : Int32) then (0 : Int32) else (if (57 : Int32) < x0 then (0 : Int32) else (1 : Int32))) else (if (90 : Int32) < x0 then (if x0 < (48 : Int32) then (0 : Int32) else (if (57 : Int32) < x0 then (0 : Int32) else (1 : Int32))) else (1 : Int32))) else (if (122 : Int32) < x0 then (if x0 < (65 : Int32) then (if x0 < (48 : Int32) then (0 : Int32) else (if (57 : Int32) < x0 then (0 : Int32) else (1 : Int32))) else (if (90 : Int32) < x0 then (if x0 < (48 : Int32) then (0 : Int32) else (if (57 : Int32) < x0 then (0 : Int32) else (1 : Int32))) else (1 : Int32))) else (1 : Int32))) := ⟨_, rfl⟩
  refine ODH.cut (B := (s₁.setTop (mkF m 41 #[.val (.int x0), .val (.ref a1), .unset] [(.int v41_1)]))) (fun J41_2 => ?_) ?_
  · skip
    by_cases c3_3 : x0 < (97 : Int32)
    · refine ODH.go (B := (s₁.setTop (mkF m 12 #[.val (.int x0), .val (.ref a1), .unset] []))) (fun t k => XS.icmpYes X0.here hx rfl (pc0 := 3) (pc' := 12) rfl (hb hby d9_3) rfl (tlt c3_3).1 (by decide) (by decide) k) ?_
      refine ODH.go (B := (s₁.setTop (mkF m 13 #[.val (.int x0), .val (.ref a1), .unset] [(.int x0)]))) (fun t k => XS.iloadN X0.here hx rfl (hb hby d9_12) rfl k) ?_
      refine ODH.go (B := (s₁.setTop (mkF m 15 #[.val (.int x0), .val (.ref a1), .unset] [(.int (65 : Int32)), (.int x0)]))) (fun t k => XS.bipush X0.here hx rfl (hb hby d9_13) k) ?_
      by_cases c15_4 : x0 < (65 : Int32)
      · refine ODH.go (B := (s₁.setTop (mkF m 24 #[.val (.int x0), .val (.ref a1), .unset] []))) (fun t k => XS.icmpYes X0.here hx rfl (pc0 := 15) (pc' := 24) rfl (hb hby d9_15) rfl (tlt c15_4).1 (by decide) (by decide) k) ?_
        refine ODH.go (B := (s₁.setTop (mkF m 25 #[.val (.int x0), .val (.ref a1), .unset] [(.int x0)]))) (fun t k => XS.iloadN X0.here hx rfl (hb hby d9_24) rfl k) ?_
        refine ODH.go (B := (s₁.setTop (mkF m 27 #[.val (.int x0), .val (.ref a1), .unset] [(.int (48 : Int32)), (.int x0)]))) (fun t k => XS.bipush X0.here hx rfl (hb hby d9_25) k) ?_
        by_cases c27_5 : x0 < (48 : Int32)
        · refine ODH.go (B := (s₁.setTop (mkF m 40 #[.val (.int x0), .val (.ref a1), .unset] []))) (fun t k => XS.icmpYes X0.here hx rfl (pc0 := 27) (pc' := 40) rfl (hb hby d9_27) rfl (tlt c27_5).1 (by decide) (by decide) k) ?_
          refine ODH.go (B := (s₁.setTop (mkF m 41 #[.val (.int x0), .val (.ref a1), .unset] [(.int (0 : Int32))]))) (fun t k => XS.iconst X0.here hx rfl (hb hby d9_40) k) ?_
          rw [if_pos c3_3, if_pos c15_4, if_pos c27_5] at hv41_1
          rw [hv41_1] at J41_2
          exact J41_2
        · refine ODH.go (B := (s₁.setTop (mkF m 30 #[.val (.int x0), .val (.ref a1), .unset] []))) (fun t k => XS.icmpNo X0.here hx rfl (hb hby d9_27) rfl (flt c27_5).1 k) ?_
          refine ODH.go (B := (s₁.setTop (mkF m 31 #[.val (.int x0), .val (.ref a1), .unset] [(.int x0)]))) (fun t k => XS.iloadN X0.here hx rfl (hb hby d9_30) rfl k) ?_
          refine ODH.go (B := (s₁.setTop (mkF m 33 #[.val (.int x0), .val (.ref a1), .unset] [(.int (57 : Int32)), (.int x0)]))) (fun t k => XS.bipush X0.here hx rfl (hb hby d9_31) k) ?_
          by_cases c33_6 : (57 : Int32) < x0
          · refine ODH.go (B := (s₁.setTop (mkF m 40 #[.val (.int x0), .val (.ref a1), .unset] []))) (fun t k => XS.icmpYes X0.here hx rfl (pc0 := 33) (pc' := 40) rfl (hb hby d9_33) rfl (tlt c33_6).2.2.1 (by decide) (by decide) k) ?_
            refine ODH.go (B := (s₁.setTop (mkF m 41 #[.val (.int x0), .val (.ref a1), .unset] [(.int (0 : Int32))]))) (fun t k => XS.iconst X0.here hx rfl (hb hby d9_40) k) ?_
            rw [if_pos c3_3, if_pos c15_4, if_neg c27_5, if_pos c33_6] at hv41_1
            rw [hv41_1] at J41_2
            exact J41_2
          · refine ODH.go (B := (s₁.setTop (mkF m 36 #[.val (.int x0), .val (.ref a1), .unset] []))) (fun t k => XS.icmpNo X0.here hx rfl (hb hby d9_33) rfl (flt c33_6).2.2.1 k) ?_
            refine ODH.go (B := (s₁.setTop (mkF m 37 #[.val (.int x0), .val (.ref a1), .unset] [(.int (1 : Int32))]))) (fun t k => XS.iconst X0.here hx rfl (hb hby d9_36) k) ?_
            refine ODH.go (B := (s₁.setTop (mkF m 41 #[.val (.int x0), .val (.ref a1), .unset] [(.int (1 : Int32))]))) (fun t k => XS.goto X0.here hx rfl (pc0 := 37) (pc' := 41) rfl (hb hby d9_37) (by decide) (by decide) k) ?_
            rw [if_pos c3_3, if_pos c15_4, if_neg c27_5, if_neg c33_6] at hv41_1
            rw [hv41_1] at J41_2
            exact J41_2
      · refine ODH.go (B := (s₁.setTop (mkF m 18 #[.val (.int x0), .val (.ref a1), .unset] []))) (fun t k => XS.icmpNo X0.here hx rfl (hb hby d9_15) rfl (flt c15_4).1 k) ?_
        refine ODH.go (B := (s₁.setTop (mkF m 19 #[.val (.int x0), .val (.ref a1), .unset] [(.int x0)]))) (fun t k => XS.iloadN X0.here hx rfl (hb hby d9_18) rfl k) ?_
        refine ODH.go (B := (s₁.setTop (mkF m 21 #[.val (.int x0), .val (.ref a1), .unset] [(.int (90 : Int32)), (.int x0)]))) (fun t k => XS.bipush X0.here hx rfl (hb hby d9_19) k) ?_
        by_cases c21_7 : (90 : Int32) < x0
        · refine ODH.go (B := (s₁.setTop (mkF m 24 #[.val (.int x0), .val (.ref a1), .unset] []))) (fun t k => XS.icmpNo X0.here hx rfl (hb hby d9_21) rfl (tlt c21_7).2.2.2 k) ?_
          refine ODH.go (B := (s₁.setTop (mkF m 25 #[.val (.int x0), .val (.ref a1), .unset] [(.int x0)]))) (fun t k => XS.iloadN X0.here hx rfl (hb hby d9_24) rfl k) ?_
          refine ODH.go (B := (s₁.setTop (mkF m 27 #[.val (.int x0), .val (.ref a1), .unset] [(.int (48 : Int32)), (.int x0)]))) (fun t k => XS.bipush X0.here hx rfl (hb hby d9_25) k) ?_
          by_cases c27_8 : x0 < (48 : Int32)
          · refine ODH.go (B := (s₁.setTop (mkF m 40 #[.val (.int x0), .val (.ref a1), .unset] []))) (fun t k => XS.icmpYes X0.here hx rfl (pc0 := 27) (pc' := 40) rfl (hb hby d9_27) rfl (tlt c27_8).1 (by decide) (by decide) k) ?_
            refine ODH.go (B := (s₁.setTop (mkF m 41 #[.val (.int x0), .val (.ref a1), .unset] [(.int (0 : Int32))]))) (fun t k => XS.iconst X0.here hx rfl (hb hby d9_40) k) ?_
            rw [if_pos c3_3, if_neg c15_4, if_pos c21_7, if_pos c27_8] at hv41_1
            rw [hv41_1] at J41_2
            exact J41_2
          · refine ODH.go (B := (s₁.setTop (mkF m 30 #[.val (.int x0), .val (.ref a1), .unset] []))) (fun t k => XS.icmpNo X0.here hx rfl (hb hby d9_27) rfl (flt c27_8).1 k) ?_
            refine ODH.go (B := (s₁.setTop (mkF m 31 #[.val (.int x0), .val (.ref a1), .unset] [(.int x0)]))) (fun t k => XS.iloadN X0.here hx rfl (hb hby d9_30) rfl k) ?_
            refine ODH.go (B := (s₁.setTop (mkF m 33 #[.val (.int x0), .val (.ref a1), .unset] [(.int (57 : Int32)), (.int x0)]))) (fun t k => XS.bipush X0.here hx rfl (hb hby d9_31) k) ?_
            by_cases c33_9 : (57 : Int32) < x0
            · refine ODH.go (B := (s₁.setTop (mkF m 40 #[.val (.int x0), .val (.ref a1), .unset] []))) (fun t k => XS.icmpYes X0.here hx rfl (pc0 := 33) (pc' := 40) rfl (hb hby d9_33) rfl (tlt c33_9).2.2.1 (by decide) (by decide) k) ?_
              refine ODH.go (B := (s₁.setTop (mkF m 41 #[.val (.int x0), .val (.ref a1), .unset] [(.int (0 : Int32))]))) (fun t k => XS.iconst X0.here hx rfl (hb hby d9_40) k) ?_
              rw [if_pos c3_3, if_neg c15_4, if_pos c21_7, if_neg c27_8, if_pos c33_9] at hv41_1
              rw [hv41_1] at J41_2
              exact J41_2
            · refine ODH.go (B := (s₁.setTop (mkF m 36 #[.val (.int x0), .val (.ref a1), .unset] []))) (fun t k => XS.icmpNo X0.here hx rfl (hb hby d9_33) rfl (flt c33_9).2.2.1 k) ?_
              refine ODH.go (B := (s₁.setTop (mkF m 37 #[.val (.int x0), .val (.ref a1), .unset] [(.int (1 : Int32))]))) (fun t k => XS.iconst X0.here hx rfl (hb hby d9_36) k) ?_
              refine ODH.go (B := (s₁.setTop (mkF m 41 #[.val (.int x0), .val (.ref a1), .unset] [(.int (1 : Int32))]))) (fun t k => XS.goto X0.here hx rfl (pc0 := 37) (pc' := 41) rfl (hb hby d9_37) (by decide) (by decide) k) ?_
              rw [if_pos c3_3, if_neg c15_4, if_pos c21_7, if_neg c27_8, if_neg c33_9] at hv41_1
              rw [hv41_1] at J41_2
              exact J41_2
        · refine ODH.go (B := (s₁.setTop (mkF m 36 #[.val (.int x0), .val (.ref a1), .unset] []))) (fun t k => XS.icmpYes X0.here hx rfl (pc0 := 21) (pc' := 36) rfl (hb hby d9_21) rfl (flt c21_7).2.2.2 (by decide) (by decide) k) ?_
          refine ODH.go (B := (s₁.setTop (mkF m 37 #[.val (.int x0), .val (.ref a1), .unset] [(.int (1 : Int32))]))) (fun t k => XS.iconst X0.here hx rfl (hb hby d9_36) k) ?_
          refine ODH.go (B := (s₁.setTop (mkF m 41 #[.val (.int x0), .val (.ref a1), .unset] [(.int (1 : Int32))]))) (fun t k => XS.goto X0.here hx rfl (pc0 := 37) (pc' := 41) rfl (hb hby d9_37) (by decide) (by decide) k) ?_
          rw [if_pos c3_3, if_neg c15_4, if_neg c21_7] at hv41_1
          rw [hv41_1] at J41_2
          exact J41_2
    · refine ODH.go (B := (s₁.setTop (mkF m 6 #[.val (.int x0), .val (.ref a1), .unset] []))) (fun t k => XS.icmpNo X0.here hx rfl (hb hby d9_3) rfl (flt c3_3).1 k) ?_
      refine ODH.go (B := (s₁.setTop (mkF m 7 #[.val (.int x0), .val (.ref a1), .unset] [(.int x0)]))) (fun t k => XS.iloadN X0.here hx rfl (hb hby d9_6) rfl k) ?_
      refine ODH.go (B := (s₁.setTop (mkF m 9 #[.val (.int x0), .val (.ref a1), .unset] [(.int (122 : Int32)), (.int x0)]))) (fun t k => XS.bipush X0.here hx rfl (hb hby d9_7) k) ?_
      by_cases c9_10 : (122 : Int32) < x0
      · refine ODH.go (B := (s₁.setTop (mkF m 12 #[.val (.int x0), .val (.ref a1), .unset] []))) (fun t k => XS.icmpNo X0.here hx rfl (hb hby d9_9) rfl (tlt c9_10).2.2.2 k) ?_
        refine ODH.go (B := (s₁.setTop (mkF m 13 #[.val (.int x0), .val (.ref a1), .unset] [(.int x0)]))) (fun t k => XS.iloadN X0.here hx rfl (hb hby d9_12) rfl k) ?_
        refine ODH.go (B := (s₁.setTop (mkF m 15 #[.val (.int x0), .val (.ref a1), .unset] [(.int (65 : Int32)), (.int x0)]))) (fun t k => XS.bipush X0.here hx rfl (hb hby d9_13) k) ?_
        by_cases c15_11 : x0 < (65 : Int32)
        · refine ODH.go (B := (s₁.setTop (mkF m 24 #[.val (.int x0), .val (.ref a1), .unset] []))) (fun t k => XS.icmpYes X0.here hx rfl (pc0 := 15) (pc' := 24) rfl (hb hby d9_15) rfl (tlt c15_11).1 (by decide) (by decide) k) ?_
          refine ODH.go (B := (s₁.setTop (mkF m 25 #[.val (.int x0), .val (.ref a1), .unset] [(.int x0)]))) (fun t k => XS.iloadN X0.here hx rfl (hb hby d9_24) rfl k) ?_
          refine ODH.go (B := (s₁.setTop (mkF m 27 #[.val (.int x0), .val (.ref a1), .unset] [(.int (48 : Int32)), (.int x0)]))) (fun t k => XS.bipush X0.here hx rfl (hb hby d9_25) k) ?_
          by_cases c27_12 : x0 < (48 : Int32)
          · refine ODH.go (B := (s₁.setTop (mkF m 40 #[.val (.int x0), .val (.ref a1), .unset] []))) (fun t k => XS.icmpYes X0.here hx rfl (pc0 := 27) (pc' := 40) rfl (hb hby d9_27) rfl (tlt c27_12).1 (by decide) (by decide) k) ?_
            refine ODH.go (B := (s₁.setTop (mkF m 41 #[.val (.int x0), .val (.ref a1), .unset] [(.int (0 : Int32))]))) (fun t k => XS.iconst X0.here hx rfl (hb hby d9_40) k) ?_
            rw [if_neg c3_3, if_pos c9_10, if_pos c15_11, if_pos c27_12] at hv41_1
            rw [hv41_1] at J41_2
            exact J41_2
          · refine ODH.go (B := (s₁.setTop (mkF m 30 #[.val (.int x0), .val (.ref a1), .unset] []))) (fun t k => XS.icmpNo X0.here hx rfl (hb hby d9_27) rfl (flt c27_12).1 k) ?_
            refine ODH.go (B := (s₁.setTop (mkF m 31 #[.val (.int x0), .val (.ref a1), .unset] [(.int x0)]))) (fun t k => XS.iloadN X0.here hx rfl (hb hby d9_30) rfl k) ?_
            refine ODH.go (B := (s₁.setTop (mkF m 33 #[.val (.int x0), .val (.ref a1), .unset] [(.int (57 : Int32)), (.int x0)]))) (fun t k => XS.bipush X0.here hx rfl (hb hby d9_31) k) ?_
            by_cases c33_13 : (57 : Int32) < x0
            · refine ODH.go (B := (s₁.setTop (mkF m 40 #[.val (.int x0), .val (.ref a1), .unset] []))) (fun t k => XS.icmpYes X0.here hx rfl (pc0 := 33) (pc' := 40) rfl (hb hby d9_33) rfl (tlt c33_13).2.2.1 (by decide) (by decide) k) ?_
              refine ODH.go (B := (s₁.setTop (mkF m 41 #[.val (.int x0), .val (.ref a1), .unset] [(.int (0 : Int32))]))) (fun t k => XS.iconst X0.here hx rfl (hb hby d9_40) k) ?_
              rw [if_neg c3_3, if_pos c9_10, if_pos c15_11, if_neg c27_12, if_pos c33_13] at hv41_1
              rw [hv41_1] at J41_2
              exact J41_2
            · refine ODH.go (B := (s₁.setTop (mkF m 36 #[.val (.int x0), .val (.ref a1), .unset] []))) (fun t k => XS.icmpNo X0.here hx rfl (hb hby d9_33) rfl (flt c33_13).2.2.1 k) ?_
              refine ODH.go (B := (s₁.setTop (mkF m 37 #[.val (.int x0), .val (.ref a1), .unset] [(.int (1 : Int32))]))) (fun t k => XS.iconst X0.here hx rfl (hb hby d9_36) k) ?_
              refine ODH.go (B := (s₁.setTop (mkF m 41 #[.val (.int x0), .val (.ref a1), .unset] [(.int (1 : Int32))]))) (fun t k => XS.goto X0.here hx rfl (pc0 := 37) (pc' := 41) rfl (hb hby d9_37) (by decide) (by decide) k) ?_
              rw [if_neg c3_3, if_pos c9_10, if_pos c15_11, if_neg c27_12, if_neg c33_13] at hv41_1
              rw [hv41_1] at J41_2
              exact J41_2
        · refine ODH.go (B := (s₁.setTop (mkF m 18 #[.val (.int x0), .val (.ref a1), .unset] []))) (fun t k => XS.icmpNo X0.here hx rfl (hb hby d9_15) rfl (flt c15_11).1 k) ?_
          refine ODH.go (B := (s₁.setTop (mkF m 19 #[.val (.int x0), .val (.ref a1), .unset] [(.int x0)]))) (fun t k => XS.iloadN X0.here hx rfl (hb hby d9_18) rfl k) ?_
          refine ODH.go (B := (s₁.setTop (mkF m 21 #[.val (.int x0), .val (.ref a1), .unset] [(.int (90 : Int32)), (.int x0)]))) (fun t k => XS.bipush X0.here hx rfl (hb hby d9_19) k) ?_
          by_cases c21_14 : (90 : Int32) < x0
          · refine ODH.go (B := (s₁.setTop (mkF m 24 #[.val (.int x0), .val (.ref a1), .unset] []))) (fun t k => XS.icmpNo X0.here hx rfl (hb hby d9_21) rfl (tlt c21_14).2.2.2 k) ?_
            refine ODH.go (B := (s₁.setTop (mkF m 25 #[.val (.int x0), .val (.ref a1), .unset] [(.int x0)]))) (fun t k => XS.iloadN X0.here hx rfl (hb hby d9_24) rfl k) ?_
            refine ODH.go (B := (s₁.setTop (mkF m 27 #[.val (.int x0), .val (.ref a1), .unset] [(.int (48 : Int32)), (.int x0)]))) (fun t k => XS.bipush X0.here hx rfl (hb hby d9_25) k) ?_
            by_cases c27_15 : x0 < (48 : Int32)
            · refine ODH.go (B := (s₁.setTop (mkF m 40 #[.val (.int x0), .val (.ref a1), .unset] []))) (fun t k => XS.icmpYes X0.here hx rfl (pc0 := 27) (pc' := 40) rfl (hb hby d9_27) rfl (tlt c27_15).1 (by decide) (by decide) k) ?_
              refine ODH.go (B := (s₁.setTop (mkF m 41 #[.val (.int x0), .val (.ref a1), .unset] [(.int (0 : Int32))]))) (fun t k => XS.iconst X0.here hx rfl (hb hby d9_40) k) ?_
              rw [if_neg c3_3, if_pos c9_10, if_neg c15_11, if_pos c21_14, if_pos c27_15] at hv41_1
              rw [hv41_1] at J41_2
              exact J41_2
            · refine ODH.go (B := (s₁.setTop (mkF m 30 #[.val (.int x0), .val (.ref a1), .unset] []))) (fun t k => XS.icmpNo X0.here hx rfl (hb hby d9_27) rfl (flt c27_15).1 k) ?_
              refine ODH.go (B := (s₁.setTop (mkF m 31 #[.val (.int x0), .val (.ref a1), .unset] [(.int x0)]))) (fun t k => XS.iloadN X0.here hx rfl (hb hby d9_30) rfl k) ?_
              refine ODH.go (B := (s₁.setTop (mkF m 33 #[.val (.int x0), .val (.ref a1), .unset] [(.int (57 : Int32)), (.int x0)]))) (fun t k => XS.bipush X0.here hx rfl (hb hby d9_31) k) ?_
              by_cases c33_16 : (57 : Int32) < x0
              · refine ODH.go (B := (s₁.setTop (mkF m 40 #[.val (.int x0), .val (.ref a1), .unset] []))) (fun t k => XS.icmpYes X0.here hx rfl (pc0 := 33) (pc' := 40) rfl (hb hby d9_33) rfl (tlt c33_16).2.2.1 (by decide) (by decide) k) ?_
                refine ODH.go (B := (s₁.setTop (mkF m 41 #[.val (.int x0), .val (.ref a1), .unset] [(.int (0 : Int32))]))) (fun t k => XS.iconst X0.here hx rfl (hb hby d9_40) k) ?_
                rw [if_neg c3_3, if_pos c9_10, if_neg c15_11, if_pos c21_14, if_neg c27_15, if_pos c33_16] at hv41_1
                rw [hv41_1] at J41_2
                exact J41_2
              · refine ODH.go (B := (s₁.setTop (mkF m 36 #[.val (.int x0), .val (.ref a1), .unset] []))) (fun t k => XS.icmpNo X0.here hx rfl (hb hby d9_33) rfl (flt c33_16).2.2.1 k) ?_
                refine ODH.go (B := (s₁.setTop (mkF m 37 #[.val (.int x0), .val (.ref a1), .unset] [(.int (1 : Int32))]))) (fun t k => XS.iconst X0.here hx rfl (hb hby d9_36) k) ?_
                refine ODH.go (B := (s₁.setTop (mkF m 41 #[.val (.int x0), .val (.ref a1), .unset] [(.int (1 : Int32))]))) (fun t k => XS.goto X0.here hx rfl (pc0 := 37) (pc' := 41) rfl (hb hby d9_37) (by decide) (by decide) k) ?_
                rw [if_neg c3_3, if_pos c9_10, if_neg c15_11, if_pos c21_14, if_neg c27_15, if_neg c33_16] at hv41_1
                rw [hv41_1] at J41_2
                exact J41_2
          · refine ODH.go (B := (s₁.setTop (mkF m 36 #[.val (.int x0), .val (.ref a1), .unset] []))) (fun t k => XS.icmpYes X0.here hx rfl (pc0 := 21) (pc' := 36) rfl (hb hby d9_21) rfl (flt c21_14).2.2.2 (by decide) (by decide) k) ?_
            refine ODH.go (B := (s₁.setTop (mkF m 37 #[.val (.int x0), .val (.ref a1), .unset] [(.int (1 : Int32))]))) (fun t k => XS.iconst X0.here hx rfl (hb hby d9_36) k) ?_
            refine ODH.go (B := (s₁.setTop (mkF m 41 #[.val (.int x0), .val (.ref a1), .unset] [(.int (1 : Int32))]))) (fun t k => XS.goto X0.here hx rfl (pc0 := 37) (pc' := 41) rfl (hb hby d9_37) (by decide) (by decide) k) ?_
            rw [if_neg c3_3, if_pos c9_10, if_neg c15_11, if_neg c21_14] at hv41_1
            rw [hv41_1] at J41_2
            exact J41_2
      · refine ODH.go (B := (s₁.setTop (mkF m 36 #[.val (.int x0), .val (.ref a1), .unset] []))) (fun t k => XS.icmpYes X0.here hx rfl (pc0 := 9) (pc' := 36) rfl (hb hby d9_9) rfl (flt c9_10).2.2.2 (by decide) (by decide) k) ?_
        refine ODH.go (B := (s₁.setTop (mkF m 37 #[.val (.int x0), .val (.ref a1), .unset] [(.int (1 : Int32))]))) (fun t k => XS.iconst X0.here hx rfl (hb hby d9_36) k) ?_
        refine ODH.go (B := (s₁.setTop (mkF m 41 #[.val (.int x0), .val (.ref a1), .unset] [(.int (1 : Int32))]))) (fun t k => XS.goto X0.here hx rfl (pc0 := 37) (pc' := 41) rfl (hb hby d9_37) (by decide) (by decide) k) ?_
        rw [if_neg c3_3, if_neg c9_10] at hv41_1
        rw [hv41_1] at J41_2
        exact J41_2
  refine ODH.go (B := (s₁.setTop (mkF m 42 #[.val (.int x0), .val (.ref a1), .val (.int v41_1)] []))) (fun t k => XS.istoreN X0.here hx rfl (hb hby d9_41) rfl (l' := #[.val (.int x0), .val (.ref a1), .val (.int v41_1)]) rfl k) ?_
  refine ODH.go (B := (s₁.setTop (mkF m 43 #[.val (.int x0), .val (.ref a1), .val (.int v41_1)] [(.int v41_1)]))) (fun t k => XS.iloadN X0.here hx rfl (hb hby d9_42) rfl k) ?_
  by_cases c43_17 : v41_1 = (0 : Int32)
  · refine ODH.go (B := (s₁.setTop (mkF m 46 #[.val (.int x0), .val (.ref a1), .val (.int v41_1)] []))) (fun t k => XS.ifNo X0.here hx rfl (hb hby d9_43) rfl (by rw [if0]; exact (teq c43_17).2) k) ?_
    obtain ⟨b18, T18, h18, k18, t18, kb18, X18, e18, E18, hS18, hk18, hZ, hown, Ea18, Ca18, Va18, Ab18, la18, lb18, cr18, -, ns18, st18⟩ := ldcCH X0 hx hZ hown (Wd41 hw) (wS_in hw) e0 hS0 hk0 (EL_in hw) (List.mem_of_getElem? (i := 0) rfl) ch0.1 (vs := [(.int (45 : Int32)), (.int (46 : Int32)), (.int (95 : Int32)), (.int (126 : Int32))]) (z := (4 : Int32)) ⟨by decide, by decide⟩ (by decide) (by decide) (g := (mkF m 46 #[.val (.int x0), .val (.ref a1), .val (.int v41_1)] [])) rfl (hb hby d9_46) (n := 16) (by decide) (by decide) (Nat.le_of_ble_eq_true rfl) (Nat.le_of_ble_eq_true rfl)
    have ch18 := ch0.trans cr18
    refine ODH.go (B := (T18.setTop (mkF m 48 #[.val (.int x0), .val (.ref a1), .val (.int v41_1)] [(.ref b18)]))) st18 ?_
    refine ODH.go (B := (T18.setTop (mkF m 49 #[.val (.int x0), .val (.ref a1), .val (.int v41_1)] [(.int x0), (.ref b18)]))) (fun t k => XS.iloadN X18.here hx rfl (hb hby d9_48) rfl k) ?_
    obtain ⟨cq19, kq19, qa19, qb19, qc19⟩ := isOf hZ e18 Ea18
    obtain ⟨_, _, ⟨T19, L19, k19, n19⟩, -, X19, ⟨Lc19, hQ19, l19, y19, z19⟩, st19⟩ := X18.virtualBack hx (y := (⟨"java/lang/String", "indexOf", "(I)I"⟩ : MethodName)) (z := (⟨"java/lang/String", "indexOf", "(I)I"⟩ : MethodName)) hown (mvT hZ (Wd44 hw)) (mvT hZ (Wd45 hw)) (notFace_of_selects (args := #[]) (mvT hZ (Wd47 hw))) (mvT hZ (Wd47 hw)) (mvT hZ (Wd46 hw)) (by decide) (backOf (W := 0) (rmX1_4 l Z a0 hw [] b18 x0 h18 Ea18 Ca18 t18 kb18 Va18 (45 : Int32) (46 : Int32) (95 : Int32) (126 : Int32) Ab18 n0 (X00.ext E18) zc O2 P5) hZ (Wd48 hw) (Wd6 hw) (by decide) (by decide)) qa19 qc19 (g := (mkF m 49 #[.val (.int x0), .val (.ref a1), .val (.int v41_1)] [(.int x0), (.ref b18)])) rfl (by rw [hml]; rfl) (Steps.refl _) (argsL := [(.int x0)]) (rest := []) (lenOf pd7 rfl) rfl (by show 2 * 0 + _ ≤ _; exact Nat.le_of_eq rfl) (hb hby d9_49) (fun _ _ => ⟨rfl, e18, (Nat.le_of_ble_eq_true rfl), (Nat.le_of_ble_eq_true rfl)⟩)
    dsimp only [Pt.U, Pt.locs, Pt.cells, Pt.slots] at X19 l19 y19 z19 st19 hQ19
    subst l19 y19 z19
    obtain ⟨rfl, rfl, e19⟩ := hQ19
    try rw [List.append_nil] at X19
    refine ODH.via (B := (T19.setTop (mkF m 52 #[.val (.int x0), .val (.ref a1), .val (.int v41_1)] [(.int (own_li4 (45 : Int32) (46 : Int32) (95 : Int32) (126 : Int32) x0))]))) st19 ?_
    by_cases c52_20 : (own_li4 (45 : Int32) (46 : Int32) (95 : Int32) (126 : Int32) x0) < (0 : Int32)
    · refine ODH.go (B := (T19.setTop (mkF m 55 #[.val (.int x0), .val (.ref a1), .val (.int v41_1)] []))) (fun t k => XS.ifNo X19.here hx rfl (hb hby d9_52) rfl (by rw [if0]; exact (tlt c52_20).2.1) k) ?_
      refine ODH.go (B := (T19.setTop (mkF m 56 #[.val (.int x0), .val (.ref a1), .val (.int v41_1)] [(.ref a1)]))) (fun t k => XS.aloadN X19.here hx rfl (hb hby d9_55) rfl rfl k) ?_
      refine ODH.go (B := (T19.setTop (mkF m 57 #[.val (.int x0), .val (.ref a1), .val (.int v41_1)] [(.int x0), (.ref a1)]))) (fun t k => XS.iloadN X19.here hx rfl (hb hby d9_56) rfl k) ?_
      have f21 := (E1.ext E18)
      have f22 := (C1.ext E18)
      have f23 := (V1.ext E18)
      have f24 := (A1.ext E18)
      obtain ⟨cq25, kq25, qa25, qb25, qc25⟩ := isOf hZ e19 f21
      obtain ⟨_, _, ⟨T25, L25, k25, n25⟩, -, X25, ⟨Lc25, hQ25, l25, y25, z25⟩, st25⟩ := X19.virtualBack hx (y := (⟨"java/lang/String", "indexOf", "(I)I"⟩ : MethodName)) (z := (⟨"java/lang/String", "indexOf", "(I)I"⟩ : MethodName)) hown (mvT hZ (Wd44 hw)) (mvT hZ (Wd45 hw)) (notFace_of_selects (args := #[]) (mvT hZ (Wd47 hw))) (mvT hZ (Wd47 hw)) (mvT hZ (Wd46 hw)) (by decide) (backOf (W := 0) (rmX1_1 l Z a0 hw [] a1 x0 h18 f21 f22 t1 kt f23 c0 f24 n0 (X00.ext E18) zc O2 P5) hZ (Wd48 hw) (Wd6 hw) (by decide) (by decide)) qa25 qc25 (g := (mkF m 57 #[.val (.int x0), .val (.ref a1), .val (.int v41_1)] [(.int x0), (.ref a1)])) rfl (by rw [hml]; rfl) (Steps.refl _) (argsL := [(.int x0)]) (rest := []) (lenOf pd7 rfl) rfl (by show 2 * 0 + _ ≤ _; exact Nat.le_of_eq rfl) (hb hby d9_57) (fun _ _ => ⟨rfl, e19, (Nat.le_of_ble_eq_true rfl), (Nat.le_of_ble_eq_true rfl)⟩)
      dsimp only [Pt.U, Pt.locs, Pt.cells, Pt.slots] at X25 l25 y25 z25 st25 hQ25
      subst l25 y25 z25
      obtain ⟨rfl, rfl, e25⟩ := hQ25
      try rw [List.append_nil] at X25
      refine ODH.via (B := (T25.setTop (mkF m 60 #[.val (.int x0), .val (.ref a1), .val (.int v41_1)] [(.int (own_li1 c0 x0))]))) st25 ?_
      by_cases c60_26 : (own_li1 c0 x0) < (0 : Int32)
      · refine ODH.go (B := (T25.setTop (mkF m 67 #[.val (.int x0), .val (.ref a1), .val (.int v41_1)] []))) (fun t k => XS.ifYes X25.here hx rfl (pc0 := 60) (pc' := 67) rfl (hb hby d9_60) rfl (by rw [if0]; exact (tlt c60_26).1) (by decide) (by decide) k) ?_
        refine ODH.go (B := (T25.setTop (mkF m 68 #[.val (.int x0), .val (.ref a1), .val (.int v41_1)] [(.int (0 : Int32))]))) (fun t k => XS.iconst X25.here hx rfl (hb hby d9_67) k) ?_
        have eal : own_al x0 = v41_1 := hv41_1.symm
        have fin : (own_kept (own_al x0) (own_li4 (45 : Int32) (46 : Int32) (95 : Int32) (126 : Int32) x0) (own_li1 c0 x0)) = (0 : Int32) := by unfold own_kept; rw [eal, if_pos c43_17, if_pos c52_20, if_pos c60_26]
        exact ODH.ret X25 hx hlk hS18 (by rw [e25]; exact hk18) (by rw [e25]; exact ch18.trans (CHv.at X25 hZ (EL_in hw) ch18.1)) (t := .boolean) Bd.returns rfl (Or.inl ⟨rfl, Or.inr (Or.inl rfl), _, rfl⟩) (hb hby d9_68) (Nat.le_of_ble_eq_true rfl) (Nat.le_of_ble_eq_true rfl) ⟨by rw [fin], N0, by rw [e25]; exact ((Keep.refl h0 []).ext E18)⟩
      · refine ODH.go (B := (T25.setTop (mkF m 63 #[.val (.int x0), .val (.ref a1), .val (.int v41_1)] []))) (fun t k => XS.ifNo X25.here hx rfl (hb hby d9_60) rfl (by rw [if0]; exact (flt c60_26).1) k) ?_
        refine ODH.go (B := (T25.setTop (mkF m 64 #[.val (.int x0), .val (.ref a1), .val (.int v41_1)] [(.int (1 : Int32))]))) (fun t k => XS.iconst X25.here hx rfl (hb hby d9_63) k) ?_
        refine ODH.go (B := (T25.setTop (mkF m 68 #[.val (.int x0), .val (.ref a1), .val (.int v41_1)] [(.int (1 : Int32))]))) (fun t k => XS.goto X25.here hx rfl (pc0 := 64) (pc' := 68) rfl (hb hby d9_64) (by decide) (by decide) k) ?_
        have eal : own_al x0 = v41_1 := hv41_1.symm
        have fin : (own_kept (own_al x0) (own_li4 (45 : Int32) (46 : Int32) (95 : Int32) (126 : Int32) x0) (own_li1 c0 x0)) = (1 : Int32) := by unfold own_kept; rw [eal, if_pos c43_17, if_pos c52_20, if_neg c60_26]
        exact ODH.ret X25 hx hlk hS18 (by rw [e25]; exact hk18) (by rw [e25]; exact ch18.trans (CHv.at X25 hZ (EL_in hw) ch18.1)) (t := .boolean) Bd.returns rfl (Or.inl ⟨rfl, Or.inr (Or.inl rfl), _, rfl⟩) (hb hby d9_68) (Nat.le_of_ble_eq_true rfl) (Nat.le_of_ble_eq_true rfl) ⟨by rw [fin], N0, by rw [e25]; exact ((Keep.refl h0 []).ext E18)⟩
    · refine ODH.go (B := (T19.setTop (mkF m 63 #[.val (.int x0), .val (.ref a1), .val (.int v41_1)] []))) (fun t k => XS.ifYes X19.here hx rfl (pc0 := 52) (pc' := 63) rfl (hb hby d9_52) rfl (by rw [if0]; exact (flt c52_20).2.1) (by decide) (by decide) k) ?_
      refine ODH.go (B := (T19.setTop (mkF m 64 #[.val (.int x0), .val (.ref a1), .val (.int v41_1)] [(.int (1 : Int32))]))) (fun t k => XS.iconst X19.here hx rfl (hb hby d9_63) k) ?_
      refine ODH.go (B := (T19.setTop (mkF m 68 #[.val (.int x0), .val (.ref a1), .val (.int v41_1)] [(.int (1 : Int32))]))) (fun t k => XS.goto X19.here hx rfl (pc0 := 64) (pc' := 68) rfl (hb hby d9_64) (by decide) (by decide) k) ?_
      have eal : own_al x0 = v41_1 := hv41_1.symm
      have fin : (own_kept (own_al x0) (own_li4 (45 : Int32) (46 : Int32) (95 : Int32) (126 : Int32) x0) (own_li1 c0 x0)) = (1 : Int32) := by unfold own_kept; rw [eal, if_pos c43_17, if_neg c52_20]
      exact ODH.ret X19 hx hlk hS18 (by rw [e19]; exact hk18) (by rw [e19]; exact ch18.trans (CHv.at X19 hZ (EL_in hw) ch18.1)) (t := .boolean) Bd.returns rfl (Or.inl ⟨rfl, Or.inr (Or.inl rfl), _, rfl⟩) (hb hby d9_68) (Nat.le_of_ble_eq_true rfl) (Nat.le_of_ble_eq_true rfl) ⟨by rw [fin], N0, by rw [e19]; exact ((Keep.refl h0 []).ext E18)⟩
  · refine ODH.go (B := (s₁.setTop (mkF m 63 #[.val (.int x0), .val (.ref a1), .val (.int v41_1)] []))) (fun t k => XS.ifYes X0.here hx rfl (pc0 := 43) (pc' := 63) rfl (hb hby d9_43) rfl (by rw [if0]; exact (feq c43_17).2) (by decide) (by decide) k) ?_
    refine ODH.go (B := (s₁.setTop (mkF m 64 #[.val (.int x0), .val (.ref a1), .val (.int v41_1)] [(.int (1 : Int32))]))) (fun t k => XS.iconst X0.here hx rfl (hb hby d9_63) k) ?_
    refine ODH.go (B := (s₁.setTop (mkF m 68 #[.val (.int x0), .val (.ref a1), .val (.int v41_1)] [(.int (1 : Int32))]))) (fun t k => XS.goto X0.here hx rfl (pc0 := 64) (pc' := 68) rfl (hb hby d9_64) (by decide) (by decide) k) ?_
    have eal : own_al x0 = v41_1 := hv41_1.symm
    have fin : (own_kept (own_al x0) (own_li4 (45 : Int32) (46 : Int32) (95 : Int32) (126 : Int32) x0) (own_li1 c0 x0)) = (1 : Int32) := by unfold own_kept; rw [eal, if_neg c43_17]
    exact ODH.ret X0 hx hlk hS0 (by rw [e0]; exact hk0) (by rw [e0]; exact ch0.trans (CHv.at X0 hZ (EL_in hw) ch0.1)) (t := .boolean) Bd.returns rfl (Or.inl ⟨rfl, Or.inr (Or.inl rfl), _, rfl⟩) (hb hby d9_68) (Nat.le_of_ble_eq_true rfl) (Nat.le_of_ble_eq_true rfl) ⟨by rw [fin], N0, by rw [e0]; exact (Keep.refl h0 [])⟩
def Q_rmK2 (Z : State) (x0 : Int32) (a1 : Addr) (h0 : Heap) (c0 c1 : Int32) (n0 : Nat) (v : Option Value) (h : Heap) (L : List Loc) : Prop := v = some (.int (own_kept (own_al x0) (own_li4 (45 : Int32) (46 : Int32) (95 : Int32) (126 : Int32) x0) (own_li2 c0 c1 x0))) ∧ Fr n0 L ∧ Keep h0 h []
set_option maxRecDepth 65536 in
set_option maxHeartbeats 40000000 in
theorem rmK2 (l : Launch) (Z : State) (a0 : Array Value) (hw : ∀ d ∈ tables_1, d.before a0 Z = true) (ws : List Jvm.Cond) (x0 : Int32) (a1 : Addr) (h0 : Heap) (E1 : Exa Z h0 a1 "java/lang/String") (C1 : Fld Z h0 a1 "java/lang/String" "coder" "B" (.int (0 : Int32))) (t1 : Addr) (kt : ClassId) (V1 : Fld Z h0 a1 "java/lang/String" "value" "[B" (.ref t1)) (c0 c1 : Int32) (A1 : Arv Z h0 t1 kt .byte (2 : Int32) [(.int c0), (.int c1)] (.int 0)) (n0 : Nat) (X00 : Old Z n0 h0) (Z0 : n0 ≤ h0.size) (zc : Int32) (O2 : Sta Z Z.heap "java/lang/String" "COMPACT_STRINGS" "Z" (.int zc)) (P5 : ¬ zc = 0) :
    MetFree l (⟨"com/example/triad/triad/rest/PercentEncoding", "isKept", "(ILjava/lang/String;)Z"⟩ : MethodName) (head1 (Jvm.Cond.code (⟨"com/example/triad/triad/rest/PercentEncoding", "isKept", "(ILjava/lang/String;)Z"⟩ : MethodName) prog_9_method_2_code 3 (some .boolean) :: ws) ({ frames := 5, cells := 2, slots := 20, locals := 100 } : Room)) (fun a U => a = #[(.int x0), (.ref a1)] ∧ Z.Warmed39 U.vm ∧ U.heap = h0 ∧ CHv Z own_EL U.vm h0) (fun _ _ _ _ _ => True) (fun _ U o U' => ∃ v L, o = .returned v ∧ Q_rmK2 Z x0 a1 h0 c0 c1 n0 v U'.heap L ∧ CHr Z own_EL U.vm U.heap U'.vm U'.heap ∧ ReturnedEndW U o U' L ({ frames := 5, cells := 2, slots := 20, locals := 100 } : Room).cells ({ frames := 5, cells := 2, slots := 20, locals := 100 } : Room).slots) := by
  refine MetFree.of_bodySF (plainFor_of_name pn2) hisR ?_
  intro p e s m args below meth c s₁ Bd hml0 hP hK
  obtain ⟨rfl, hZ, hh, hH0⟩ := hP
  have hx := Bd.exec
  have hby := Bd.bytes
  have hlk : meth.locks = false := Bd.notSynchronized
  have hml : c.maxLocals = 3 := hml0
  have hown : s.vm.findClass "com/example/triad/triad/rest/PercentEncoding" = some m.cls := findClass_of_methodNamed Bd.named
  have hnm := (name_of_methodNamed Bd.named Bd.method).1
  have X0 : Stand p l e ({ frames := 5, cells := 2, slots := 20, locals := 100 } : Room) s m #[(.int x0), (.ref a1)] below meth c s₁ [] 0 0 := Stand.of_body Bd
  have e0 : s₁.heap = h0 := by rw [← hh, Bd.state]; rfl
  have hS0 : s.Since s.vm s.heap.size := (State.WarmedH.refl s).since _
  have hk0 : s.heap.size ≤ h0.size := Nat.le_of_eq (by rw [hh])
  have X0 : Stand p l e ({ frames := 5, cells := 2, slots := 20, locals := 100 } : Room) (s.setVm s.vm) m #[(.int x0), (.ref a1)] below meth c s₁ [] 0 0 := X0
  have hZ : Z.Warmed39 (s.setVm s.vm).vm := hZ
  have hown : (s.setVm s.vm).vm.findClass "com/example/triad/triad/rest/PercentEncoding" = some m.cls := hown
  have ch0 : CHr Z own_EL s.vm s.heap s.vm h0 := by have q := CHr.refl hH0; rw [← hh] at q ⊢; exact q
  have N0 := Fr.nil n0
  suffices hgo : ODH Z own_EL p e s below (Q_rmK2 Z x0 a1 h0 c0 c1 n0) ({ frames := 5, cells := 2, slots := 20, locals := 100 } : Room).cells ({ frames := 5, cells := 2, slots := 20, locals := 100 } : Room).slots (s₁.setTop (mkF m 0 #[.val (.int x0), .val (.ref a1), .unset] [])) by
    obtain ⟨s₂, o, hgo1, hgo2⟩ := hgo
    exact ⟨s₂, o, castTop (ef9 m x0 a1) hgo1, hgo2⟩
  refine ODH.go (B := (s₁.setTop (mkF m 1 #[.val (.int x0), .val (.ref a1), .unset] [(.int x0)]))) (fun t k => XS.iloadN X0.here hx rfl (hb hby d9_0) rfl k) ?_
  refine ODH.go (B := (s₁.setTop (mkF m 3 #[.val (.int x0), .val (.ref a1), .unset] [(.int (97 : Int32)), (.int x0)]))) (fun t k => XS.bipush X0.here hx rfl (hb hby d9_1) k) ?_
  obtain ⟨v41_1, hv41_1⟩ : ∃ z : Int32, z = (if x0 < (97 : Int32) then (if x0 < (65 : Int32) then (if x0 < (48 : Int32) then (0 : Int32) else (if (57 : Int32) < x0 then (0 : Int32) else (1 : Int32))) else (if (90 : Int32) < x0 then (if x0 < (48 : Int32) then (0 : Int32) else (if (57 : Int32) < x0 then (0 : Int32) else (1 : Int32))) else (1 : Int32))) else (if (122 : Int32) < x0 then (if x0 < (65 : Int32) then (if x0 < (48 : Int32) then (0 : Int32) else (if (57 : Int32) < x0 then (0 : Int32) else (1 : Int32))) else (if (90 : Int32) < x0 then (if x0 < (48 : Int32) then (0 : Int32) else (if (57 : Int32) < x0 then (0 : Int32) else (1 : Int32))) else (1 : Int32))) else (1 : Int32))) := ⟨_, rfl⟩
  refine ODH.cut (B := (s₁.setTop (mkF m 41 #[.val (.int x0), .val (.ref a1), .unset] [(.int v41_1)]))) (fun J41_2 => ?_) ?_
  · skip
    by_cases c3_3 : x0 < (97 : Int32)
    · refine ODH.go (B := (s₁.setTop (mkF m 12 #[.val (.int x0), .val (.ref a1), .unset] []))) (fun t k => XS.icmpYes X0.here hx rfl (pc0 := 3) (pc' := 12) rfl (hb hby d9_3) rfl (tlt c3_3).1 (by decide) (by decide) k) ?_
      refine ODH.go (B := (s₁.setTop (mkF m 13 #[.val (.int x0), .val (.ref a1), .unset] [(.int x0)]))) (fun t k => XS.iloadN X0.here hx rfl (hb hby d9_12) rfl k) ?_
      refine ODH.go (B := (s₁.setTop (mkF m 15 #[.val (.int x0), .val (.ref a1), .unset] [(.int (65 : Int32)), (.int x0)]))) (fun t k => XS.bipush X0.here hx rfl (hb hby d9_13) k) ?_
      by_cases c15_4 : x0 < (65 : Int32)
      · refine ODH.go (B := (s₁.setTop (mkF m 24 #[.val (.int x0), .val (.ref a1), .unset] []))) (fun t k => XS.icmpYes X0.here hx rfl (pc0 := 15) (pc' := 24) rfl (hb hby d9_15) rfl (tlt c15_4).1 (by decide) (by decide) k) ?_
        refine ODH.go (B := (s₁.setTop (mkF m 25 #[.val (.int x0), .val (.ref a1), .unset] [(.int x0)]))) (fun t k => XS.iloadN X0.here hx rfl (hb hby d9_24) rfl k) ?_
        refine ODH.go (B := (s₁.setTop (mkF m 27 #[.val (.int x0), .val (.ref a1), .unset] [(.int (48 : Int32)), (.int x0)]))) (fun t k => XS.bipush X0.here hx rfl (hb hby d9_25) k) ?_
        by_cases c27_5 : x0 < (48 : Int32)
        · refine ODH.go (B := (s₁.setTop (mkF m 40 #[.val (.int x0), .val (.ref a1), .unset] []))) (fun t k => XS.icmpYes X0.here hx rfl (pc0 := 27) (pc' := 40) rfl (hb hby d9_27) rfl (tlt c27_5).1 (by decide) (by decide) k) ?_
          refine ODH.go (B := (s₁.setTop (mkF m 41 #[.val (.int x0), .val (.ref a1), .unset] [(.int (0 : Int32))]))) (fun t k => XS.iconst X0.here hx rfl (hb hby d9_40) k) ?_
          rw [if_pos c3_3, if_pos c15_4, if_pos c27_5] at hv41_1
          rw [hv41_1] at J41_2
          exact J41_2
        · refine ODH.go (B := (s₁.setTop (mkF m 30 #[.val (.int x0), .val (.ref a1), .unset] []))) (fun t k => XS.icmpNo X0.here hx rfl (hb hby d9_27) rfl (flt c27_5).1 k) ?_
          refine ODH.go (B := (s₁.setTop (mkF m 31 #[.val (.int x0), .val (.ref a1), .unset] [(.int x0)]))) (fun t k => XS.iloadN X0.here hx rfl (hb hby d9_30) rfl k) ?_
          refine ODH.go (B := (s₁.setTop (mkF m 33 #[.val (.int x0), .val (.ref a1), .unset] [(.int (57 : Int32)), (.int x0)]))) (fun t k => XS.bipush X0.here hx rfl (hb hby d9_31) k) ?_
          by_cases c33_6 : (57 : Int32) < x0
          · refine ODH.go (B := (s₁.setTop (mkF m 40 #[.val (.int x0), .val (.ref a1), .unset] []))) (fun t k => XS.icmpYes X0.here hx rfl (pc0 := 33) (pc' := 40) rfl (hb hby d9_33) rfl (tlt c33_6).2.2.1 (by decide) (by decide) k) ?_
            refine ODH.go (B := (s₁.setTop (mkF m 41 #[.val (.int x0), .val (.ref a1), .unset] [(.int (0 : Int32))]))) (fun t k => XS.iconst X0.here hx rfl (hb hby d9_40) k) ?_
            rw [if_pos c3_3, if_pos c15_4, if_neg c27_5, if_pos c33_6] at hv41_1
            rw [hv41_1] at J41_2
            exact J41_2
          · refine ODH.go (B := (s₁.setTop (mkF m 36 #[.val (.int x0), .val (.ref a1), .unset] []))) (fun t k => XS.icmpNo X0.here hx rfl (hb hby d9_33) rfl (flt c33_6).2.2.1 k) ?_
            refine ODH.go (B := (s₁.setTop (mkF m 37 #[.val (.int x0), .val (.ref a1), .unset] [(.int (1 : Int32))]))) (fun t k => XS.iconst X0.here hx rfl (hb hby d9_36) k) ?_
            refine ODH.go (B := (s₁.setTop (mkF m 41 #[.val (.int x0), .val (.ref a1), .unset] [(.int (1 : Int32))]))) (fun t k => XS.goto X0.here hx rfl (pc0 := 37) (pc' := 41) rfl (hb hby d9_37) (by decide) (by decide) k) ?_
            rw [if_pos c3_3, if_pos c15_4, if_neg c27_5, if_neg c33_6] at hv41_1
            rw [hv41_1] at J41_2
            exact J41_2
      · refine ODH.go (B := (s₁.setTop (mkF m 18 #[.val (.int x0), .val (.ref a1), .unset] []))) (fun t k => XS.icmpNo X0.here hx rfl (hb hby d9_15) rfl (flt c15_4).1 k) ?_
        refine ODH.go (B := (s₁.setTop (mkF m 19 #[.val (.int x0), .val (.ref a1), .unset] [(.int x0)]))) (fun t k => XS.iloadN X0.here hx rfl (hb hby d9_18) rfl k) ?_
        refine ODH.go (B := (s₁.setTop (mkF m 21 #[.val (.int x0), .val (.ref a1), .unset] [(.int (90 : Int32)), (.int x0)]))) (fun t k => XS.bipush X0.here hx rfl (hb hby d9_19) k) ?_
        by_cases c21_7 : (90 : Int32) < x0
        · refine ODH.go (B := (s₁.setTop (mkF m 24 #[.val (.int x0), .val (.ref a1), .unset] []))) (fun t k => XS.icmpNo X0.here hx rfl (hb hby d9_21) rfl (tlt c21_7).2.2.2 k) ?_
          refine ODH.go (B := (s₁.setTop (mkF m 25 #[.val (.int x0), .val (.ref a1), .unset] [(.int x0)]))) (fun t k => XS.iloadN X0.here hx rfl (hb hby d9_24) rfl k) ?_
          refine ODH.go (B := (s₁.setTop (mkF m 27 #[.val (.int x0), .val (.ref a1), .unset] [(.int (48 : Int32)), (.int x0)]))) (fun t k => XS.bipush X0.here hx rfl (hb hby d9_25) k) ?_
          by_cases c27_8 : x0 < (48 : Int32)
          · refine ODH.go (B := (s₁.setTop (mkF m 40 #[.val (.int x0), .val (.ref a1), .unset] []))) (fun t k => XS.icmpYes X0.here hx rfl (pc0 := 27) (pc' := 40) rfl (hb hby d9_27) rfl (tlt c27_8).1 (by decide) (by decide) k) ?_
            refine ODH.go (B := (s₁.setTop (mkF m 41 #[.val (.int x0), .val (.ref a1), .unset] [(.int (0 : Int32))]))) (fun t k => XS.iconst X0.here hx rfl (hb hby d9_40) k) ?_
            rw [if_pos c3_3, if_neg c15_4, if_pos c21_7, if_pos c27_8] at hv41_1
            rw [hv41_1] at J41_2
            exact J41_2
          · refine ODH.go (B := (s₁.setTop (mkF m 30 #[.val (.int x0), .val (.ref a1), .unset] []))) (fun t k => XS.icmpNo X0.here hx rfl (hb hby d9_27) rfl (flt c27_8).1 k) ?_
            refine ODH.go (B := (s₁.setTop (mkF m 31 #[.val (.int x0), .val (.ref a1), .unset] [(.int x0)]))) (fun t k => XS.iloadN X0.here hx rfl (hb hby d9_30) rfl k) ?_
            refine ODH.go (B := (s₁.setTop (mkF m 33 #[.val (.int x0), .val (.ref a1), .unset] [(.int (57 : Int32)), (.int x0)]))) (fun t k => XS.bipush X0.here hx rfl (hb hby d9_31) k) ?_
            by_cases c33_9 : (57 : Int32) < x0
            · refine ODH.go (B := (s₁.setTop (mkF m 40 #[.val (.int x0), .val (.ref a1), .unset] []))) (fun t k => XS.icmpYes X0.here hx rfl (pc0 := 33) (pc' := 40) rfl (hb hby d9_33) rfl (tlt c33_9).2.2.1 (by decide) (by decide) k) ?_
              refine ODH.go (B := (s₁.setTop (mkF m 41 #[.val (.int x0), .val (.ref a1), .unset] [(.int (0 : Int32))]))) (fun t k => XS.iconst X0.here hx rfl (hb hby d9_40) k) ?_
              rw [if_pos c3_3, if_neg c15_4, if_pos c21_7, if_neg c27_8, if_pos c33_9] at hv41_1
              rw [hv41_1] at J41_2
              exact J41_2
            · refine ODH.go (B := (s₁.setTop (mkF m 36 #[.val (.int x0), .val (.ref a1), .unset] []))) (fun t k => XS.icmpNo X0.here hx rfl (hb hby d9_33) rfl (flt c33_9).2.2.1 k) ?_
              refine ODH.go (B := (s₁.setTop (mkF m 37 #[.val (.int x0), .val (.ref a1), .unset] [(.int (1 : Int32))]))) (fun t k => XS.iconst X0.here hx rfl (hb hby d9_36) k) ?_
              refine ODH.go (B := (s₁.setTop (mkF m 41 #[.val (.int x0), .val (.ref a1), .unset] [(.int (1 : Int32))]))) (fun t k => XS.goto X0.here hx rfl (pc0 := 37) (pc' := 41) rfl (hb hby d9_37) (by decide) (by decide) k) ?_
              rw [if_pos c3_3, if_neg c15_4, if_pos c21_7, if_neg c27_8, if_neg c33_9] at hv41_1
              rw [hv41_1] at J41_2
              exact J41_2
        · refine ODH.go (B := (s₁.setTop (mkF m 36 #[.val (.int x0), .val (.ref a1), .unset] []))) (fun t k => XS.icmpYes X0.here hx rfl (pc0 := 21) (pc' := 36) rfl (hb hby d9_21) rfl (flt c21_7).2.2.2 (by decide) (by decide) k) ?_
          refine ODH.go (B := (s₁.setTop (mkF m 37 #[.val (.int x0), .val (.ref a1), .unset] [(.int (1 : Int32))]))) (fun t k => XS.iconst X0.here hx rfl (hb hby d9_36) k) ?_
          refine ODH.go (B := (s₁.setTop (mkF m 41 #[.val (.int x0), .val (.ref a1), .unset] [(.int (1 : Int32))]))) (fun t k => XS.goto X0.here hx rfl (pc0 := 37) (pc' := 41) rfl (hb hby d9_37) (by decide) (by decide) k) ?_
          rw [if_pos c3_3, if_neg c15_4, if_neg c21_7] at hv41_1
          rw [hv41_1] at J41_2
          exact J41_2
    · refine ODH.go (B := (s₁.setTop (mkF m 6 #[.val (.int x0), .val (.ref a1), .unset] []))) (fun t k => XS.icmpNo X0.here hx rfl (hb hby d9_3) rfl (flt c3_3).1 k) ?_
      refine ODH.go (B := (s₁.setTop (mkF m 7 #[.val (.int x0), .val (.ref a1), .unset] [(.int x0)]))) (fun t k => XS.iloadN X0.here hx rfl (hb hby d9_6) rfl k) ?_
      refine ODH.go (B := (s₁.setTop (mkF m 9 #[.val (.int x0), .val (.ref a1), .unset] [(.int (122 : Int32)), (.int x0)]))) (fun t k => XS.bipush X0.here hx rfl (hb hby d9_7) k) ?_
      by_cases c9_10 : (122 : Int32) < x0
      · refine ODH.go (B := (s₁.setTop (mkF m 12 #[.val (.int x0), .val (.ref a1), .unset] []))) (fun t k => XS.icmpNo X0.here hx rfl (hb hby d9_9) rfl (tlt c9_10).2.2.2 k) ?_
        refine ODH.go (B := (s₁.setTop (mkF m 13 #[.val (.int x0), .val (.ref a1), .unset] [(.int x0)]))) (fun t k => XS.iloadN X0.here hx rfl (hb hby d9_12) rfl k) ?_
        refine ODH.go (B := (s₁.setTop (mkF m 15 #[.val (.int x0), .val (.ref a1), .unset] [(.int (65 : Int32)), (.int x0)]))) (fun t k => XS.bipush X0.here hx rfl (hb hby d9_13) k) ?_
        by_cases c15_11 : x0 < (65 : Int32)
        · refine ODH.go (B := (s₁.setTop (mkF m 24 #[.val (.int x0), .val (.ref a1), .unset] []))) (fun t k => XS.icmpYes X0.here hx rfl (pc0 := 15) (pc' := 24) rfl (hb hby d9_15) rfl (tlt c15_11).1 (by decide) (by decide) k) ?_
          refine ODH.go (B := (s₁.setTop (mkF m 25 #[.val (.int x0), .val (.ref a1), .unset] [(.int x0)]))) (fun t k => XS.iloadN X0.here hx rfl (hb hby d9_24) rfl k) ?_
          refine ODH.go (B := (s₁.setTop (mkF m 27 #[.val (.int x0), .val (.ref a1), .unset] [(.int (48 : Int32)), (.int x0)]))) (fun t k => XS.bipush X0.here hx rfl (hb hby d9_25) k) ?_
          by_cases c27_12 : x0 < (48 : Int32)
          · refine ODH.go (B := (s₁.setTop (mkF m 40 #[.val (.int x0), .val (.ref a1), .unset] []))) (fun t k => XS.icmpYes X0.here hx rfl (pc0 := 27) (pc' := 40) rfl (hb hby d9_27) rfl (tlt c27_12).1 (by decide) (by decide) k) ?_
            refine ODH.go (B := (s₁.setTop (mkF m 41 #[.val (.int x0), .val (.ref a1), .unset] [(.int (0 : Int32))]))) (fun t k => XS.iconst X0.here hx rfl (hb hby d9_40) k) ?_
            rw [if_neg c3_3, if_pos c9_10, if_pos c15_11, if_pos c27_12] at hv41_1
            rw [hv41_1] at J41_2
            exact J41_2
          · refine ODH.go (B := (s₁.setTop (mkF m 30 #[.val (.int x0), .val (.ref a1), .unset] []))) (fun t k => XS.icmpNo X0.here hx rfl (hb hby d9_27) rfl (flt c27_12).1 k) ?_
            refine ODH.go (B := (s₁.setTop (mkF m 31 #[.val (.int x0), .val (.ref a1), .unset] [(.int x0)]))) (fun t k => XS.iloadN X0.here hx rfl (hb hby d9_30) rfl k) ?_
            refine ODH.go (B := (s₁.setTop (mkF m 33 #[.val (.int x0), .val (.ref a1), .unset] [(.int (57 : Int32)), (.int x0)]))) (fun t k => XS.bipush X0.here hx rfl (hb hby d9_31) k) ?_
            by_cases c33_13 : (57 : Int32) < x0
            · refine ODH.go (B := (s₁.setTop (mkF m 40 #[.val (.int x0), .val (.ref a1), .unset] []))) (fun t k => XS.icmpYes X0.here hx rfl (pc0 := 33) (pc' := 40) rfl (hb hby d9_33) rfl (tlt c33_13).2.2.1 (by decide) (by decide) k) ?_
              refine ODH.go (B := (s₁.setTop (mkF m 41 #[.val (.int x0), .val (.ref a1), .unset] [(.int (0 : Int32))]))) (fun t k => XS.iconst X0.here hx rfl (hb hby d9_40) k) ?_
              rw [if_neg c3_3, if_pos c9_10, if_pos c15_11, if_neg c27_12, if_pos c33_13] at hv41_1
              rw [hv41_1] at J41_2
              exact J41_2
            · refine ODH.go (B := (s₁.setTop (mkF m 36 #[.val (.int x0), .val (.ref a1), .unset] []))) (fun t k => XS.icmpNo X0.here hx rfl (hb hby d9_33) rfl (flt c33_13).2.2.1 k) ?_
              refine ODH.go (B := (s₁.setTop (mkF m 37 #[.val (.int x0), .val (.ref a1), .unset] [(.int (1 : Int32))]))) (fun t k => XS.iconst X0.here hx rfl (hb hby d9_36) k) ?_
              refine ODH.go (B := (s₁.setTop (mkF m 41 #[.val (.int x0), .val (.ref a1), .unset] [(.int (1 : Int32))]))) (fun t k => XS.goto X0.here hx rfl (pc0 := 37) (pc' := 41) rfl (hb hby d9_37) (by decide) (by decide) k) ?_
              rw [if_neg c3_3, if_pos c9_10, if_pos c15_11, if_neg c27_12, if_neg c33_13] at hv41_1
              rw [hv41_1] at J41_2
              exact J41_2
        · refine ODH.go (B := (s₁.setTop (mkF m 18 #[.val (.int x0), .val (.ref a1), .unset] []))) (fun t k => XS.icmpNo X0.here hx rfl (hb hby d9_15) rfl (flt c15_11).1 k) ?_
          refine ODH.go (B := (s₁.setTop (mkF m 19 #[.val (.int x0), .val (.ref a1), .unset] [(.int x0)]))) (fun t k => XS.iloadN X0.here hx rfl (hb hby d9_18) rfl k) ?_
          refine ODH.go (B := (s₁.setTop (mkF m 21 #[.val (.int x0), .val (.ref a1), .unset] [(.int (90 : Int32)), (.int x0)]))) (fun t k => XS.bipush X0.here hx rfl (hb hby d9_19) k) ?_
          by_cases c21_14 : (90 : Int32) < x0
          · refine ODH.go (B := (s₁.setTop (mkF m 24 #[.val (.int x0), .val (.ref a1), .unset] []))) (fun t k => XS.icmpNo X0.here hx rfl (hb hby d9_21) rfl (tlt c21_14).2.2.2 k) ?_
            refine ODH.go (B := (s₁.setTop (mkF m 25 #[.val (.int x0), .val (.ref a1), .unset] [(.int x0)]))) (fun t k => XS.iloadN X0.here hx rfl (hb hby d9_24) rfl k) ?_
            refine ODH.go (B := (s₁.setTop (mkF m 27 #[.val (.int x0), .val (.ref a1), .unset] [(.int (48 : Int32)), (.int x0)]))) (fun t k => XS.bipush X0.here hx rfl (hb hby d9_25) k) ?_
            by_cases c27_15 : x0 < (48 : Int32)
            · refine ODH.go (B := (s₁.setTop (mkF m 40 #[.val (.int x0), .val (.ref a1), .unset] []))) (fun t k => XS.icmpYes X0.here hx rfl (pc0 := 27) (pc' := 40) rfl (hb hby d9_27) rfl (tlt c27_15).1 (by decide) (by decide) k) ?_
              refine ODH.go (B := (s₁.setTop (mkF m 41 #[.val (.int x0), .val (.ref a1), .unset] [(.int (0 : Int32))]))) (fun t k => XS.iconst X0.here hx rfl (hb hby d9_40) k) ?_
              rw [if_neg c3_3, if_pos c9_10, if_neg c15_11, if_pos c21_14, if_pos c27_15] at hv41_1
              rw [hv41_1] at J41_2
              exact J41_2
            · refine ODH.go (B := (s₁.setTop (mkF m 30 #[.val (.int x0), .val (.ref a1), .unset] []))) (fun t k => XS.icmpNo X0.here hx rfl (hb hby d9_27) rfl (flt c27_15).1 k) ?_
              refine ODH.go (B := (s₁.setTop (mkF m 31 #[.val (.int x0), .val (.ref a1), .unset] [(.int x0)]))) (fun t k => XS.iloadN X0.here hx rfl (hb hby d9_30) rfl k) ?_
              refine ODH.go (B := (s₁.setTop (mkF m 33 #[.val (.int x0), .val (.ref a1), .unset] [(.int (57 : Int32)), (.int x0)]))) (fun t k => XS.bipush X0.here hx rfl (hb hby d9_31) k) ?_
              by_cases c33_16 : (57 : Int32) < x0
              · refine ODH.go (B := (s₁.setTop (mkF m 40 #[.val (.int x0), .val (.ref a1), .unset] []))) (fun t k => XS.icmpYes X0.here hx rfl (pc0 := 33) (pc' := 40) rfl (hb hby d9_33) rfl (tlt c33_16).2.2.1 (by decide) (by decide) k) ?_
                refine ODH.go (B := (s₁.setTop (mkF m 41 #[.val (.int x0), .val (.ref a1), .unset] [(.int (0 : Int32))]))) (fun t k => XS.iconst X0.here hx rfl (hb hby d9_40) k) ?_
                rw [if_neg c3_3, if_pos c9_10, if_neg c15_11, if_pos c21_14, if_neg c27_15, if_pos c33_16] at hv41_1
                rw [hv41_1] at J41_2
                exact J41_2
              · refine ODH.go (B := (s₁.setTop (mkF m 36 #[.val (.int x0), .val (.ref a1), .unset] []))) (fun t k => XS.icmpNo X0.here hx rfl (hb hby d9_33) rfl (flt c33_16).2.2.1 k) ?_
                refine ODH.go (B := (s₁.setTop (mkF m 37 #[.val (.int x0), .val (.ref a1), .unset] [(.int (1 : Int32))]))) (fun t k => XS.iconst X0.here hx rfl (hb hby d9_36) k) ?_
                refine ODH.go (B := (s₁.setTop (mkF m 41 #[.val (.int x0), .val (.ref a1), .unset] [(.int (1 : Int32))]))) (fun t k => XS.goto X0.here hx rfl (pc0 := 37) (pc' := 41) rfl (hb hby d9_37) (by decide) (by decide) k) ?_
                rw [if_neg c3_3, if_pos c9_10, if_neg c15_11, if_pos c21_14, if_neg c27_15, if_neg c33_16] at hv41_1
                rw [hv41_1] at J41_2
                exact J41_2
          · refine ODH.go (B := (s₁.setTop (mkF m 36 #[.val (.int x0), .val (.ref a1), .unset] []))) (fun t k => XS.icmpYes X0.here hx rfl (pc0 := 21) (pc' := 36) rfl (hb hby d9_21) rfl (flt c21_14).2.2.2 (by decide) (by decide) k) ?_
            refine ODH.go (B := (s₁.setTop (mkF m 37 #[.val (.int x0), .val (.ref a1), .unset] [(.int (1 : Int32))]))) (fun t k => XS.iconst X0.here hx rfl (hb hby d9_36) k) ?_
            refine ODH.go (B := (s₁.setTop (mkF m 41 #[.val (.int x0), .val (.ref a1), .unset] [(.int (1 : Int32))]))) (fun t k => XS.goto X0.here hx rfl (pc0 := 37) (pc' := 41) rfl (hb hby d9_37) (by decide) (by decide) k) ?_
            rw [if_neg c3_3, if_pos c9_10, if_neg c15_11, if_neg c21_14] at hv41_1
            rw [hv41_1] at J41_2
            exact J41_2
      · refine ODH.go (B := (s₁.setTop (mkF m 36 #[.val (.int x0), .val (.ref a1), .unset] []))) (fun t k => XS.icmpYes X0.here hx rfl (pc0 := 9) (pc' := 36) rfl (hb hby d9_9) rfl (flt c9_10).2.2.2 (by decide) (by decide) k) ?_
        refine ODH.go (B := (s₁.setTop (mkF m 37 #[.val (.int x0), .val (.ref a1), .unset] [(.int (1 : Int32))]))) (fun t k => XS.iconst X0.here hx rfl (hb hby d9_36) k) ?_
        refine ODH.go (B := (s₁.setTop (mkF m 41 #[.val (.int x0), .val (.ref a1), .unset] [(.int (1 : Int32))]))) (fun t k => XS.goto X0.here hx rfl (pc0 := 37) (pc' := 41) rfl (hb hby d9_37) (by decide) (by decide) k) ?_
        rw [if_neg c3_3, if_neg c9_10] at hv41_1
        rw [hv41_1] at J41_2
        exact J41_2
  refine ODH.go (B := (s₁.setTop (mkF m 42 #[.val (.int x0), .val (.ref a1), .val (.int v41_1)] []))) (fun t k => XS.istoreN X0.here hx rfl (hb hby d9_41) rfl (l' := #[.val (.int x0), .val (.ref a1), .val (.int v41_1)]) rfl k) ?_
  refine ODH.go (B := (s₁.setTop (mkF m 43 #[.val (.int x0), .val (.ref a1), .val (.int v41_1)] [(.int v41_1)]))) (fun t k => XS.iloadN X0.here hx rfl (hb hby d9_42) rfl k) ?_
  by_cases c43_17 : v41_1 = (0 : Int32)
  · refine ODH.go (B := (s₁.setTop (mkF m 46 #[.val (.int x0), .val (.ref a1), .val (.int v41_1)] []))) (fun t k => XS.ifNo X0.here hx rfl (hb hby d9_43) rfl (by rw [if0]; exact (teq c43_17).2) k) ?_
    obtain ⟨b18, T18, h18, k18, t18, kb18, X18, e18, E18, hS18, hk18, hZ, hown, Ea18, Ca18, Va18, Ab18, la18, lb18, cr18, -, ns18, st18⟩ := ldcCH X0 hx hZ hown (Wd41 hw) (wS_in hw) e0 hS0 hk0 (EL_in hw) (List.mem_of_getElem? (i := 0) rfl) ch0.1 (vs := [(.int (45 : Int32)), (.int (46 : Int32)), (.int (95 : Int32)), (.int (126 : Int32))]) (z := (4 : Int32)) ⟨by decide, by decide⟩ (by decide) (by decide) (g := (mkF m 46 #[.val (.int x0), .val (.ref a1), .val (.int v41_1)] [])) rfl (hb hby d9_46) (n := 16) (by decide) (by decide) (Nat.le_of_ble_eq_true rfl) (Nat.le_of_ble_eq_true rfl)
    have ch18 := ch0.trans cr18
    refine ODH.go (B := (T18.setTop (mkF m 48 #[.val (.int x0), .val (.ref a1), .val (.int v41_1)] [(.ref b18)]))) st18 ?_
    refine ODH.go (B := (T18.setTop (mkF m 49 #[.val (.int x0), .val (.ref a1), .val (.int v41_1)] [(.int x0), (.ref b18)]))) (fun t k => XS.iloadN X18.here hx rfl (hb hby d9_48) rfl k) ?_
    obtain ⟨cq19, kq19, qa19, qb19, qc19⟩ := isOf hZ e18 Ea18
    obtain ⟨_, _, ⟨T19, L19, k19, n19⟩, -, X19, ⟨Lc19, hQ19, l19, y19, z19⟩, st19⟩ := X18.virtualBack hx (y := (⟨"java/lang/String", "indexOf", "(I)I"⟩ : MethodName)) (z := (⟨"java/lang/String", "indexOf", "(I)I"⟩ : MethodName)) hown (mvT hZ (Wd44 hw)) (mvT hZ (Wd45 hw)) (notFace_of_selects (args := #[]) (mvT hZ (Wd47 hw))) (mvT hZ (Wd47 hw)) (mvT hZ (Wd46 hw)) (by decide) (backOf (W := 0) (rmX1_4 l Z a0 hw [] b18 x0 h18 Ea18 Ca18 t18 kb18 Va18 (45 : Int32) (46 : Int32) (95 : Int32) (126 : Int32) Ab18 n0 (X00.ext E18) zc O2 P5) hZ (Wd48 hw) (Wd6 hw) (by decide) (by decide)) qa19 qc19 (g := (mkF m 49 #[.val (.int x0), .val (.ref a1), .val (.int v41_1)] [(.int x0), (.ref b18)])) rfl (by rw [hml]; rfl) (Steps.refl _) (argsL := [(.int x0)]) (rest := []) (lenOf pd7 rfl) rfl (by show 2 * 0 + _ ≤ _; exact Nat.le_of_eq rfl) (hb hby d9_49) (fun _ _ => ⟨rfl, e18, (Nat.le_of_ble_eq_true rfl), (Nat.le_of_ble_eq_true rfl)⟩)
    dsimp only [Pt.U, Pt.locs, Pt.cells, Pt.slots] at X19 l19 y19 z19 st19 hQ19
    subst l19 y19 z19
    obtain ⟨rfl, rfl, e19⟩ := hQ19
    try rw [List.append_nil] at X19
    refine ODH.via (B := (T19.setTop (mkF m 52 #[.val (.int x0), .val (.ref a1), .val (.int v41_1)] [(.int (own_li4 (45 : Int32) (46 : Int32) (95 : Int32) (126 : Int32) x0))]))) st19 ?_
    by_cases c52_20 : (own_li4 (45 : Int32) (46 : Int32) (95 : Int32) (126 : Int32) x0) < (0 : Int32)
    · refine ODH.go (B := (T19.setTop (mkF m 55 #[.val (.int x0), .val (.ref a1), .val (.int v41_1)] []))) (fun t k => XS.ifNo X19.here hx rfl (hb hby d9_52) rfl (by rw [if0]; exact (tlt c52_20).2.1) k) ?_
      refine ODH.go (B := (T19.setTop (mkF m 56 #[.val (.int x0), .val (.ref a1), .val (.int v41_1)] [(.ref a1)]))) (fun t k => XS.aloadN X19.here hx rfl (hb hby d9_55) rfl rfl k) ?_
      refine ODH.go (B := (T19.setTop (mkF m 57 #[.val (.int x0), .val (.ref a1), .val (.int v41_1)] [(.int x0), (.ref a1)]))) (fun t k => XS.iloadN X19.here hx rfl (hb hby d9_56) rfl k) ?_
      have f21 := (E1.ext E18)
      have f22 := (C1.ext E18)
      have f23 := (V1.ext E18)
      have f24 := (A1.ext E18)
      obtain ⟨cq25, kq25, qa25, qb25, qc25⟩ := isOf hZ e19 f21
      obtain ⟨_, _, ⟨T25, L25, k25, n25⟩, -, X25, ⟨Lc25, hQ25, l25, y25, z25⟩, st25⟩ := X19.virtualBack hx (y := (⟨"java/lang/String", "indexOf", "(I)I"⟩ : MethodName)) (z := (⟨"java/lang/String", "indexOf", "(I)I"⟩ : MethodName)) hown (mvT hZ (Wd44 hw)) (mvT hZ (Wd45 hw)) (notFace_of_selects (args := #[]) (mvT hZ (Wd47 hw))) (mvT hZ (Wd47 hw)) (mvT hZ (Wd46 hw)) (by decide) (backOf (W := 0) (rmX1_2 l Z a0 hw [] a1 x0 h18 f21 f22 t1 kt f23 c0 c1 f24 n0 (X00.ext E18) zc O2 P5) hZ (Wd48 hw) (Wd6 hw) (by decide) (by decide)) qa25 qc25 (g := (mkF m 57 #[.val (.int x0), .val (.ref a1), .val (.int v41_1)] [(.int x0), (.ref a1)])) rfl (by rw [hml]; rfl) (Steps.refl _) (argsL := [(.int x0)]) (rest := []) (lenOf pd7 rfl) rfl (by show 2 * 0 + _ ≤ _; exact Nat.le_of_eq rfl) (hb hby d9_57) (fun _ _ => ⟨rfl, e19, (Nat.le_of_ble_eq_true rfl), (Nat.le_of_ble_eq_true rfl)⟩)
      dsimp only [Pt.U, Pt.locs, Pt.cells, Pt.slots] at X25 l25 y25 z25 st25 hQ25
      subst l25 y25 z25
      obtain ⟨rfl, rfl, e25⟩ := hQ25
      try rw [List.append_nil] at X25
      refine ODH.via (B := (T25.setTop (mkF m 60 #[.val (.int x0), .val (.ref a1), .val (.int v41_1)] [(.int (own_li2 c0 c1 x0))]))) st25 ?_
      by_cases c60_26 : (own_li2 c0 c1 x0) < (0 : Int32)
      · refine ODH.go (B := (T25.setTop (mkF m 67 #[.val (.int x0), .val (.ref a1), .val (.int v41_1)] []))) (fun t k => XS.ifYes X25.here hx rfl (pc0 := 60) (pc' := 67) rfl (hb hby d9_60) rfl (by rw [if0]; exact (tlt c60_26).1) (by decide) (by decide) k) ?_
        refine ODH.go (B := (T25.setTop (mkF m 68 #[.val (.int x0), .val (.ref a1), .val (.int v41_1)] [(.int (0 : Int32))]))) (fun t k => XS.iconst X25.here hx rfl (hb hby d9_67) k) ?_
        have eal : own_al x0 = v41_1 := hv41_1.symm
        have fin : (own_kept (own_al x0) (own_li4 (45 : Int32) (46 : Int32) (95 : Int32) (126 : Int32) x0) (own_li2 c0 c1 x0)) = (0 : Int32) := by unfold own_kept; rw [eal, if_pos c43_17, if_pos c52_20, if_pos c60_26]
        exact ODH.ret X25 hx hlk hS18 (by rw [e25]; exact hk18) (by rw [e25]; exact ch18.trans (CHv.at X25 hZ (EL_in hw) ch18.1)) (t := .boolean) Bd.returns rfl (Or.inl ⟨rfl, Or.inr (Or.inl rfl), _, rfl⟩) (hb hby d9_68) (Nat.le_of_ble_eq_true rfl) (Nat.le_of_ble_eq_true rfl) ⟨by rw [fin], N0, by rw [e25]; exact ((Keep.refl h0 []).ext E18)⟩
      · refine ODH.go (B := (T25.setTop (mkF m 63 #[.val (.int x0), .val (.ref a1), .val (.int v41_1)] []))) (fun t k => XS.ifNo X25.here hx rfl (hb hby d9_60) rfl (by rw [if0]; exact (flt c60_26).1) k) ?_
        refine ODH.go (B := (T25.setTop (mkF m 64 #[.val (.int x0), .val (.ref a1), .val (.int v41_1)] [(.int (1 : Int32))]))) (fun t k => XS.iconst X25.here hx rfl (hb hby d9_63) k) ?_
        refine ODH.go (B := (T25.setTop (mkF m 68 #[.val (.int x0), .val (.ref a1), .val (.int v41_1)] [(.int (1 : Int32))]))) (fun t k => XS.goto X25.here hx rfl (pc0 := 64) (pc' := 68) rfl (hb hby d9_64) (by decide) (by decide) k) ?_
        have eal : own_al x0 = v41_1 := hv41_1.symm
        have fin : (own_kept (own_al x0) (own_li4 (45 : Int32) (46 : Int32) (95 : Int32) (126 : Int32) x0) (own_li2 c0 c1 x0)) = (1 : Int32) := by unfold own_kept; rw [eal, if_pos c43_17, if_pos c52_20, if_neg c60_26]
        exact ODH.ret X25 hx hlk hS18 (by rw [e25]; exact hk18) (by rw [e25]; exact ch18.trans (CHv.at X25 hZ (EL_in hw) ch18.1)) (t := .boolean) Bd.returns rfl (Or.inl ⟨rfl, Or.inr (Or.inl rfl), _, rfl⟩) (hb hby d9_68) (Nat.le_of_ble_eq_true rfl) (Nat.le_of_ble_eq_true rfl) ⟨by rw [fin], N0, by rw [e25]; exact ((Keep.refl h0 []).ext E18)⟩
    · refine ODH.go (B := (T19.setTop (mkF m 63 #[.val (.int x0), .val (.ref a1), .val (.int v41_1)] []))) (fun t k => XS.ifYes X19.here hx rfl (pc0 := 52) (pc' := 63) rfl (hb hby d9_52) rfl (by rw [if0]; exact (flt c52_20).2.1) (by decide) (by decide) k) ?_
      refine ODH.go (B := (T19.setTop (mkF m 64 #[.val (.int x0), .val (.ref a1), .val (.int v41_1)] [(.int (1 : Int32))]))) (fun t k => XS.iconst X19.here hx rfl (hb hby d9_63) k) ?_
      refine ODH.go (B := (T19.setTop (mkF m 68 #[.val (.int x0), .val (.ref a1), .val (.int v41_1)] [(.int (1 : Int32))]))) (fun t k => XS.goto X19.here hx rfl (pc0 := 64) (pc' := 68) rfl (hb hby d9_64) (by decide) (by decide) k) ?_
      have eal : own_al x0 = v41_1 := hv41_1.symm
      have fin : (own_kept (own_al x0) (own_li4 (45 : Int32) (46 : Int32) (95 : Int32) (126 : Int32) x0) (own_li2 c0 c1 x0)) = (1 : Int32) := by unfold own_kept; rw [eal, if_pos c43_17, if_neg c52_20]
      exact ODH.ret X19 hx hlk hS18 (by rw [e19]; exact hk18) (by rw [e19]; exact ch18.trans (CHv.at X19 hZ (EL_in hw) ch18.1)) (t := .boolean) Bd.returns rfl (Or.inl ⟨rfl, Or.inr (Or.inl rfl), _, rfl⟩) (hb hby d9_68) (Nat.le_of_ble_eq_true rfl) (Nat.le_of_ble_eq_true rfl) ⟨by rw [fin], N0, by rw [e19]; exact ((Keep.refl h0 []).ext E18)⟩
  · refine ODH.go (B := (s₁.setTop (mkF m 63 #[.val (.int x0), .val (.ref a1), .val (.int v41_1)] []))) (fun t k => XS.ifYes X0.here hx rfl (pc0 := 43) (pc' := 63) rfl (hb hby d9_43) rfl (by rw [if0]; exact (feq c43_17).2) (by decide) (by decide) k) ?_
    refine ODH.go (B := (s₁.setTop (mkF m 64 #[.val (.int x0), .val (.ref a1), .val (.int v41_1)] [(.int (1 : Int32))]))) (fun t k => XS.iconst X0.here hx rfl (hb hby d9_63) k) ?_
    refine ODH.go (B := (s₁.setTop (mkF m 68 #[.val (.int x0), .val (.ref a1), .val (.int v41_1)] [(.int (1 : Int32))]))) (fun t k => XS.goto X0.here hx rfl (pc0 := 64) (pc' := 68) rfl (hb hby d9_64) (by decide) (by decide) k) ?_
    have eal : own_al x0 = v41_1 := hv41_1.symm
    have fin : (own_kept (own_al x0) (own_li4 (45 : Int32) (46 : Int32) (95 : Int32) (126 : Int32) x0) (own_li2 c0 c1 x0)) = (1 : Int32) := by unfold own_kept; rw [eal, if_neg c43_17]
    exact ODH.ret X0 hx hlk hS0 (by rw [e0]; exact hk0) (by rw [e0]; exact ch0.trans (CHv.at X0 hZ (EL_in hw) ch0.1)) (t := .boolean) Bd.returns rfl (Or.inl ⟨rfl, Or.inr (Or.inl rfl), _, rfl⟩) (hb hby d9_68) (Nat.le_of_ble_eq_true rfl) (Nat.le_of_ble_eq_true rfl) ⟨by rw [fin], N0, by rw [e0]; exact (Keep.refl h0 [])⟩
def Q_rmK3 (Z : State) (x0 : Int32) (a1 : Addr) (h0 : Heap) (c0 c1 c2 : Int32) (n0 : Nat) (v : Option Value) (h : Heap) (L : List Loc) : Prop := v = some (.int (own_kept (own_al x0) (own_li4 (45 : Int32) (46 : Int32) (95 : Int32) (126 : Int32) x0) (own_li3 c0 c1 c2 x0))) ∧ Fr n0 L ∧ Keep h0 h []
set_option maxRecDepth 65536 in
set_option maxHeartbeats 40000000 in
theorem rmK3 (l : Launch) (Z : State) (a0 : Array Value) (hw : ∀ d ∈ tables_1, d.before a0 Z = true) (ws : List Jvm.Cond) (x0 : Int32) (a1 : Addr) (h0 : Heap) (E1 : Exa Z h0 a1 "java/lang/String") (C1 : Fld Z h0 a1 "java/lang/String" "coder" "B" (.int (0 : Int32))) (t1 : Addr) (kt : ClassId) (V1 : Fld Z h0 a1 "java/lang/String" "value" "[B" (.ref t1)) (c0 c1 c2 : Int32) (A1 : Arv Z h0 t1 kt .byte (3 : Int32) [(.int c0), (.int c1), (.int c2)] (.int 0)) (n0 : Nat) (X00 : Old Z n0 h0) (Z0 : n0 ≤ h0.size) (zc : Int32) (O2 : Sta Z Z.heap "java/lang/String" "COMPACT_STRINGS" "Z" (.int zc)) (P5 : ¬ zc = 0) :
    MetFree l (⟨"com/example/triad/triad/rest/PercentEncoding", "isKept", "(ILjava/lang/String;)Z"⟩ : MethodName) (head1 (Jvm.Cond.code (⟨"com/example/triad/triad/rest/PercentEncoding", "isKept", "(ILjava/lang/String;)Z"⟩ : MethodName) prog_9_method_2_code 3 (some .boolean) :: ws) ({ frames := 5, cells := 2, slots := 20, locals := 100 } : Room)) (fun a U => a = #[(.int x0), (.ref a1)] ∧ Z.Warmed39 U.vm ∧ U.heap = h0 ∧ CHv Z own_EL U.vm h0) (fun _ _ _ _ _ => True) (fun _ U o U' => ∃ v L, o = .returned v ∧ Q_rmK3 Z x0 a1 h0 c0 c1 c2 n0 v U'.heap L ∧ CHr Z own_EL U.vm U.heap U'.vm U'.heap ∧ ReturnedEndW U o U' L ({ frames := 5, cells := 2, slots := 20, locals := 100 } : Room).cells ({ frames := 5, cells := 2, slots := 20, locals := 100 } : Room).slots) := by
  refine MetFree.of_bodySF (plainFor_of_name pn2) hisR ?_
  intro p e s m args below meth c s₁ Bd hml0 hP hK
  obtain ⟨rfl, hZ, hh, hH0⟩ := hP
  have hx := Bd.exec
  have hby := Bd.bytes
  have hlk : meth.locks = false := Bd.notSynchronized
  have hml : c.maxLocals = 3 := hml0
  have hown : s.vm.findClass "com/example/triad/triad/rest/PercentEncoding" = some m.cls := findClass_of_methodNamed Bd.named
  have hnm := (name_of_methodNamed Bd.named Bd.method).1
  have X0 : Stand p l e ({ frames := 5, cells := 2, slots := 20, locals := 100 } : Room) s m #[(.int x0), (.ref a1)] below meth c s₁ [] 0 0 := Stand.of_body Bd
  have e0 : s₁.heap = h0 := by rw [← hh, Bd.state]; rfl
  have hS0 : s.Since s.vm s.heap.size := (State.WarmedH.refl s).since _
  have hk0 : s.heap.size ≤ h0.size := Nat.le_of_eq (by rw [hh])
  have X0 : Stand p l e ({ frames := 5, cells := 2, slots := 20, locals := 100 } : Room) (s.setVm s.vm) m #[(.int x0), (.ref a1)] below meth c s₁ [] 0 0 := X0
  have hZ : Z.Warmed39 (s.setVm s.vm).vm := hZ
  have hown : (s.setVm s.vm).vm.findClass "com/example/triad/triad/rest/PercentEncoding" = some m.cls := hown
  have ch0 : CHr Z own_EL s.vm s.heap s.vm h0 := by have q := CHr.refl hH0; rw [← hh] at q ⊢; exact q
  have N0 := Fr.nil n0
  suffices hgo : ODH Z own_EL p e s below (Q_rmK3 Z x0 a1 h0 c0 c1 c2 n0) ({ frames := 5, cells := 2, slots := 20, locals := 100 } : Room).cells ({ frames := 5, cells := 2, slots := 20, locals := 100 } : Room).slots (s₁.setTop (mkF m 0 #[.val (.int x0), .val (.ref a1), .unset] [])) by
    obtain ⟨s₂, o, hgo1, hgo2⟩ := hgo
    exact ⟨s₂, o, castTop (ef9 m x0 a1) hgo1, hgo2⟩
  refine ODH.go (B := (s₁.setTop (mkF m 1 #[.val (.int x0), .val (.ref a1), .unset] [(.int x0)]))) (fun t k => XS.iloadN X0.here hx rfl (hb hby d9_0) rfl k) ?_
  refine ODH.go (B := (s₁.setTop (mkF m 3 #[.val (.int x0), .val (.ref a1), .unset] [(.int (97 : Int32)), (.int x0)]))) (fun t k => XS.bipush X0.here hx rfl (hb hby d9_1) k) ?_
  obtain ⟨v41_1, hv41_1⟩ : ∃ z : Int32, z = (if x0 < (97 : Int32) then (if x0 < (65 : Int32) then (if x0 < (48 : Int32) then (0 : Int32) else (if (57 : Int32) < x0 then (0 : Int32) else (1 : Int32))) else (if (90 : Int32) < x0 then (if x0 < (48 : Int32) then (0 : Int32) else (if (57 : Int32) < x0 then (0 : Int32) else (1 : Int32))) else (1 : Int32))) else (if (122 : Int32) < x0 then (if x0 < (65 : Int32) then (if x0 < (48 : Int32) then (0 : Int32) else (if (57 : Int32) < x0 then (0 : Int32) else (1 : Int32))) else (if (90 : Int32) < x0 then (if x0 < (48 : Int32) then (0 : Int32) else (if (57 : Int32) < x0 then (0 : Int32) else (1 : Int32))) else (1 : Int32))) else (1 : Int32))) := ⟨_, rfl⟩
  refine ODH.cut (B := (s₁.setTop (mkF m 41 #[.val (.int x0), .val (.ref a1), .unset] [(.int v41_1)]))) (fun J41_2 => ?_) ?_
  · skip
    by_cases c3_3 : x0 < (97 : Int32)
    · refine ODH.go (B := (s₁.setTop (mkF m 12 #[.val (.int x0), .val (.ref a1), .unset] []))) (fun t k => XS.icmpYes X0.here hx rfl (pc0 := 3) (pc' := 12) rfl (hb hby d9_3) rfl (tlt c3_3).1 (by decide) (by decide) k) ?_
      refine ODH.go (B := (s₁.setTop (mkF m 13 #[.val (.int x0), .val (.ref a1), .unset] [(.int x0)]))) (fun t k => XS.iloadN X0.here hx rfl (hb hby d9_12) rfl k) ?_
      refine ODH.go (B := (s₁.setTop (mkF m 15 #[.val (.int x0), .val (.ref a1), .unset] [(.int (65 : Int32)), (.int x0)]))) (fun t k => XS.bipush X0.here hx rfl (hb hby d9_13) k) ?_
      by_cases c15_4 : x0 < (65 : Int32)
      · refine ODH.go (B := (s₁.setTop (mkF m 24 #[.val (.int x0), .val (.ref a1), .unset] []))) (fun t k => XS.icmpYes X0.here hx rfl (pc0 := 15) (pc' := 24) rfl (hb hby d9_15) rfl (tlt c15_4).1 (by decide) (by decide) k) ?_
        refine ODH.go (B := (s₁.setTop (mkF m 25 #[.val (.int x0), .val (.ref a1), .unset] [(.int x0)]))) (fun t k => XS.iloadN X0.here hx rfl (hb hby d9_24) rfl k) ?_
        refine ODH.go (B := (s₁.setTop (mkF m 27 #[.val (.int x0), .val (.ref a1), .unset] [(.int (48 : Int32)), (.int x0)]))) (fun t k => XS.bipush X0.here hx rfl (hb hby d9_25) k) ?_
        by_cases c27_5 : x0 < (48 : Int32)
        · refine ODH.go (B := (s₁.setTop (mkF m 40 #[.val (.int x0), .val (.ref a1), .unset] []))) (fun t k => XS.icmpYes X0.here hx rfl (pc0 := 27) (pc' := 40) rfl (hb hby d9_27) rfl (tlt c27_5).1 (by decide) (by decide) k) ?_
          refine ODH.go (B := (s₁.setTop (mkF m 41 #[.val (.int x0), .val (.ref a1), .unset] [(.int (0 : Int32))]))) (fun t k => XS.iconst X0.here hx rfl (hb hby d9_40) k) ?_
          rw [if_pos c3_3, if_pos c15_4, if_pos c27_5] at hv41_1
          rw [hv41_1] at J41_2
          exact J41_2
        · refine ODH.go (B := (s₁.setTop (mkF m 30 #[.val (.int x0), .val (.ref a1), .unset] []))) (fun t k => XS.icmpNo X0.here hx rfl (hb hby d9_27) rfl (flt c27_5).1 k) ?_
          refine ODH.go (B := (s₁.setTop (mkF m 31 #[.val (.int x0), .val (.ref a1), .unset] [(.int x0)]))) (fun t k => XS.iloadN X0.here hx rfl (hb hby d9_30) rfl k) ?_
          refine ODH.go (B := (s₁.setTop (mkF m 33 #[.val (.int x0), .val (.ref a1), .unset] [(.int (57 : Int32)), (.int x0)]))) (fun t k => XS.bipush X0.here hx rfl (hb hby d9_31) k) ?_
          by_cases c33_6 : (57 : Int32) < x0
          · refine ODH.go (B := (s₁.setTop (mkF m 40 #[.val (.int x0), .val (.ref a1), .unset] []))) (fun t k => XS.icmpYes X0.here hx rfl (pc0 := 33) (pc' := 40) rfl (hb hby d9_33) rfl (tlt c33_6).2.2.1 (by decide) (by decide) k) ?_
            refine ODH.go (B := (s₁.setTop (mkF m 41 #[.val (.int x0), .val (.ref a1), .unset] [(.int (0 : Int32))]))) (fun t k => XS.iconst X0.here hx rfl (hb hby d9_40) k) ?_
            rw [if_pos c3_3, if_pos c15_4, if_neg c27_5, if_pos c33_6] at hv41_1
            rw [hv41_1] at J41_2
            exact J41_2
          · refine ODH.go (B := (s₁.setTop (mkF m 36 #[.val (.int x0), .val (.ref a1), .unset] []))) (fun t k => XS.icmpNo X0.here hx rfl (hb hby d9_33) rfl (flt c33_6).2.2.1 k) ?_
            refine ODH.go (B := (s₁.setTop (mkF m 37 #[.val (.int x0), .val (.ref a1), .unset] [(.int (1 : Int32))]))) (fun t k => XS.iconst X0.here hx rfl (hb hby d9_36) k) ?_
            refine ODH.go (B := (s₁.setTop (mkF m 41 #[.val (.int x0), .val (.ref a1), .unset] [(.int (1 : Int32))]))) (fun t k => XS.goto X0.here hx rfl (pc0 := 37) (pc' := 41) rfl (hb hby d9_37) (by decide) (by decide) k) ?_
            rw [if_pos c3_3, if_pos c15_4, if_neg c27_5, if_neg c33_6] at hv41_1
            rw [hv41_1] at J41_2
            exact J41_2
      · refine ODH.go (B := (s₁.setTop (mkF m 18 #[.val (.int x0), .val (.ref a1), .unset] []))) (fun t k => XS.icmpNo X0.here hx rfl (hb hby d9_15) rfl (flt c15_4).1 k) ?_
        refine ODH.go (B := (s₁.setTop (mkF m 19 #[.val (.int x0), .val (.ref a1), .unset] [(.int x0)]))) (fun t k => XS.iloadN X0.here hx rfl (hb hby d9_18) rfl k) ?_
        refine ODH.go (B := (s₁.setTop (mkF m 21 #[.val (.int x0), .val (.ref a1), .unset] [(.int (90 : Int32)), (.int x0)]))) (fun t k => XS.bipush X0.here hx rfl (hb hby d9_19) k) ?_
        by_cases c21_7 : (90 : Int32) < x0
        · refine ODH.go (B := (s₁.setTop (mkF m 24 #[.val (.int x0), .val (.ref a1), .unset] []))) (fun t k => XS.icmpNo X0.here hx rfl (hb hby d9_21) rfl (tlt c21_7).2.2.2 k) ?_
          refine ODH.go (B := (s₁.setTop (mkF m 25 #[.val (.int x0), .val (.ref a1), .unset] [(.int x0)]))) (fun t k => XS.iloadN X0.here hx rfl (hb hby d9_24) rfl k) ?_
          refine ODH.go (B := (s₁.setTop (mkF m 27 #[.val (.int x0), .val (.ref a1), .unset] [(.int (48 : Int32)), (.int x0)]))) (fun t k => XS.bipush X0.here hx rfl (hb hby d9_25) k) ?_
          by_cases c27_8 : x0 < (48 : Int32)
          · refine ODH.go (B := (s₁.setTop (mkF m 40 #[.val (.int x0), .val (.ref a1), .unset] []))) (fun t k => XS.icmpYes X0.here hx rfl (pc0 := 27) (pc' := 40) rfl (hb hby d9_27) rfl (tlt c27_8).1 (by decide) (by decide) k) ?_
            refine ODH.go (B := (s₁.setTop (mkF m 41 #[.val (.int x0), .val (.ref a1), .unset] [(.int (0 : Int32))]))) (fun t k => XS.iconst X0.here hx rfl (hb hby d9_40) k) ?_
            rw [if_pos c3_3, if_neg c15_4, if_pos c21_7, if_pos c27_8] at hv41_1
            rw [hv41_1] at J41_2
            exact J41_2
          · refine ODH.go (B := (s₁.setTop (mkF m 30 #[.val (.int x0), .val (.ref a1), .unset] []))) (fun t k => XS.icmpNo X0.here hx rfl (hb hby d9_27) rfl (flt c27_8).1 k) ?_
            refine ODH.go (B := (s₁.setTop (mkF m 31 #[.val (.int x0), .val (.ref a1), .unset] [(.int x0)]))) (fun t k => XS.iloadN X0.here hx rfl (hb hby d9_30) rfl k) ?_
            refine ODH.go (B := (s₁.setTop (mkF m 33 #[.val (.int x0), .val (.ref a1), .unset] [(.int (57 : Int32)), (.int x0)]))) (fun t k => XS.bipush X0.here hx rfl (hb hby d9_31) k) ?_
            by_cases c33_9 : (57 : Int32) < x0
            · refine ODH.go (B := (s₁.setTop (mkF m 40 #[.val (.int x0), .val (.ref a1), .unset] []))) (fun t k => XS.icmpYes X0.here hx rfl (pc0 := 33) (pc' := 40) rfl (hb hby d9_33) rfl (tlt c33_9).2.2.1 (by decide) (by decide) k) ?_
              refine ODH.go (B := (s₁.setTop (mkF m 41 #[.val (.int x0), .val (.ref a1), .unset] [(.int (0 : Int32))]))) (fun t k => XS.iconst X0.here hx rfl (hb hby d9_40) k) ?_
              rw [if_pos c3_3, if_neg c15_4, if_pos c21_7, if_neg c27_8, if_pos c33_9] at hv41_1
              rw [hv41_1] at J41_2
              exact J41_2
            · refine ODH.go (B := (s₁.setTop (mkF m 36 #[.val (.int x0), .val (.ref a1), .unset] []))) (fun t k => XS.icmpNo X0.here hx rfl (hb hby d9_33) rfl (flt c33_9).2.2.1 k) ?_
              refine ODH.go (B := (s₁.setTop (mkF m 37 #[.val (.int x0), .val (.ref a1), .unset] [(.int (1 : Int32))]))) (fun t k => XS.iconst X0.here hx rfl (hb hby d9_36) k) ?_
              refine ODH.go (B := (s₁.setTop (mkF m 41 #[.val (.int x0), .val (.ref a1), .unset] [(.int (1 : Int32))]))) (fun t k => XS.goto X0.here hx rfl (pc0 := 37) (pc' := 41) rfl (hb hby d9_37) (by decide) (by decide) k) ?_
              rw [if_pos c3_3, if_neg c15_4, if_pos c21_7, if_neg c27_8, if_neg c33_9] at hv41_1
              rw [hv41_1] at J41_2
              exact J41_2
        · refine ODH.go (B := (s₁.setTop (mkF m 36 #[.val (.int x0), .val (.ref a1), .unset] []))) (fun t k => XS.icmpYes X0.here hx rfl (pc0 := 21) (pc' := 36) rfl (hb hby d9_21) rfl (flt c21_7).2.2.2 (by decide) (by decide) k) ?_
          refine ODH.go (B := (s₁.setTop (mkF m 37 #[.val (.int x0), .val (.ref a1), .unset] [(.int (1 : Int32))]))) (fun t k => XS.iconst X0.here hx rfl (hb hby d9_36) k) ?_
          refine ODH.go (B := (s₁.setTop (mkF m 41 #[.val (.int x0), .val (.ref a1), .unset] [(.int (1 : Int32))]))) (fun t k => XS.goto X0.here hx rfl (pc0 := 37) (pc' := 41) rfl (hb hby d9_37) (by decide) (by decide) k) ?_
          rw [if_pos c3_3, if_neg c15_4, if_neg c21_7] at hv41_1
          rw [hv41_1] at J41_2
          exact J41_2
    · refine ODH.go (B := (s₁.setTop (mkF m 6 #[.val (.int x0), .val (.ref a1), .unset] []))) (fun t k => XS.icmpNo X0.here hx rfl (hb hby d9_3) rfl (flt c3_3).1 k) ?_
      refine ODH.go (B := (s₁.setTop (mkF m 7 #[.val (.int x0), .val (.ref a1), .unset] [(.int x0)]))) (fun t k => XS.iloadN X0.here hx rfl (hb hby d9_6) rfl k) ?_
      refine ODH.go (B := (s₁.setTop (mkF m 9 #[.val (.int x0), .val (.ref a1), .unset] [(.int (122 : Int32)), (.int x0)]))) (fun t k => XS.bipush X0.here hx rfl (hb hby d9_7) k) ?_
      by_cases c9_10 : (122 : Int32) < x0
      · refine ODH.go (B := (s₁.setTop (mkF m 12 #[.val (.int x0), .val (.ref a1), .unset] []))) (fun t k => XS.icmpNo X0.here hx rfl (hb hby d9_9) rfl (tlt c9_10).2.2.2 k) ?_
        refine ODH.go (B := (s₁.setTop (mkF m 13 #[.val (.int x0), .val (.ref a1), .unset] [(.int x0)]))) (fun t k => XS.iloadN X0.here hx rfl (hb hby d9_12) rfl k) ?_
        refine ODH.go (B := (s₁.setTop (mkF m 15 #[.val (.int x0), .val (.ref a1), .unset] [(.int (65 : Int32)), (.int x0)]))) (fun t k => XS.bipush X0.here hx rfl (hb hby d9_13) k) ?_
        by_cases c15_11 : x0 < (65 : Int32)
        · refine ODH.go (B := (s₁.setTop (mkF m 24 #[.val (.int x0), .val (.ref a1), .unset] []))) (fun t k => XS.icmpYes X0.here hx rfl (pc0 := 15) (pc' := 24) rfl (hb hby d9_15) rfl (tlt c15_11).1 (by decide) (by decide) k) ?_
          refine ODH.go (B := (s₁.setTop (mkF m 25 #[.val (.int x0), .val (.ref a1), .unset] [(.int x0)]))) (fun t k => XS.iloadN X0.here hx rfl (hb hby d9_24) rfl k) ?_
          refine ODH.go (B := (s₁.setTop (mkF m 27 #[.val (.int x0), .val (.ref a1), .unset] [(.int (48 : Int32)), (.int x0)]))) (fun t k => XS.bipush X0.here hx rfl (hb hby d9_25) k) ?_
          by_cases c27_12 : x0 < (48 : Int32)
          · refine ODH.go (B := (s₁.setTop (mkF m 40 #[.val (.int x0), .val (.ref a1), .unset] []))) (fun t k => XS.icmpYes X0.here hx rfl (pc0 := 27) (pc' := 40) rfl (hb hby d9_27) rfl (tlt c27_12).1 (by decide) (by decide) k) ?_
            refine ODH.go (B := (s₁.setTop (mkF m 41 #[.val (.int x0), .val (.ref a1), .unset] [(.int (0 : Int32))]))) (fun t k => XS.iconst X0.here hx rfl (hb hby d9_40) k) ?_
            rw [if_neg c3_3, if_pos c9_10, if_pos c15_11, if_pos c27_12] at hv41_1
            rw [hv41_1] at J41_2
            exact J41_2
          · refine ODH.go (B := (s₁.setTop (mkF m 30 #[.val (.int x0), .val (.ref a1), .unset] []))) (fun t k => XS.icmpNo X0.here hx rfl (hb hby d9_27) rfl (flt c27_12).1 k) ?_
            refine ODH.go (B := (s₁.setTop (mkF m 31 #[.val (.int x0), .val (.ref a1), .unset] [(.int x0)]))) (fun t k => XS.iloadN X0.here hx rfl (hb hby d9_30) rfl k) ?_
            refine ODH.go (B := (s₁.setTop (mkF m 33 #[.val (.int x0), .val (.ref a1), .unset] [(.int (57 : Int32)), (.int x0)]))) (fun t k => XS.bipush X0.here hx rfl (hb hby d9_31) k) ?_
            by_cases c33_13 : (57 : Int32) < x0
            · refine ODH.go (B := (s₁.setTop (mkF m 40 #[.val (.int x0), .val (.ref a1), .unset] []))) (fun t k => XS.icmpYes X0.here hx rfl (pc0 := 33) (pc' := 40) rfl (hb hby d9_33) rfl (tlt c33_13).2.2.1 (by decide) (by decide) k) ?_
              refine ODH.go (B := (s₁.setTop (mkF m 41 #[.val (.int x0), .val (.ref a1), .unset] [(.int (0 : Int32))]))) (fun t k => XS.iconst X0.here hx rfl (hb hby d9_40) k) ?_
              rw [if_neg c3_3, if_pos c9_10, if_pos c15_11, if_neg c27_12, if_pos c33_13] at hv41_1
              rw [hv41_1] at J41_2
              exact J41_2
            · refine ODH.go (B := (s₁.setTop (mkF m 36 #[.val (.int x0), .val (.ref a1), .unset] []))) (fun t k => XS.icmpNo X0.here hx rfl (hb hby d9_33) rfl (flt c33_13).2.2.1 k) ?_
              refine ODH.go (B := (s₁.setTop (mkF m 37 #[.val (.int x0), .val (.ref a1), .unset] [(.int (1 : Int32))]))) (fun t k => XS.iconst X0.here hx rfl (hb hby d9_36) k) ?_
              refine ODH.go (B := (s₁.setTop (mkF m 41 #[.val (.int x0), .val (.ref a1), .unset] [(.int (1 : Int32))]))) (fun t k => XS.goto X0.here hx rfl (pc0 := 37) (pc' := 41) rfl (hb hby d9_37) (by decide) (by decide) k) ?_
              rw [if_neg c3_3, if_pos c9_10, if_pos c15_11, if_neg c27_12, if_neg c33_13] at hv41_1
              rw [hv41_1] at J41_2
              exact J41_2
        · refine ODH.go (B := (s₁.setTop (mkF m 18 #[.val (.int x0), .val (.ref a1), .unset] []))) (fun t k => XS.icmpNo X0.here hx rfl (hb hby d9_15) rfl (flt c15_11).1 k) ?_
          refine ODH.go (B := (s₁.setTop (mkF m 19 #[.val (.int x0), .val (.ref a1), .unset] [(.int x0)]))) (fun t k => XS.iloadN X0.here hx rfl (hb hby d9_18) rfl k) ?_
          refine ODH.go (B := (s₁.setTop (mkF m 21 #[.val (.int x0), .val (.ref a1), .unset] [(.int (90 : Int32)), (.int x0)]))) (fun t k => XS.bipush X0.here hx rfl (hb hby d9_19) k) ?_
          by_cases c21_14 : (90 : Int32) < x0
          · refine ODH.go (B := (s₁.setTop (mkF m 24 #[.val (.int x0), .val (.ref a1), .unset] []))) (fun t k => XS.icmpNo X0.here hx rfl (hb hby d9_21) rfl (tlt c21_14).2.2.2 k) ?_
            refine ODH.go (B := (s₁.setTop (mkF m 25 #[.val (.int x0), .val (.ref a1), .unset] [(.int x0)]))) (fun t k => XS.iloadN X0.here hx rfl (hb hby d9_24) rfl k) ?_
            refine ODH.go (B := (s₁.setTop (mkF m 27 #[.val (.int x0), .val (.ref a1), .unset] [(.int (48 : Int32)), (.int x0)]))) (fun t k => XS.bipush X0.here hx rfl (hb hby d9_25) k) ?_
            by_cases c27_15 : x0 < (48 : Int32)
            · refine ODH.go (B := (s₁.setTop (mkF m 40 #[.val (.int x0), .val (.ref a1), .unset] []))) (fun t k => XS.icmpYes X0.here hx rfl (pc0 := 27) (pc' := 40) rfl (hb hby d9_27) rfl (tlt c27_15).1 (by decide) (by decide) k) ?_
              refine ODH.go (B := (s₁.setTop (mkF m 41 #[.val (.int x0), .val (.ref a1), .unset] [(.int (0 : Int32))]))) (fun t k => XS.iconst X0.here hx rfl (hb hby d9_40) k) ?_
              rw [if_neg c3_3, if_pos c9_10, if_neg c15_11, if_pos c21_14, if_pos c27_15] at hv41_1
              rw [hv41_1] at J41_2
              exact J41_2
            · refine ODH.go (B := (s₁.setTop (mkF m 30 #[.val (.int x0), .val (.ref a1), .unset] []))) (fun t k => XS.icmpNo X0.here hx rfl (hb hby d9_27) rfl (flt c27_15).1 k) ?_
              refine ODH.go (B := (s₁.setTop (mkF m 31 #[.val (.int x0), .val (.ref a1), .unset] [(.int x0)]))) (fun t k => XS.iloadN X0.here hx rfl (hb hby d9_30) rfl k) ?_
              refine ODH.go (B := (s₁.setTop (mkF m 33 #[.val (.int x0), .val (.ref a1), .unset] [(.int (57 : Int32)), (.int x0)]))) (fun t k => XS.bipush X0.here hx rfl (hb hby d9_31) k) ?_
              by_cases c33_16 : (57 : Int32) < x0
              · refine ODH.go (B := (s₁.setTop (mkF m 40 #[.val (.int x0), .val (.ref a1), .unset] []))) (fun t k => XS.icmpYes X0.here hx rfl (pc0 := 33) (pc' := 40) rfl (hb hby d9_33) rfl (tlt c33_16).2.2.1 (by decide) (by decide) k) ?_
                refine ODH.go (B := (s₁.setTop (mkF m 41 #[.val (.int x0), .val (.ref a1), .unset] [(.int (0 : Int32))]))) (fun t k => XS.iconst X0.here hx rfl (hb hby d9_40) k) ?_
                rw [if_neg c3_3, if_pos c9_10, if_neg c15_11, if_pos c21_14, if_neg c27_15, if_pos c33_16] at hv41_1
                rw [hv41_1] at J41_2
                exact J41_2
              · refine ODH.go (B := (s₁.setTop (mkF m 36 #[.val (.int x0), .val (.ref a1), .unset] []))) (fun t k => XS.icmpNo X0.here hx rfl (hb hby d9_33) rfl (flt c33_16).2.2.1 k) ?_
                refine ODH.go (B := (s₁.setTop (mkF m 37 #[.val (.int x0), .val (.ref a1), .unset] [(.int (1 : Int32))]))) (fun t k => XS.iconst X0.here hx rfl (hb hby d9_36) k) ?_
                refine ODH.go (B := (s₁.setTop (mkF m 41 #[.val (.int x0), .val (.ref a1), .unset] [(.int (1 : Int32))]))) (fun t k => XS.goto X0.here hx rfl (pc0 := 37) (pc' := 41) rfl (hb hby d9_37) (by decide) (by decide) k) ?_
                rw [if_neg c3_3, if_pos c9_10, if_neg c15_11, if_pos c21_14, if_neg c27_15, if_neg c33_16] at hv41_1
                rw [hv41_1] at J41_2
                exact J41_2
          · refine ODH.go (B := (s₁.setTop (mkF m 36 #[.val (.int x0), .val (.ref a1), .unset] []))) (fun t k => XS.icmpYes X0.here hx rfl (pc0 := 21) (pc' := 36) rfl (hb hby d9_21) rfl (flt c21_14).2.2.2 (by decide) (by decide) k) ?_
            refine ODH.go (B := (s₁.setTop (mkF m 37 #[.val (.int x0), .val (.ref a1), .unset] [(.int (1 : Int32))]))) (fun t k => XS.iconst X0.here hx rfl (hb hby d9_36) k) ?_
            refine ODH.go (B := (s₁.setTop (mkF m 41 #[.val (.int x0), .val (.ref a1), .unset] [(.int (1 : Int32))]))) (fun t k => XS.goto X0.here hx rfl (pc0 := 37) (pc' := 41) rfl (hb hby d9_37) (by decide) (by decide) k) ?_
            rw [if_neg c3_3, if_pos c9_10, if_neg c15_11, if_neg c21_14] at hv41_1
            rw [hv41_1] at J41_2
            exact J41_2
      · refine ODH.go (B := (s₁.setTop (mkF m 36 #[.val (.int x0), .val (.ref a1), .unset] []))) (fun t k => XS.icmpYes X0.here hx rfl (pc0 := 9) (pc' := 36) rfl (hb hby d9_9) rfl (flt c9_10).2.2.2 (by decide) (by decide) k) ?_
        refine ODH.go (B := (s₁.setTop (mkF m 37 #[.val (.int x0), .val (.ref a1), .unset] [(.int (1 : Int32))]))) (fun t k => XS.iconst X0.here hx rfl (hb hby d9_36) k) ?_
        refine ODH.go (B := (s₁.setTop (mkF m 41 #[.val (.int x0), .val (.ref a1), .unset] [(.int (1 : Int32))]))) (fun t k => XS.goto X0.here hx rfl (pc0 := 37) (pc' := 41) rfl (hb hby d9_37) (by decide) (by decide) k) ?_
        rw [if_neg c3_3, if_neg c9_10] at hv41_1
        rw [hv41_1] at J41_2
        exact J41_2
  refine ODH.go (B := (s₁.setTop (mkF m 42 #[.val (.int x0), .val (.ref a1), .val (.int v41_1)] []))) (fun t k => XS.istoreN X0.here hx rfl (hb hby d9_41) rfl (l' := #[.val (.int x0), .val (.ref a1), .val (.int v41_1)]) rfl k) ?_
  refine ODH.go (B := (s₁.setTop (mkF m 43 #[.val (.int x0), .val (.ref a1), .val (.int v41_1)] [(.int v41_1)]))) (fun t k => XS.iloadN X0.here hx rfl (hb hby d9_42) rfl k) ?_
  by_cases c43_17 : v41_1 = (0 : Int32)
  · refine ODH.go (B := (s₁.setTop (mkF m 46 #[.val (.int x0), .val (.ref a1), .val (.int v41_1)] []))) (fun t k => XS.ifNo X0.here hx rfl (hb hby d9_43) rfl (by rw [if0]; exact (teq c43_17).2) k) ?_
    obtain ⟨b18, T18, h18, k18, t18, kb18, X18, e18, E18, hS18, hk18, hZ, hown, Ea18, Ca18, Va18, Ab18, la18, lb18, cr18, -, ns18, st18⟩ := ldcCH X0 hx hZ hown (Wd41 hw) (wS_in hw) e0 hS0 hk0 (EL_in hw) (List.mem_of_getElem? (i := 0) rfl) ch0.1 (vs := [(.int (45 : Int32)), (.int (46 : Int32)), (.int (95 : Int32)), (.int (126 : Int32))]) (z := (4 : Int32)) ⟨by decide, by decide⟩ (by decide) (by decide) (g := (mkF m 46 #[.val (.int x0), .val (.ref a1), .val (.int v41_1)] [])) rfl (hb hby d9_46) (n := 16) (by decide) (by decide) (Nat.le_of_ble_eq_true rfl) (Nat.le_of_ble_eq_true rfl)
    have ch18 := ch0.trans cr18
    refine ODH.go (B := (T18.setTop (mkF m 48 #[.val (.int x0), .val (.ref a1), .val (.int v41_1)] [(.ref b18)]))) st18 ?_
    refine ODH.go (B := (T18.setTop (mkF m 49 #[.val (.int x0), .val (.ref a1), .val (.int v41_1)] [(.int x0), (.ref b18)]))) (fun t k => XS.iloadN X18.here hx rfl (hb hby d9_48) rfl k) ?_
    obtain ⟨cq19, kq19, qa19, qb19, qc19⟩ := isOf hZ e18 Ea18
    obtain ⟨_, _, ⟨T19, L19, k19, n19⟩, -, X19, ⟨Lc19, hQ19, l19, y19, z19⟩, st19⟩ := X18.virtualBack hx (y := (⟨"java/lang/String", "indexOf", "(I)I"⟩ : MethodName)) (z := (⟨"java/lang/String", "indexOf", "(I)I"⟩ : MethodName)) hown (mvT hZ (Wd44 hw)) (mvT hZ (Wd45 hw)) (notFace_of_selects (args := #[]) (mvT hZ (Wd47 hw))) (mvT hZ (Wd47 hw)) (mvT hZ (Wd46 hw)) (by decide) (backOf (W := 0) (rmX1_4 l Z a0 hw [] b18 x0 h18 Ea18 Ca18 t18 kb18 Va18 (45 : Int32) (46 : Int32) (95 : Int32) (126 : Int32) Ab18 n0 (X00.ext E18) zc O2 P5) hZ (Wd48 hw) (Wd6 hw) (by decide) (by decide)) qa19 qc19 (g := (mkF m 49 #[.val (.int x0), .val (.ref a1), .val (.int v41_1)] [(.int x0), (.ref b18)])) rfl (by rw [hml]; rfl) (Steps.refl _) (argsL := [(.int x0)]) (rest := []) (lenOf pd7 rfl) rfl (by show 2 * 0 + _ ≤ _; exact Nat.le_of_eq rfl) (hb hby d9_49) (fun _ _ => ⟨rfl, e18, (Nat.le_of_ble_eq_true rfl), (Nat.le_of_ble_eq_true rfl)⟩)
    dsimp only [Pt.U, Pt.locs, Pt.cells, Pt.slots] at X19 l19 y19 z19 st19 hQ19
    subst l19 y19 z19
    obtain ⟨rfl, rfl, e19⟩ := hQ19
    try rw [List.append_nil] at X19
    refine ODH.via (B := (T19.setTop (mkF m 52 #[.val (.int x0), .val (.ref a1), .val (.int v41_1)] [(.int (own_li4 (45 : Int32) (46 : Int32) (95 : Int32) (126 : Int32) x0))]))) st19 ?_
    by_cases c52_20 : (own_li4 (45 : Int32) (46 : Int32) (95 : Int32) (126 : Int32) x0) < (0 : Int32)
    · refine ODH.go (B := (T19.setTop (mkF m 55 #[.val (.int x0), .val (.ref a1), .val (.int v41_1)] []))) (fun t k => XS.ifNo X19.here hx rfl (hb hby d9_52) rfl (by rw [if0]; exact (tlt c52_20).2.1) k) ?_
      refine ODH.go (B := (T19.setTop (mkF m 56 #[.val (.int x0), .val (.ref a1), .val (.int v41_1)] [(.ref a1)]))) (fun t k => XS.aloadN X19.here hx rfl (hb hby d9_55) rfl rfl k) ?_
      refine ODH.go (B := (T19.setTop (mkF m 57 #[.val (.int x0), .val (.ref a1), .val (.int v41_1)] [(.int x0), (.ref a1)]))) (fun t k => XS.iloadN X19.here hx rfl (hb hby d9_56) rfl k) ?_
      have f21 := (E1.ext E18)
      have f22 := (C1.ext E18)
      have f23 := (V1.ext E18)
      have f24 := (A1.ext E18)
      obtain ⟨cq25, kq25, qa25, qb25, qc25⟩ := isOf hZ e19 f21
      obtain ⟨_, _, ⟨T25, L25, k25, n25⟩, -, X25, ⟨Lc25, hQ25, l25, y25, z25⟩, st25⟩ := X19.virtualBack hx (y := (⟨"java/lang/String", "indexOf", "(I)I"⟩ : MethodName)) (z := (⟨"java/lang/String", "indexOf", "(I)I"⟩ : MethodName)) hown (mvT hZ (Wd44 hw)) (mvT hZ (Wd45 hw)) (notFace_of_selects (args := #[]) (mvT hZ (Wd47 hw))) (mvT hZ (Wd47 hw)) (mvT hZ (Wd46 hw)) (by decide) (backOf (W := 0) (rmX1_3 l Z a0 hw [] a1 x0 h18 f21 f22 t1 kt f23 c0 c1 c2 f24 n0 (X00.ext E18) zc O2 P5) hZ (Wd48 hw) (Wd6 hw) (by decide) (by decide)) qa25 qc25 (g := (mkF m 57 #[.val (.int x0), .val (.ref a1), .val (.int v41_1)] [(.int x0), (.ref a1)])) rfl (by rw [hml]; rfl) (Steps.refl _) (argsL := [(.int x0)]) (rest := []) (lenOf pd7 rfl) rfl (by show 2 * 0 + _ ≤ _; exact Nat.le_of_eq rfl) (hb hby d9_57) (fun _ _ => ⟨rfl, e19, (Nat.le_of_ble_eq_true rfl), (Nat.le_of_ble_eq_true rfl)⟩)
      dsimp only [Pt.U, Pt.locs, Pt.cells, Pt.slots] at X25 l25 y25 z25 st25 hQ25
      subst l25 y25 z25
      obtain ⟨rfl, rfl, e25⟩ := hQ25
      try rw [List.append_nil] at X25
      refine ODH.via (B := (T25.setTop (mkF m 60 #[.val (.int x0), .val (.ref a1), .val (.int v41_1)] [(.int (own_li3 c0 c1 c2 x0))]))) st25 ?_
      by_cases c60_26 : (own_li3 c0 c1 c2 x0) < (0 : Int32)
      · refine ODH.go (B := (T25.setTop (mkF m 67 #[.val (.int x0), .val (.ref a1), .val (.int v41_1)] []))) (fun t k => XS.ifYes X25.here hx rfl (pc0 := 60) (pc' := 67) rfl (hb hby d9_60) rfl (by rw [if0]; exact (tlt c60_26).1) (by decide) (by decide) k) ?_
        refine ODH.go (B := (T25.setTop (mkF m 68 #[.val (.int x0), .val (.ref a1), .val (.int v41_1)] [(.int (0 : Int32))]))) (fun t k => XS.iconst X25.here hx rfl (hb hby d9_67) k) ?_
        have eal : own_al x0 = v41_1 := hv41_1.symm
        have fin : (own_kept (own_al x0) (own_li4 (45 : Int32) (46 : Int32) (95 : Int32) (126 : Int32) x0) (own_li3 c0 c1 c2 x0)) = (0 : Int32) := by unfold own_kept; rw [eal, if_pos c43_17, if_pos c52_20, if_pos c60_26]
        exact ODH.ret X25 hx hlk hS18 (by rw [e25]; exact hk18) (by rw [e25]; exact ch18.trans (CHv.at X25 hZ (EL_in hw) ch18.1)) (t := .boolean) Bd.returns rfl (Or.inl ⟨rfl, Or.inr (Or.inl rfl), _, rfl⟩) (hb hby d9_68) (Nat.le_of_ble_eq_true rfl) (Nat.le_of_ble_eq_true rfl) ⟨by rw [fin], N0, by rw [e25]; exact ((Keep.refl h0 []).ext E18)⟩
      · refine ODH.go (B := (T25.setTop (mkF m 63 #[.val (.int x0), .val (.ref a1), .val (.int v41_1)] []))) (fun t k => XS.ifNo X25.here hx rfl (hb hby d9_60) rfl (by rw [if0]; exact (flt c60_26).1) k) ?_
        refine ODH.go (B := (T25.setTop (mkF m 64 #[.val (.int x0), .val (.ref a1), .val (.int v41_1)] [(.int (1 : Int32))]))) (fun t k => XS.iconst X25.here hx rfl (hb hby d9_63) k) ?_
        refine ODH.go (B := (T25.setTop (mkF m 68 #[.val (.int x0), .val (.ref a1), .val (.int v41_1)] [(.int (1 : Int32))]))) (fun t k => XS.goto X25.here hx rfl (pc0 := 64) (pc' := 68) rfl (hb hby d9_64) (by decide) (by decide) k) ?_
        have eal : own_al x0 = v41_1 := hv41_1.symm
        have fin : (own_kept (own_al x0) (own_li4 (45 : Int32) (46 : Int32) (95 : Int32) (126 : Int32) x0) (own_li3 c0 c1 c2 x0)) = (1 : Int32) := by unfold own_kept; rw [eal, if_pos c43_17, if_pos c52_20, if_neg c60_26]
        exact ODH.ret X25 hx hlk hS18 (by rw [e25]; exact hk18) (by rw [e25]; exact ch18.trans (CHv.at X25 hZ (EL_in hw) ch18.1)) (t := .boolean) Bd.returns rfl (Or.inl ⟨rfl, Or.inr (Or.inl rfl), _, rfl⟩) (hb hby d9_68) (Nat.le_of_ble_eq_true rfl) (Nat.le_of_ble_eq_true rfl) ⟨by rw [fin], N0, by rw [e25]; exact ((Keep.refl h0 []).ext E18)⟩
    · refine ODH.go (B := (T19.setTop (mkF m 63 #[.val (.int x0), .val (.ref a1), .val (.int v41_1)] []))) (fun t k => XS.ifYes X19.here hx rfl (pc0 := 52) (pc' := 63) rfl (hb hby d9_52) rfl (by rw [if0]; exact (flt c52_20).2.1) (by decide) (by decide) k) ?_
      refine ODH.go (B := (T19.setTop (mkF m 64 #[.val (.int x0), .val (.ref a1), .val (.int v41_1)] [(.int (1 : Int32))]))) (fun t k => XS.iconst X19.here hx rfl (hb hby d9_63) k) ?_
      refine ODH.go (B := (T19.setTop (mkF m 68 #[.val (.int x0), .val (.ref a1), .val (.int v41_1)] [(.int (1 : Int32))]))) (fun t k => XS.goto X19.here hx rfl (pc0 := 64) (pc' := 68) rfl (hb hby d9_64) (by decide) (by decide) k) ?_
      have eal : own_al x0 = v41_1 := hv41_1.symm
      have fin : (own_kept (own_al x0) (own_li4 (45 : Int32) (46 : Int32) (95 : Int32) (126 : Int32) x0) (own_li3 c0 c1 c2 x0)) = (1 : Int32) := by unfold own_kept; rw [eal, if_pos c43_17, if_neg c52_20]
      exact ODH.ret X19 hx hlk hS18 (by rw [e19]; exact hk18) (by rw [e19]; exact ch18.trans (CHv.at X19 hZ (EL_in hw) ch18.1)) (t := .boolean) Bd.returns rfl (Or.inl ⟨rfl, Or.inr (Or.inl rfl), _, rfl⟩) (hb hby d9_68) (Nat.le_of_ble_eq_true rfl) (Nat.le_of_ble_eq_true rfl) ⟨by rw [fin], N0, by rw [e19]; exact ((Keep.refl h0 []).ext E18)⟩
  · refine ODH.go (B := (s₁.setTop (mkF m 63 #[.val (.int x0), .val (.ref a1), .val (.int v41_1)] []))) (fun t k => XS.ifYes X0.here hx rfl (pc0 := 43) (pc' := 63) rfl (hb hby d9_43) rfl (by rw [if0]; exact (feq c43_17).2) (by decide) (by decide) k) ?_
    refine ODH.go (B := (s₁.setTop (mkF m 64 #[.val (.int x0), .val (.ref a1), .val (.int v41_1)] [(.int (1 : Int32))]))) (fun t k => XS.iconst X0.here hx rfl (hb hby d9_63) k) ?_
    refine ODH.go (B := (s₁.setTop (mkF m 68 #[.val (.int x0), .val (.ref a1), .val (.int v41_1)] [(.int (1 : Int32))]))) (fun t k => XS.goto X0.here hx rfl (pc0 := 64) (pc' := 68) rfl (hb hby d9_64) (by decide) (by decide) k) ?_
    have eal : own_al x0 = v41_1 := hv41_1.symm
    have fin : (own_kept (own_al x0) (own_li4 (45 : Int32) (46 : Int32) (95 : Int32) (126 : Int32) x0) (own_li3 c0 c1 c2 x0)) = (1 : Int32) := by unfold own_kept; rw [eal, if_neg c43_17]
    exact ODH.ret X0 hx hlk hS0 (by rw [e0]; exact hk0) (by rw [e0]; exact ch0.trans (CHv.at X0 hZ (EL_in hw) ch0.1)) (t := .boolean) Bd.returns rfl (Or.inl ⟨rfl, Or.inr (Or.inl rfl), _, rfl⟩) (hb hby d9_68) (Nat.le_of_ble_eq_true rfl) (Nat.le_of_ble_eq_true rfl) ⟨by rw [fin], N0, by rw [e0]; exact (Keep.refl h0 [])⟩
def Q_rmB (Z : State) (x0 : Int32) (x1 : Int32) (x2 : Int32) (h0 : Heap) (v : Option Value) (h : Heap) (L : List Loc) : Prop := v = some (.int (own_btw x0 x1 x2)) ∧ L = [] ∧ h = h0
set_option maxRecDepth 65536 in
set_option maxHeartbeats 40000000 in
theorem rmB (l : Launch) (Z : State) (a0 : Array Value) (hw : ∀ d ∈ tables_1, d.before a0 Z = true) (ws : List Jvm.Cond) (x0 : Int32) (x1 : Int32) (x2 : Int32) (h0 : Heap)  :
    MetFree l (⟨"com/example/triad/triad/rest/PercentEncodingIsKeptPinLaw", "between", "(III)Z"⟩ : MethodName) (head1 (Jvm.Cond.code (⟨"com/example/triad/triad/rest/PercentEncodingIsKeptPinLaw", "between", "(III)Z"⟩ : MethodName) method_2_code 3 (some .boolean) :: ws) ({ frames := 0, cells := 0, slots := 0, locals := 0 } : Room)) (fun a U => a = #[(.int x0), (.int x1), (.int x2)] ∧ Z.Warmed39 U.vm ∧ U.heap = h0) (fun _ _ _ _ _ => True) (fun _ U o U' => ∃ v L, o = .returned v ∧ Q_rmB Z x0 x1 x2 h0 v U'.heap L ∧ FrameEnd U o U' L ({ frames := 0, cells := 0, slots := 0, locals := 0 } : Room).cells ({ frames := 0, cells := 0, slots := 0, locals := 0 } : Room).slots) := by
  refine MetFree.of_bodySF (plainFor_of_name pn3) hisR ?_
  intro p e s m args below meth c s₁ Bd hml0 hP hK
  obtain ⟨rfl, hZ, hh⟩ := hP
  have hx := Bd.exec
  have hby := Bd.bytes
  have hlk : meth.locks = false := Bd.notSynchronized
  have hml : c.maxLocals = 3 := hml0
  have hown : s.vm.findClass "com/example/triad/triad/rest/PercentEncodingIsKeptPinLaw" = some m.cls := findClass_of_methodNamed Bd.named
  have hnm := (name_of_methodNamed Bd.named Bd.method).1
  have X0 : Stand p l e ({ frames := 0, cells := 0, slots := 0, locals := 0 } : Room) s m #[(.int x0), (.int x1), (.int x2)] below meth c s₁ [] 0 0 := Stand.of_body Bd
  have e0 : s₁.heap = h0 := by rw [← hh, Bd.state]; rfl
  suffices hgo : OD p e s below (Q_rmB Z x0 x1 x2 h0) ({ frames := 0, cells := 0, slots := 0, locals := 0 } : Room).cells ({ frames := 0, cells := 0, slots := 0, locals := 0 } : Room).slots (s₁.setTop (mkF m 0 #[.val (.int x0), .val (.int x1), .val (.int x2)] [])) by
    obtain ⟨s₂, o, hgo1, hgo2⟩ := hgo
    exact ⟨s₂, o, castTop (ef10 m x0 x1 x2) hgo1, hgo2⟩
  refine OD.go (B := (s₁.setTop (mkF m 1 #[.val (.int x0), .val (.int x1), .val (.int x2)] [(.int x1)]))) (fun t k => XS.iloadN X0.here hx rfl (hb hby d8_0) rfl k) ?_
  refine OD.go (B := (s₁.setTop (mkF m 2 #[.val (.int x0), .val (.int x1), .val (.int x2)] [(.int x0), (.int x1)]))) (fun t k => XS.iloadN X0.here hx rfl (hb hby d8_1) rfl k) ?_
  obtain ⟨v15_1, hv15_1⟩ : ∃ z : Int32, z = (if x0 < x1 then (0 : Int32) else (if x2 < x0 then (0 : Int32) else (1 : Int32))) := ⟨_, rfl⟩
  refine OD.cut (B := (s₁.setTop (mkF m 15 #[.val (.int x0), .val (.int x1), .val (.int x2)] [(.int v15_1)]))) (fun J15_2 => ?_) ?_
  · skip
    by_cases c2_3 : x0 < x1
    · refine OD.go (B := (s₁.setTop (mkF m 14 #[.val (.int x0), .val (.int x1), .val (.int x2)] []))) (fun t k => XS.icmpYes X0.here hx rfl (pc0 := 2) (pc' := 14) rfl (hb hby d8_2) rfl (tlt c2_3).2.2.1 (by decide) (by decide) k) ?_
      refine OD.go (B := (s₁.setTop (mkF m 15 #[.val (.int x0), .val (.int x1), .val (.int x2)] [(.int (0 : Int32))]))) (fun t k => XS.iconst X0.here hx rfl (hb hby d8_14) k) ?_
      rw [if_pos c2_3] at hv15_1
      rw [hv15_1] at J15_2
      exact J15_2
    · refine OD.go (B := (s₁.setTop (mkF m 5 #[.val (.int x0), .val (.int x1), .val (.int x2)] []))) (fun t k => XS.icmpNo X0.here hx rfl (hb hby d8_2) rfl (flt c2_3).2.2.1 k) ?_
      refine OD.go (B := (s₁.setTop (mkF m 6 #[.val (.int x0), .val (.int x1), .val (.int x2)] [(.int x0)]))) (fun t k => XS.iloadN X0.here hx rfl (hb hby d8_5) rfl k) ?_
      refine OD.go (B := (s₁.setTop (mkF m 7 #[.val (.int x0), .val (.int x1), .val (.int x2)] [(.int x2), (.int x0)]))) (fun t k => XS.iloadN X0.here hx rfl (hb hby d8_6) rfl k) ?_
      by_cases c7_4 : x2 < x0
      · refine OD.go (B := (s₁.setTop (mkF m 14 #[.val (.int x0), .val (.int x1), .val (.int x2)] []))) (fun t k => XS.icmpYes X0.here hx rfl (pc0 := 7) (pc' := 14) rfl (hb hby d8_7) rfl (tlt c7_4).2.2.1 (by decide) (by decide) k) ?_
        refine OD.go (B := (s₁.setTop (mkF m 15 #[.val (.int x0), .val (.int x1), .val (.int x2)] [(.int (0 : Int32))]))) (fun t k => XS.iconst X0.here hx rfl (hb hby d8_14) k) ?_
        rw [if_neg c2_3, if_pos c7_4] at hv15_1
        rw [hv15_1] at J15_2
        exact J15_2
      · refine OD.go (B := (s₁.setTop (mkF m 10 #[.val (.int x0), .val (.int x1), .val (.int x2)] []))) (fun t k => XS.icmpNo X0.here hx rfl (hb hby d8_7) rfl (flt c7_4).2.2.1 k) ?_
        refine OD.go (B := (s₁.setTop (mkF m 11 #[.val (.int x0), .val (.int x1), .val (.int x2)] [(.int (1 : Int32))]))) (fun t k => XS.iconst X0.here hx rfl (hb hby d8_10) k) ?_
        refine OD.go (B := (s₁.setTop (mkF m 15 #[.val (.int x0), .val (.int x1), .val (.int x2)] [(.int (1 : Int32))]))) (fun t k => XS.goto X0.here hx rfl (pc0 := 11) (pc' := 15) rfl (hb hby d8_11) (by decide) (by decide) k) ?_
        rw [if_neg c2_3, if_neg c7_4] at hv15_1
        rw [hv15_1] at J15_2
        exact J15_2
  have fin : v15_1 = own_btw x0 x1 x2 := by rw [hv15_1]; rfl
  rw [fin]
  exact OD.ret X0 hx hlk (t := .boolean) Bd.returns (own_btw_nar _ _ _) (Or.inl ⟨rfl, Or.inr (Or.inl rfl), _, rfl⟩) (hb hby d8_15) (Nat.le_of_ble_eq_true rfl) (Nat.le_of_ble_eq_true rfl) ⟨rfl, rfl, e0⟩
def Q_rmKO0 (Z : State) (x1 : Int32) (x2 : Int32) (x3 : Int32) (h0 : Heap) (n0 : Nat) (v : Option Value) (h : Heap) (L : List Loc) : Prop := ∃ (b t : Addr) (k : ClassId), v = some (.ref b) ∧ Fr n0 L ∧ Keep h0 h [] ∧ t ≠ b ∧ Exa Z h b "java/lang/String" ∧ Fld Z h b "java/lang/String" "coder" "B" (.int (0 : Int32)) ∧ Fld Z h b "java/lang/String" "value" "[B" (.ref t) ∧ Arv Z h t k .byte (0 : Int32) [] (.int 0)
set_option maxRecDepth 65536 in
set_option maxHeartbeats 40000000 in
theorem rmKO0 (l : Launch) (Z : State) (a0 : Array Value) (hw : ∀ d ∈ tables_1, d.before a0 Z = true) (ws : List Jvm.Cond) (x1 : Int32) (x2 : Int32) (x3 : Int32) (h0 : Heap) (n0 : Nat) (Z0 : n0 ≤ h0.size) (X00 : Old Z n0 h0) (r1 : ¬ x1 < 0 ∧ ¬ (255 : Int32) < x1) (r2 : ¬ x2 < 0 ∧ ¬ (255 : Int32) < x2) (r3 : ¬ x3 < 0 ∧ ¬ (255 : Int32) < x3) (zc : Int32) (O2 : Sta Z Z.heap "java/lang/String" "COMPACT_STRINGS" "Z" (.int zc)) (P5 : ¬ zc = 0) :
    MetFree l (⟨"com/example/triad/triad/rest/PercentEncodingIsKeptPinLaw", "keptOf", "(ICCC)Ljava/lang/String;"⟩ : MethodName) (head1 (Jvm.Cond.code (⟨"com/example/triad/triad/rest/PercentEncodingIsKeptPinLaw", "keptOf", "(ICCC)Ljava/lang/String;"⟩ : MethodName) method_3_code 4 (some (.object "java/lang/String")) :: ws) ({ frames := 5, cells := 8, slots := 64, locals := 120 } : Room)) (fun a U => a = #[(.int (0 : Int32)), (.int x1), (.int x2), (.int x3)] ∧ Z.Warmed39 U.vm ∧ U.heap = h0 ∧ CHv Z own_EL U.vm h0) (fun _ _ _ _ _ => True) (fun _ U o U' => ∃ v L, o = .returned v ∧ Q_rmKO0 Z x1 x2 x3 h0 n0 v U'.heap L ∧ CHr Z own_EL U.vm U.heap U'.vm U'.heap ∧ ReturnedEndW U o U' L ({ frames := 5, cells := 8, slots := 64, locals := 120 } : Room).cells ({ frames := 5, cells := 8, slots := 64, locals := 120 } : Room).slots) := by
  refine MetFree.of_bodySF (plainFor_of_name pn3) hisR ?_
  intro p e s m args below meth c s₁ Bd hml0 hP hK
  obtain ⟨rfl, hZ, hh, hH0⟩ := hP
  have hx := Bd.exec
  have hby := Bd.bytes
  have hlk : meth.locks = false := Bd.notSynchronized
  have hml : c.maxLocals = 4 := hml0
  have hown : s.vm.findClass "com/example/triad/triad/rest/PercentEncodingIsKeptPinLaw" = some m.cls := findClass_of_methodNamed Bd.named
  have hnm := (name_of_methodNamed Bd.named Bd.method).1
  have X0 : Stand p l e ({ frames := 5, cells := 8, slots := 64, locals := 120 } : Room) s m #[(.int (0 : Int32)), (.int x1), (.int x2), (.int x3)] below meth c s₁ [] 0 0 := Stand.of_body Bd
  have e0 : s₁.heap = h0 := by rw [← hh, Bd.state]; rfl
  have hS0 : s.Since s.vm s.heap.size := (State.WarmedH.refl s).since _
  have hk0 : s.heap.size ≤ h0.size := Nat.le_of_eq (by rw [hh])
  have X0 : Stand p l e ({ frames := 5, cells := 8, slots := 64, locals := 120 } : Room) (s.setVm s.vm) m #[(.int (0 : Int32)), (.int x1), (.int x2), (.int x3)] below meth c s₁ [] 0 0 := X0
  have hZ : Z.Warmed39 (s.setVm s.vm).vm := hZ
  have hown : (s.setVm s.vm).vm.findClass "com/example/triad/triad/rest/PercentEncodingIsKeptPinLaw" = some m.cls := hown
  have ch0 : CHr Z own_EL s.vm s.heap s.vm h0 := by have q := CHr.refl hH0; rw [← hh] at q ⊢; exact q
  have N0 := Fr.nil n0
  have hws : ∀ d ∈ StrChars.Road.words, d.before a0 Z = true := fun d hd => hw d ((by decide +kernel : ∀ d ∈ StrChars.Road.words, d ∈ tables_1) d hd)
  suffices hgo : ODH Z own_EL p e s below (Q_rmKO0 Z x1 x2 x3 h0 n0) ({ frames := 5, cells := 8, slots := 64, locals := 120 } : Room).cells ({ frames := 5, cells := 8, slots := 64, locals := 120 } : Room).slots (s₁.setTop (mkF m 0 #[.val (.int (0 : Int32)), .val (.int x1), .val (.int x2), .val (.int x3)] [])) by
    obtain ⟨s₂, o, hgo1, hgo2⟩ := hgo
    exact ⟨s₂, o, castTop (ef11 m (0 : Int32) x1 x2 x3) hgo1, hgo2⟩
  refine ODH.go (B := (s₁.setTop (mkF m 1 #[.val (.int (0 : Int32)), .val (.int x1), .val (.int x2), .val (.int x3)] [(.int (0 : Int32))]))) (fun t k => XS.iloadN X0.here hx rfl (hb hby d1_0) rfl k) ?_
  refine ODH.go (B := (s₁.setTop (mkF m 4 #[.val (.int (0 : Int32)), .val (.int x1), .val (.int x2), .val (.int x3)] []))) (fun t k => XS.ifNo X0.here hx rfl (hb hby d1_1) rfl (by rw [if0]; exact (teq (by decide : (0 : Int32) = (0 : Int32))).2) k) ?_
  obtain ⟨T1, h1, X1, e1, E1, A1, D1, -, st1⟩ := newO X0 hx hZ hown (Wd4 hw) (Wd5 hw) (Wd6 hw) e0 (g := (mkF m 4 #[.val (.int (0 : Int32)), .val (.int x1), .val (.int x2), .val (.int x3)] [])) rfl (hb hby d1_4) (Nat.le_of_ble_eq_true rfl) (Nat.le_of_ble_eq_true rfl)
  obtain ⟨b1, g1⟩ : ∃ z, z = h0.size := ⟨_, rfl⟩
  rw [← g1] at A1 D1 st1
  have Fn2 : Fld Z h1 b1 "java/lang/String" "coder" "B" (.int (0 : Int32)) := D1 (Or.inr (Wd31 hw)) (ty := .byte) (by decide)
  have Fn3 : Fld Z h1 b1 "java/lang/String" "value" "[B" .null := D1 (Or.inr (Wd33 hw)) (ty := (.array .byte)) (by decide)
  refine ODH.go (B := (T1.setTop (mkF m 7 #[.val (.int (0 : Int32)), .val (.int x1), .val (.int x2), .val (.int x3)] [(.ref b1)]))) st1 ?_
  have ch4 := ch0.trans (CHr.ext E1 ch0.1)
  refine ODH.go (B := (T1.setTop (mkF m 8 #[.val (.int (0 : Int32)), .val (.int x1), .val (.int x2), .val (.int x3)] [(.ref b1), (.ref b1)]))) (fun t k => XS.dup X1.here hx rfl (hb hby d1_7) rfl rfl k) ?_
  refine ODH.go (B := (T1.setTop (mkF m 9 #[.val (.int (0 : Int32)), .val (.int x1), .val (.int x2), .val (.int x3)] [(.int (0 : Int32)), (.ref b1), (.ref b1)]))) (fun t k => XS.iconst X1.here hx rfl (hb hby d1_8) k) ?_
  obtain ⟨T5, h5, k5, X5, e5, E5, A5, st5⟩ := newP X1 hx hZ (aty := .char) (Wd7 hw) e1 (g := (mkF m 9 #[.val (.int (0 : Int32)), .val (.int x1), .val (.int x2), .val (.int x3)] [(.int (0 : Int32)), (.ref b1), (.ref b1)])) rfl (hb hby d1_9) rfl (by decide) (cap := 0) (by decide) (by decide) (Nat.le_of_ble_eq_true rfl) (Nat.le_of_ble_eq_true rfl)
  obtain ⟨b5, g5⟩ : ∃ z, z = h1.size := ⟨_, rfl⟩
  rw [← g5] at A5 st5
  have V5 : Arv Z h5 b5 k5 .char (0 : Int32) [] (.int (0 : Int32)) := Arv.new A5 (by decide)
  refine ODH.go (B := (T5.setTop (mkF m 11 #[.val (.int (0 : Int32)), .val (.int x1), .val (.int x2), .val (.int x3)] [(.ref b5), (.ref b1), (.ref b1)]))) st5 ?_
  have ch6 := ch4.trans (CHr.ext E5 ch4.1)
  have f7 := (A1.ext E5)
  have f8 := (Fn3.ext E5)
  have f9 := (Fn2.ext E5)
  obtain ⟨_, _, ⟨T10, L10, k10, n10⟩, -, X10, hs10, gr10, ⟨Lc10, hQ10, l10, y10, z10, cr10⟩, st10⟩ := X5.specialBackS hx (y := (⟨"java/lang/String", "<init>", "([C)V"⟩ : MethodName)) rfl hown (mvT hZ (Wd8 hw)) (mvT hZ (Wd9 hw)) (mvT hZ (Wd10 hw)) (by decide) (backOfSH (W := 1) (rmE1 l Z a0 hw [] b1 b5 h5 n0 (Nat.le_trans (Nat.le_trans Z0 E1.1) E5.1) f7 f8 f9 (Nat.le_trans Z0 (Nat.le_of_eq g1.symm)) k5 V5) hZ (Wd10 hw) (Wd6 hw) (by decide) (by decide) (EL_in hw) ch6.1) (g := (mkF m 11 #[.val (.int (0 : Int32)), .val (.int x1), .val (.int x2), .val (.int x3)] [(.ref b5), (.ref b1), (.ref b1)])) rfl (by rw [hml]; rfl) (Steps.refl _) (a := b1) (argsL := [(.ref b5)]) (rest := [(.ref b1)]) (lenOf pd8 rfl) rfl (by show 2 * 0 + _ ≤ _; exact Nat.le_of_eq rfl) (hb hby d1_11) (fun _ _ => ⟨rfl, e5, (Nat.le_of_ble_eq_true rfl), (Nat.le_of_ble_eq_true rfl)⟩)
  dsimp only [Pt.U, Pt.locs, Pt.cells, Pt.slots] at X10 l10 y10 z10 st10 hQ10 hs10 gr10 cr10
  subst l10 y10 z10
  have X10 : Stand p l e _ (s.setVm T10.vm) m _ below meth c T10 _ _ _ := X10
  have hZ : Z.Warmed39 (s.setVm T10.vm).vm := State.Warmed39.trans (t := (s.setVm s.vm)) hZ hs10.1
  have hown : (s.setVm T10.vm).vm.findClass "com/example/triad/triad/rest/PercentEncodingIsKeptPinLaw" = some m.cls := by rw [show (s.setVm T10.vm).vm = T10.vm from rfl, hs10.1.alike.findClass]; exact hown
  have hS10 : s.Since T10.vm T10.heap.size := hS0.trans hs10 (Nat.le_trans (by rw [e5]; exact (Nat.le_trans (Nat.le_trans hk0 E1.1) E5.1)) gr10)
  have hk10 : T10.heap.size ≤ T10.heap.size := Nat.le_refl _
  have ch10 := ch6.trans cr10
  obtain ⟨rfl, Nq10, K10, E10, C10, t10, kb10, nt10, V10, A10⟩ := hQ10
  have N10 := Fr.app N0 Nq10
  refine ODH.via (B := (T10.setTop (mkF m 14 #[.val (.int (0 : Int32)), .val (.int x1), .val (.int x2), .val (.int x3)] [(.ref b1)]))) st10 ?_
  exact ODH.ret X10 hx hlk hS10 hk10 (ch10.trans (CHv.at X10 hZ (EL_in hw) ch10.1)) (t := (.object "java/lang/String")) Bd.returns rfl (Or.inr (Or.inr (Or.inr (Or.inr ⟨rfl, rfl, rfl⟩)))) (hb hby d1_14) (Nat.le_of_ble_eq_true rfl) (Nat.le_of_ble_eq_true rfl) ⟨_, _, _, rfl, N10, by exact ((((Keep.refl h0 []).ext E1).ext E5).trans K10 (allS (Or.inr (Nat.le_trans (Nat.le_refl _) (Nat.le_of_eq g1.symm))) all0)), nt10, by exact E10, by exact C10, by exact V10, by exact A10⟩
def Q_rmKO1 (Z : State) (x1 : Int32) (x2 : Int32) (x3 : Int32) (h0 : Heap) (n0 : Nat) (v : Option Value) (h : Heap) (L : List Loc) : Prop := ∃ (b t : Addr) (k : ClassId), v = some (.ref b) ∧ Fr n0 L ∧ Keep h0 h [] ∧ t ≠ b ∧ Exa Z h b "java/lang/String" ∧ Fld Z h b "java/lang/String" "coder" "B" (.int (0 : Int32)) ∧ Fld Z h b "java/lang/String" "value" "[B" (.ref t) ∧ Arv Z h t k .byte (1 : Int32) [(.int x1.toInt8.toInt32)] (.int 0)
set_option maxRecDepth 65536 in
set_option maxHeartbeats 40000000 in
theorem rmKO1 (l : Launch) (Z : State) (a0 : Array Value) (hw : ∀ d ∈ tables_1, d.before a0 Z = true) (ws : List Jvm.Cond) (x1 : Int32) (x2 : Int32) (x3 : Int32) (h0 : Heap) (n0 : Nat) (Z0 : n0 ≤ h0.size) (X00 : Old Z n0 h0) (r1 : ¬ x1 < 0 ∧ ¬ (255 : Int32) < x1) (r2 : ¬ x2 < 0 ∧ ¬ (255 : Int32) < x2) (r3 : ¬ x3 < 0 ∧ ¬ (255 : Int32) < x3) (zc : Int32) (O2 : Sta Z Z.heap "java/lang/String" "COMPACT_STRINGS" "Z" (.int zc)) (P5 : ¬ zc = 0) :
    MetFree l (⟨"com/example/triad/triad/rest/PercentEncodingIsKeptPinLaw", "keptOf", "(ICCC)Ljava/lang/String;"⟩ : MethodName) (head1 (Jvm.Cond.code (⟨"com/example/triad/triad/rest/PercentEncodingIsKeptPinLaw", "keptOf", "(ICCC)Ljava/lang/String;"⟩ : MethodName) method_3_code 4 (some (.object "java/lang/String")) :: ws) ({ frames := 5, cells := 8, slots := 64, locals := 120 } : Room)) (fun a U => a = #[(.int (1 : Int32)), (.int x1), (.int x2), (.int x3)] ∧ Z.Warmed39 U.vm ∧ U.heap = h0 ∧ CHv Z own_EL U.vm h0) (fun _ _ _ _ _ => True) (fun _ U o U' => ∃ v L, o = .returned v ∧ Q_rmKO1 Z x1 x2 x3 h0 n0 v U'.heap L ∧ CHr Z own_EL U.vm U.heap U'.vm U'.heap ∧ ReturnedEndW U o U' L ({ frames := 5, cells := 8, slots := 64, locals := 120 } : Room).cells ({ frames := 5, cells := 8, slots := 64, locals := 120 } : Room).slots) := by
  refine MetFree.of_bodySF (plainFor_of_name pn3) hisR ?_
  intro p e s m args below meth c s₁ Bd hml0 hP hK
  obtain ⟨rfl, hZ, hh, hH0⟩ := hP
  have hx := Bd.exec
  have hby := Bd.bytes
  have hlk : meth.locks = false := Bd.notSynchronized
  have hml : c.maxLocals = 4 := hml0
  have hown : s.vm.findClass "com/example/triad/triad/rest/PercentEncodingIsKeptPinLaw" = some m.cls := findClass_of_methodNamed Bd.named
  have hnm := (name_of_methodNamed Bd.named Bd.method).1
  have X0 : Stand p l e ({ frames := 5, cells := 8, slots := 64, locals := 120 } : Room) s m #[(.int (1 : Int32)), (.int x1), (.int x2), (.int x3)] below meth c s₁ [] 0 0 := Stand.of_body Bd
  have e0 : s₁.heap = h0 := by rw [← hh, Bd.state]; rfl
  have hS0 : s.Since s.vm s.heap.size := (State.WarmedH.refl s).since _
  have hk0 : s.heap.size ≤ h0.size := Nat.le_of_eq (by rw [hh])
  have X0 : Stand p l e ({ frames := 5, cells := 8, slots := 64, locals := 120 } : Room) (s.setVm s.vm) m #[(.int (1 : Int32)), (.int x1), (.int x2), (.int x3)] below meth c s₁ [] 0 0 := X0
  have hZ : Z.Warmed39 (s.setVm s.vm).vm := hZ
  have hown : (s.setVm s.vm).vm.findClass "com/example/triad/triad/rest/PercentEncodingIsKeptPinLaw" = some m.cls := hown
  have ch0 : CHr Z own_EL s.vm s.heap s.vm h0 := by have q := CHr.refl hH0; rw [← hh] at q ⊢; exact q
  have N0 := Fr.nil n0
  have hws : ∀ d ∈ StrChars.Road.words, d.before a0 Z = true := fun d hd => hw d ((by decide +kernel : ∀ d ∈ StrChars.Road.words, d ∈ tables_1) d hd)
  suffices hgo : ODH Z own_EL p e s below (Q_rmKO1 Z x1 x2 x3 h0 n0) ({ frames := 5, cells := 8, slots := 64, locals := 120 } : Room).cells ({ frames := 5, cells := 8, slots := 64, locals := 120 } : Room).slots (s₁.setTop (mkF m 0 #[.val (.int (1 : Int32)), .val (.int x1), .val (.int x2), .val (.int x3)] [])) by
    obtain ⟨s₂, o, hgo1, hgo2⟩ := hgo
    exact ⟨s₂, o, castTop (ef11 m (1 : Int32) x1 x2 x3) hgo1, hgo2⟩
  refine ODH.go (B := (s₁.setTop (mkF m 1 #[.val (.int (1 : Int32)), .val (.int x1), .val (.int x2), .val (.int x3)] [(.int (1 : Int32))]))) (fun t k => XS.iloadN X0.here hx rfl (hb hby d1_0) rfl k) ?_
  refine ODH.go (B := (s₁.setTop (mkF m 15 #[.val (.int (1 : Int32)), .val (.int x1), .val (.int x2), .val (.int x3)] []))) (fun t k => XS.ifYes X0.here hx rfl (pc0 := 1) (pc' := 15) rfl (hb hby d1_1) rfl (by rw [if0]; exact (feq (by decide : ¬ (1 : Int32) = (0 : Int32))).2) (by decide) (by decide) k) ?_
  refine ODH.go (B := (s₁.setTop (mkF m 16 #[.val (.int (1 : Int32)), .val (.int x1), .val (.int x2), .val (.int x3)] [(.int (1 : Int32))]))) (fun t k => XS.iloadN X0.here hx rfl (hb hby d1_15) rfl k) ?_
  refine ODH.go (B := (s₁.setTop (mkF m 17 #[.val (.int (1 : Int32)), .val (.int x1), .val (.int x2), .val (.int x3)] [(.int (1 : Int32)), (.int (1 : Int32))]))) (fun t k => XS.iconst X0.here hx rfl (hb hby d1_16) k) ?_
  refine ODH.go (B := (s₁.setTop (mkF m 20 #[.val (.int (1 : Int32)), .val (.int x1), .val (.int x2), .val (.int x3)] []))) (fun t k => XS.icmpNo X0.here hx rfl (hb hby d1_17) rfl (teq (by decide : (1 : Int32) = (1 : Int32))).2 k) ?_
  obtain ⟨T1, h1, X1, e1, E1, A1, D1, -, st1⟩ := newO X0 hx hZ hown (Wd4 hw) (Wd5 hw) (Wd6 hw) e0 (g := (mkF m 20 #[.val (.int (1 : Int32)), .val (.int x1), .val (.int x2), .val (.int x3)] [])) rfl (hb hby d1_20) (Nat.le_of_ble_eq_true rfl) (Nat.le_of_ble_eq_true rfl)
  obtain ⟨b1, g1⟩ : ∃ z, z = h0.size := ⟨_, rfl⟩
  rw [← g1] at A1 D1 st1
  have Fn2 : Fld Z h1 b1 "java/lang/String" "coder" "B" (.int (0 : Int32)) := D1 (Or.inr (Wd31 hw)) (ty := .byte) (by decide)
  have Fn3 : Fld Z h1 b1 "java/lang/String" "value" "[B" .null := D1 (Or.inr (Wd33 hw)) (ty := (.array .byte)) (by decide)
  refine ODH.go (B := (T1.setTop (mkF m 23 #[.val (.int (1 : Int32)), .val (.int x1), .val (.int x2), .val (.int x3)] [(.ref b1)]))) st1 ?_
  have ch4 := ch0.trans (CHr.ext E1 ch0.1)
  refine ODH.go (B := (T1.setTop (mkF m 24 #[.val (.int (1 : Int32)), .val (.int x1), .val (.int x2), .val (.int x3)] [(.ref b1), (.ref b1)]))) (fun t k => XS.dup X1.here hx rfl (hb hby d1_23) rfl rfl k) ?_
  refine ODH.go (B := (T1.setTop (mkF m 25 #[.val (.int (1 : Int32)), .val (.int x1), .val (.int x2), .val (.int x3)] [(.int (1 : Int32)), (.ref b1), (.ref b1)]))) (fun t k => XS.iconst X1.here hx rfl (hb hby d1_24) k) ?_
  obtain ⟨T5, h5, k5, X5, e5, E5, A5, st5⟩ := newP X1 hx hZ (aty := .char) (Wd7 hw) e1 (g := (mkF m 25 #[.val (.int (1 : Int32)), .val (.int x1), .val (.int x2), .val (.int x3)] [(.int (1 : Int32)), (.ref b1), (.ref b1)])) rfl (hb hby d1_25) rfl (by decide) (cap := 1) (by decide) (by decide) (Nat.le_of_ble_eq_true rfl) (Nat.le_of_ble_eq_true rfl)
  obtain ⟨b5, g5⟩ : ∃ z, z = h1.size := ⟨_, rfl⟩
  rw [← g5] at A5 st5
  have V5 : Arv Z h5 b5 k5 .char (1 : Int32) [(.int (0 : Int32))] (.int (0 : Int32)) := (Arv.new A5 (by decide)).pad (pad_rep [] (.int (0 : Int32)) 1)
  refine ODH.go (B := (T5.setTop (mkF m 27 #[.val (.int (1 : Int32)), .val (.int x1), .val (.int x2), .val (.int x3)] [(.ref b5), (.ref b1), (.ref b1)]))) st5 ?_
  have ch6 := ch4.trans (CHr.ext E5 ch4.1)
  refine ODH.go (B := (T5.setTop (mkF m 28 #[.val (.int (1 : Int32)), .val (.int x1), .val (.int x2), .val (.int x3)] [(.ref b5), (.ref b5), (.ref b1), (.ref b1)]))) (fun t k => XS.dup X5.here hx rfl (hb hby d1_27) rfl rfl k) ?_
  refine ODH.go (B := (T5.setTop (mkF m 29 #[.val (.int (1 : Int32)), .val (.int x1), .val (.int x2), .val (.int x3)] [(.int (0 : Int32)), (.ref b5), (.ref b5), (.ref b1), (.ref b1)]))) (fun t k => XS.iconst X5.here hx rfl (hb hby d1_28) k) ?_
  refine ODH.go (B := (T5.setTop (mkF m 30 #[.val (.int (1 : Int32)), .val (.int x1), .val (.int x2), .val (.int x3)] [(.int x1), (.int (0 : Int32)), (.ref b5), (.ref b5), (.ref b1), (.ref b1)]))) (fun t k => XS.iloadN X5.here hx rfl (hb hby d1_29) rfl k) ?_
  obtain ⟨cl7, Ar7, q7, S7, M7, H7, G7⟩ := id V5
  obtain ⟨T7, h7, X7, e7, W7, st7⟩ := stC X5 hx hZ e5 Ar7 (j := (0 : Int32)) (inb_of S7 ⟨by decide, by decide⟩) (g := (mkF m 30 #[.val (.int (1 : Int32)), .val (.int x1), .val (.int x2), .val (.int x3)] [(.int x1), (.int (0 : Int32)), (.ref b5), (.ref b5), (.ref b1), (.ref b1)])) rfl rfl (hb hby d1_30)
  rw [(own_nar r1)] at W7
  have V7 : Arv Z h7 b5 k5 .char (1 : Int32) [(.int x1)] (.int (0 : Int32)) := Arv.set Ar7 q7 S7 M7 H7 G7 ((own_nar r1) ▸ fits_nar_char _) W7 0 rfl (Nat.le_of_ble_eq_true rfl)
  have N7 := Fr.snoc X7 N0 (Nat.le_trans (Nat.le_trans Z0 E1.1) (Nat.le_of_eq g5.symm))
  refine ODH.go (B := (T7.setTop (mkF m 31 #[.val (.int (1 : Int32)), .val (.int x1), .val (.int x2), .val (.int x3)] [(.ref b5), (.ref b1), (.ref b1)]))) st7 ?_
  have ch8 := ch6.trans (CHr.wr W7 (own_safeArv hZ.alike V5 (by decide)) ch6.1)
  have K9 : Arv Z h7 b5 k5 .char (1 : Int32) (([x1] : List Int32).map Value.int) (.int (0 : Int32)) := V7
  have f10 := ((A1.ext E5).wr W7)
  have f11 := ((Fn3.ext E5).other W7 (Or.inl (Nat.ne_of_lt (Nat.lt_of_lt_of_le A1.lt (Nat.le_of_eq g5.symm)))))
  have f12 := ((Fn2.ext E5).other W7 (Or.inl (Nat.ne_of_lt (Nat.lt_of_lt_of_le A1.lt (Nat.le_of_eq g5.symm)))))
  obtain ⟨_, _, ⟨T13, L13, k13, n13⟩, -, X13, ⟨Lc13, hQ13, l13, y13, z13⟩, st13⟩ := X7.specialBack hx (y := (⟨"java/lang/String", "<init>", "([C)V"⟩ : MethodName)) rfl hown (mvT hZ (Wd8 hw)) (mvT hZ (Wd9 hw)) (mvT hZ (Wd10 hw)) (by decide) (StrChars.Road.backV (W := 1) hZ hws (kI := 4) (Wd5 hw) (cs := ([x1] : List Int32)) (bs := ([x1] : List Int32).map (fun c => c.toInt8.toInt32)) (n := 1) (n0 := n0) (Nat.le_trans Z0 (Nat.le_of_eq g1.symm)) (Nat.le_trans (Nat.le_trans (Nat.le_trans Z0 E1.1) E5.1) (Keep.of_wr W7).1) f10 f11 f12 K9 (O2.ext (((X00.ext E1).ext E5).wr W7 (Nat.le_trans (Nat.le_trans Z0 E1.1) (Nat.le_of_eq g5.symm))).2) P5 rfl rfl (by decide) (by decide) (own_all1 r1) rfl (by decide) (by decide)) (g := (mkF m 31 #[.val (.int (1 : Int32)), .val (.int x1), .val (.int x2), .val (.int x3)] [(.ref b5), (.ref b1), (.ref b1)])) rfl (by rw [hml]; rfl) (Steps.refl _) (a := b1) (argsL := [(.ref b5)]) (rest := [(.ref b1)]) (lenOf pd8 rfl) rfl (by show 2 * 0 + _ ≤ _; exact Nat.le_of_eq rfl) (hb hby d1_31) (fun _ _ => ⟨rfl, e7, (Nat.le_of_ble_eq_true rfl), (Nat.le_of_ble_eq_true rfl)⟩)
  dsimp only [Pt.U, Pt.locs, Pt.cells, Pt.slots] at X13 l13 y13 z13 st13 hQ13
  subst l13 y13 z13
  obtain ⟨rfl, Nq13, K13, E13, C13, t13, kb13, gt13, ht13, nt13, V13, A13⟩ := hQ13
  have N13 := Fr.app N7 Nq13
  have nt13_b5 : b5 ≠ t13 := Nat.ne_of_lt (Nat.lt_of_lt_of_le (Nat.lt_of_lt_of_le V5.lt (Keep.of_wr W7).1) ht13)
  refine ODH.via (B := (T13.setTop (mkF m 34 #[.val (.int (1 : Int32)), .val (.int x1), .val (.int x2), .val (.int x3)] [(.ref b1)]))) st13 ?_
  have ch14 := ch8.trans (CHr.keep K13 (fun x hx => by simp only [List.mem_cons, List.not_mem_nil, or_false] at hx; rcases hx with rfl <;> first | exact (own_safeNull hZ.alike ((A1.ext E5).wr W7) ((Fn3.ext E5).other W7 (Or.inl (Nat.ne_of_lt (Nat.lt_of_lt_of_le A1.lt (Nat.le_of_eq g5.symm))))))) ch8.1)
  exact ODH.ret X13 hx hlk hS0 (Nat.le_trans (Nat.le_trans (Nat.le_trans (Nat.le_trans hk0 E1.1) E5.1) (Keep.of_wr W7).1) K13.1) (ch14.trans (CHv.at X13 hZ (EL_in hw) ch14.1)) (t := (.object "java/lang/String")) Bd.returns rfl (Or.inr (Or.inr (Or.inr (Or.inr ⟨rfl, rfl, rfl⟩)))) (hb hby d1_34) (Nat.le_of_ble_eq_true rfl) (Nat.le_of_ble_eq_true rfl) ⟨_, _, _, rfl, N13, by exact (((((Keep.refl h0 []).ext E1).ext E5).wr W7 (Or.inr (Nat.le_trans (Nat.le_trans (Nat.le_refl _) E1.1) (Nat.le_of_eq g5.symm)))).trans K13 (allS (Or.inr (Nat.le_trans (Nat.le_refl _) (Nat.le_of_eq g1.symm))) all0)), nt13, by exact E13, by exact C13, by exact V13, by exact A13⟩
def Q_rmKO2 (Z : State) (x1 : Int32) (x2 : Int32) (x3 : Int32) (h0 : Heap) (n0 : Nat) (v : Option Value) (h : Heap) (L : List Loc) : Prop := ∃ (b t : Addr) (k : ClassId), v = some (.ref b) ∧ Fr n0 L ∧ Keep h0 h [] ∧ t ≠ b ∧ Exa Z h b "java/lang/String" ∧ Fld Z h b "java/lang/String" "coder" "B" (.int (0 : Int32)) ∧ Fld Z h b "java/lang/String" "value" "[B" (.ref t) ∧ Arv Z h t k .byte (2 : Int32) [(.int x1.toInt8.toInt32), (.int x2.toInt8.toInt32)] (.int 0)
set_option maxRecDepth 65536 in
set_option maxHeartbeats 40000000 in
theorem rmKO2 (l : Launch) (Z : State) (a0 : Array Value) (hw : ∀ d ∈ tables_1, d.before a0 Z = true) (ws : List Jvm.Cond) (x1 : Int32) (x2 : Int32) (x3 : Int32) (h0 : Heap) (n0 : Nat) (Z0 : n0 ≤ h0.size) (X00 : Old Z n0 h0) (r1 : ¬ x1 < 0 ∧ ¬ (255 : Int32) < x1) (r2 : ¬ x2 < 0 ∧ ¬ (255 : Int32) < x2) (r3 : ¬ x3 < 0 ∧ ¬ (255 : Int32) < x3) (zc : Int32) (O2 : Sta Z Z.heap "java/lang/String" "COMPACT_STRINGS" "Z" (.int zc)) (P5 : ¬ zc = 0) :
    MetFree l (⟨"com/example/triad/triad/rest/PercentEncodingIsKeptPinLaw", "keptOf", "(ICCC)Ljava/lang/String;"⟩ : MethodName) (head1 (Jvm.Cond.code (⟨"com/example/triad/triad/rest/PercentEncodingIsKeptPinLaw", "keptOf", "(ICCC)Ljava/lang/String;"⟩ : MethodName) method_3_code 4 (some (.object "java/lang/String")) :: ws) ({ frames := 5, cells := 8, slots := 64, locals := 120 } : Room)) (fun a U => a = #[(.int (2 : Int32)), (.int x1), (.int x2), (.int x3)] ∧ Z.Warmed39 U.vm ∧ U.heap = h0 ∧ CHv Z own_EL U.vm h0) (fun _ _ _ _ _ => True) (fun _ U o U' => ∃ v L, o = .returned v ∧ Q_rmKO2 Z x1 x2 x3 h0 n0 v U'.heap L ∧ CHr Z own_EL U.vm U.heap U'.vm U'.heap ∧ ReturnedEndW U o U' L ({ frames := 5, cells := 8, slots := 64, locals := 120 } : Room).cells ({ frames := 5, cells := 8, slots := 64, locals := 120 } : Room).slots) := by
  refine MetFree.of_bodySF (plainFor_of_name pn3) hisR ?_
  intro p e s m args below meth c s₁ Bd hml0 hP hK
  obtain ⟨rfl, hZ, hh, hH0⟩ := hP
  have hx := Bd.exec
  have hby := Bd.bytes
  have hlk : meth.locks = false := Bd.notSynchronized
  have hml : c.maxLocals = 4 := hml0
  have hown : s.vm.findClass "com/example/triad/triad/rest/PercentEncodingIsKeptPinLaw" = some m.cls := findClass_of_methodNamed Bd.named
  have hnm := (name_of_methodNamed Bd.named Bd.method).1
  have X0 : Stand p l e ({ frames := 5, cells := 8, slots := 64, locals := 120 } : Room) s m #[(.int (2 : Int32)), (.int x1), (.int x2), (.int x3)] below meth c s₁ [] 0 0 := Stand.of_body Bd
  have e0 : s₁.heap = h0 := by rw [← hh, Bd.state]; rfl
  have hS0 : s.Since s.vm s.heap.size := (State.WarmedH.refl s).since _
  have hk0 : s.heap.size ≤ h0.size := Nat.le_of_eq (by rw [hh])
  have X0 : Stand p l e ({ frames := 5, cells := 8, slots := 64, locals := 120 } : Room) (s.setVm s.vm) m #[(.int (2 : Int32)), (.int x1), (.int x2), (.int x3)] below meth c s₁ [] 0 0 := X0
  have hZ : Z.Warmed39 (s.setVm s.vm).vm := hZ
  have hown : (s.setVm s.vm).vm.findClass "com/example/triad/triad/rest/PercentEncodingIsKeptPinLaw" = some m.cls := hown
  have ch0 : CHr Z own_EL s.vm s.heap s.vm h0 := by have q := CHr.refl hH0; rw [← hh] at q ⊢; exact q
  have N0 := Fr.nil n0
  have hws : ∀ d ∈ StrChars.Road.words, d.before a0 Z = true := fun d hd => hw d ((by decide +kernel : ∀ d ∈ StrChars.Road.words, d ∈ tables_1) d hd)
  suffices hgo : ODH Z own_EL p e s below (Q_rmKO2 Z x1 x2 x3 h0 n0) ({ frames := 5, cells := 8, slots := 64, locals := 120 } : Room).cells ({ frames := 5, cells := 8, slots := 64, locals := 120 } : Room).slots (s₁.setTop (mkF m 0 #[.val (.int (2 : Int32)), .val (.int x1), .val (.int x2), .val (.int x3)] [])) by
    obtain ⟨s₂, o, hgo1, hgo2⟩ := hgo
    exact ⟨s₂, o, castTop (ef11 m (2 : Int32) x1 x2 x3) hgo1, hgo2⟩
  refine ODH.go (B := (s₁.setTop (mkF m 1 #[.val (.int (2 : Int32)), .val (.int x1), .val (.int x2), .val (.int x3)] [(.int (2 : Int32))]))) (fun t k => XS.iloadN X0.here hx rfl (hb hby d1_0) rfl k) ?_
  refine ODH.go (B := (s₁.setTop (mkF m 15 #[.val (.int (2 : Int32)), .val (.int x1), .val (.int x2), .val (.int x3)] []))) (fun t k => XS.ifYes X0.here hx rfl (pc0 := 1) (pc' := 15) rfl (hb hby d1_1) rfl (by rw [if0]; exact (feq (by decide : ¬ (2 : Int32) = (0 : Int32))).2) (by decide) (by decide) k) ?_
  refine ODH.go (B := (s₁.setTop (mkF m 16 #[.val (.int (2 : Int32)), .val (.int x1), .val (.int x2), .val (.int x3)] [(.int (2 : Int32))]))) (fun t k => XS.iloadN X0.here hx rfl (hb hby d1_15) rfl k) ?_
  refine ODH.go (B := (s₁.setTop (mkF m 17 #[.val (.int (2 : Int32)), .val (.int x1), .val (.int x2), .val (.int x3)] [(.int (1 : Int32)), (.int (2 : Int32))]))) (fun t k => XS.iconst X0.here hx rfl (hb hby d1_16) k) ?_
  refine ODH.go (B := (s₁.setTop (mkF m 35 #[.val (.int (2 : Int32)), .val (.int x1), .val (.int x2), .val (.int x3)] []))) (fun t k => XS.icmpYes X0.here hx rfl (pc0 := 17) (pc' := 35) rfl (hb hby d1_17) rfl (feq (by decide : ¬ (2 : Int32) = (1 : Int32))).2 (by decide) (by decide) k) ?_
  refine ODH.go (B := (s₁.setTop (mkF m 36 #[.val (.int (2 : Int32)), .val (.int x1), .val (.int x2), .val (.int x3)] [(.int (2 : Int32))]))) (fun t k => XS.iloadN X0.here hx rfl (hb hby d1_35) rfl k) ?_
  refine ODH.go (B := (s₁.setTop (mkF m 37 #[.val (.int (2 : Int32)), .val (.int x1), .val (.int x2), .val (.int x3)] [(.int (2 : Int32)), (.int (2 : Int32))]))) (fun t k => XS.iconst X0.here hx rfl (hb hby d1_36) k) ?_
  refine ODH.go (B := (s₁.setTop (mkF m 40 #[.val (.int (2 : Int32)), .val (.int x1), .val (.int x2), .val (.int x3)] []))) (fun t k => XS.icmpNo X0.here hx rfl (hb hby d1_37) rfl (teq (by decide : (2 : Int32) = (2 : Int32))).2 k) ?_
  obtain ⟨T1, h1, X1, e1, E1, A1, D1, -, st1⟩ := newO X0 hx hZ hown (Wd4 hw) (Wd5 hw) (Wd6 hw) e0 (g := (mkF m 40 #[.val (.int (2 : Int32)), .val (.int x1), .val (.int x2), .val (.int x3)] [])) rfl (hb hby d1_40) (Nat.le_of_ble_eq_true rfl) (Nat.le_of_ble_eq_true rfl)
  obtain ⟨b1, g1⟩ : ∃ z, z = h0.size := ⟨_, rfl⟩
  rw [← g1] at A1 D1 st1
  have Fn2 : Fld Z h1 b1 "java/lang/String" "coder" "B" (.int (0 : Int32)) := D1 (Or.inr (Wd31 hw)) (ty := .byte) (by decide)
  have Fn3 : Fld Z h1 b1 "java/lang/String" "value" "[B" .null := D1 (Or.inr (Wd33 hw)) (ty := (.array .byte)) (by decide)
  refine ODH.go (B := (T1.setTop (mkF m 43 #[.val (.int (2 : Int32)), .val (.int x1), .val (.int x2), .val (.int x3)] [(.ref b1)]))) st1 ?_
  have ch4 := ch0.trans (CHr.ext E1 ch0.1)
  refine ODH.go (B := (T1.setTop (mkF m 44 #[.val (.int (2 : Int32)), .val (.int x1), .val (.int x2), .val (.int x3)] [(.ref b1), (.ref b1)]))) (fun t k => XS.dup X1.here hx rfl (hb hby d1_43) rfl rfl k) ?_
  refine ODH.go (B := (T1.setTop (mkF m 45 #[.val (.int (2 : Int32)), .val (.int x1), .val (.int x2), .val (.int x3)] [(.int (2 : Int32)), (.ref b1), (.ref b1)]))) (fun t k => XS.iconst X1.here hx rfl (hb hby d1_44) k) ?_
  obtain ⟨T5, h5, k5, X5, e5, E5, A5, st5⟩ := newP X1 hx hZ (aty := .char) (Wd7 hw) e1 (g := (mkF m 45 #[.val (.int (2 : Int32)), .val (.int x1), .val (.int x2), .val (.int x3)] [(.int (2 : Int32)), (.ref b1), (.ref b1)])) rfl (hb hby d1_45) rfl (by decide) (cap := 2) (by decide) (by decide) (Nat.le_of_ble_eq_true rfl) (Nat.le_of_ble_eq_true rfl)
  obtain ⟨b5, g5⟩ : ∃ z, z = h1.size := ⟨_, rfl⟩
  rw [← g5] at A5 st5
  have V5 : Arv Z h5 b5 k5 .char (2 : Int32) [(.int (0 : Int32)), (.int (0 : Int32))] (.int (0 : Int32)) := (Arv.new A5 (by decide)).pad (pad_rep [] (.int (0 : Int32)) 2)
  refine ODH.go (B := (T5.setTop (mkF m 47 #[.val (.int (2 : Int32)), .val (.int x1), .val (.int x2), .val (.int x3)] [(.ref b5), (.ref b1), (.ref b1)]))) st5 ?_
  have ch6 := ch4.trans (CHr.ext E5 ch4.1)
  refine ODH.go (B := (T5.setTop (mkF m 48 #[.val (.int (2 : Int32)), .val (.int x1), .val (.int x2), .val (.int x3)] [(.ref b5), (.ref b5), (.ref b1), (.ref b1)]))) (fun t k => XS.dup X5.here hx rfl (hb hby d1_47) rfl rfl k) ?_
  refine ODH.go (B := (T5.setTop (mkF m 49 #[.val (.int (2 : Int32)), .val (.int x1), .val (.int x2), .val (.int x3)] [(.int (0 : Int32)), (.ref b5), (.ref b5), (.ref b1), (.ref b1)]))) (fun t k => XS.iconst X5.here hx rfl (hb hby d1_48) k) ?_
  refine ODH.go (B := (T5.setTop (mkF m 50 #[.val (.int (2 : Int32)), .val (.int x1), .val (.int x2), .val (.int x3)] [(.int x1), (.int (0 : Int32)), (.ref b5), (.ref b5), (.ref b1), (.ref b1)]))) (fun t k => XS.iloadN X5.here hx rfl (hb hby d1_49) rfl k) ?_
  obtain ⟨cl7, Ar7, q7, S7, M7, H7, G7⟩ := id V5
  obtain ⟨T7, h7, X7, e7, W7, st7⟩ := stC X5 hx hZ e5 Ar7 (j := (0 : Int32)) (inb_of S7 ⟨by decide, by decide⟩) (g := (mkF m 50 #[.val (.int (2 : Int32)), .val (.int x1), .val (.int x2), .val (.int x3)] [(.int x1), (.int (0 : Int32)), (.ref b5), (.ref b5), (.ref b1), (.ref b1)])) rfl rfl (hb hby d1_50)
  rw [(own_nar r1)] at W7
  have V7 : Arv Z h7 b5 k5 .char (2 : Int32) [(.int x1), (.int (0 : Int32))] (.int (0 : Int32)) := Arv.set Ar7 q7 S7 M7 H7 G7 ((own_nar r1) ▸ fits_nar_char _) W7 0 rfl (Nat.le_of_ble_eq_true rfl)
  have N7 := Fr.snoc X7 N0 (Nat.le_trans (Nat.le_trans Z0 E1.1) (Nat.le_of_eq g5.symm))
  refine ODH.go (B := (T7.setTop (mkF m 51 #[.val (.int (2 : Int32)), .val (.int x1), .val (.int x2), .val (.int x3)] [(.ref b5), (.ref b1), (.ref b1)]))) st7 ?_
  have ch8 := ch6.trans (CHr.wr W7 (own_safeArv hZ.alike V5 (by decide)) ch6.1)
  refine ODH.go (B := (T7.setTop (mkF m 52 #[.val (.int (2 : Int32)), .val (.int x1), .val (.int x2), .val (.int x3)] [(.ref b5), (.ref b5), (.ref b1), (.ref b1)]))) (fun t k => XS.dup X7.here hx rfl (hb hby d1_51) rfl rfl k) ?_
  refine ODH.go (B := (T7.setTop (mkF m 53 #[.val (.int (2 : Int32)), .val (.int x1), .val (.int x2), .val (.int x3)] [(.int (1 : Int32)), (.ref b5), (.ref b5), (.ref b1), (.ref b1)]))) (fun t k => XS.iconst X7.here hx rfl (hb hby d1_52) k) ?_
  refine ODH.go (B := (T7.setTop (mkF m 54 #[.val (.int (2 : Int32)), .val (.int x1), .val (.int x2), .val (.int x3)] [(.int x2), (.int (1 : Int32)), (.ref b5), (.ref b5), (.ref b1), (.ref b1)]))) (fun t k => XS.iloadN X7.here hx rfl (hb hby d1_53) rfl k) ?_
  obtain ⟨cl9, Ar9, q9, S9, M9, H9, G9⟩ := id V7
  obtain ⟨T9, h9, X9, e9, W9, st9⟩ := stC X7 hx hZ e7 Ar9 (j := (1 : Int32)) (inb_of S9 ⟨by decide, by decide⟩) (g := (mkF m 54 #[.val (.int (2 : Int32)), .val (.int x1), .val (.int x2), .val (.int x3)] [(.int x2), (.int (1 : Int32)), (.ref b5), (.ref b5), (.ref b1), (.ref b1)])) rfl rfl (hb hby d1_54)
  rw [(own_nar r2)] at W9
  have V9 : Arv Z h9 b5 k5 .char (2 : Int32) [(.int x1), (.int x2)] (.int (0 : Int32)) := Arv.set Ar9 q9 S9 M9 H9 G9 ((own_nar r2) ▸ fits_nar_char _) W9 1 rfl (Nat.le_of_ble_eq_true rfl)
  have N9 := Fr.snoc X9 N7 (Nat.le_trans (Nat.le_trans Z0 E1.1) (Nat.le_of_eq g5.symm))
  refine ODH.go (B := (T9.setTop (mkF m 55 #[.val (.int (2 : Int32)), .val (.int x1), .val (.int x2), .val (.int x3)] [(.ref b5), (.ref b1), (.ref b1)]))) st9 ?_
  have ch10 := ch8.trans (CHr.wr W9 (own_safeArv hZ.alike V7 (by decide)) ch8.1)
  have K11 : Arv Z h9 b5 k5 .char (2 : Int32) (([x1, x2] : List Int32).map Value.int) (.int (0 : Int32)) := V9
  have f12 := (((A1.ext E5).wr W7).wr W9)
  have f13 := (((Fn3.ext E5).other W7 (Or.inl (Nat.ne_of_lt (Nat.lt_of_lt_of_le A1.lt (Nat.le_of_eq g5.symm))))).other W9 (Or.inl (Nat.ne_of_lt (Nat.lt_of_lt_of_le A1.lt (Nat.le_of_eq g5.symm)))))
  have f14 := (((Fn2.ext E5).other W7 (Or.inl (Nat.ne_of_lt (Nat.lt_of_lt_of_le A1.lt (Nat.le_of_eq g5.symm))))).other W9 (Or.inl (Nat.ne_of_lt (Nat.lt_of_lt_of_le A1.lt (Nat.le_of_eq g5.symm)))))
  obtain ⟨_, _, ⟨T15, L15, k15, n15⟩, -, X15, ⟨Lc15, hQ15, l15, y15, z15⟩, st15⟩ := X9.specialBack hx (y := (⟨"java/lang/String", "<init>", "([C)V"⟩ : MethodName)) rfl hown (mvT hZ (Wd8 hw)) (mvT hZ (Wd9 hw)) (mvT hZ (Wd10 hw)) (by decide) (StrChars.Road.backV (W := 1) hZ hws (kI := 4) (Wd5 hw) (cs := ([x1, x2] : List Int32)) (bs := ([x1, x2] : List Int32).map (fun c => c.toInt8.toInt32)) (n := 2) (n0 := n0) (Nat.le_trans Z0 (Nat.le_of_eq g1.symm)) (Nat.le_trans (Nat.le_trans (Nat.le_trans (Nat.le_trans Z0 E1.1) E5.1) (Keep.of_wr W7).1) (Keep.of_wr W9).1) f12 f13 f14 K11 (O2.ext ((((X00.ext E1).ext E5).wr W7 (Nat.le_trans (Nat.le_trans Z0 E1.1) (Nat.le_of_eq g5.symm))).wr W9 (Nat.le_trans (Nat.le_trans Z0 E1.1) (Nat.le_of_eq g5.symm))).2) P5 rfl rfl (by decide) (by decide) (own_all2 r1 r2) rfl (by decide) (by decide)) (g := (mkF m 55 #[.val (.int (2 : Int32)), .val (.int x1), .val (.int x2), .val (.int x3)] [(.ref b5), (.ref b1), (.ref b1)])) rfl (by rw [hml]; rfl) (Steps.refl _) (a := b1) (argsL := [(.ref b5)]) (rest := [(.ref b1)]) (lenOf pd8 rfl) rfl (by show 2 * 0 + _ ≤ _; exact Nat.le_of_eq rfl) (hb hby d1_55) (fun _ _ => ⟨rfl, e9, (Nat.le_of_ble_eq_true rfl), (Nat.le_of_ble_eq_true rfl)⟩)
  dsimp only [Pt.U, Pt.locs, Pt.cells, Pt.slots] at X15 l15 y15 z15 st15 hQ15
  subst l15 y15 z15
  obtain ⟨rfl, Nq15, K15, E15, C15, t15, kb15, gt15, ht15, nt15, V15, A15⟩ := hQ15
  have N15 := Fr.app N9 Nq15
  have nt15_b5 : b5 ≠ t15 := Nat.ne_of_lt (Nat.lt_of_lt_of_le (Nat.lt_of_lt_of_le (Nat.lt_of_lt_of_le V5.lt (Keep.of_wr W7).1) (Keep.of_wr W9).1) ht15)
  refine ODH.via (B := (T15.setTop (mkF m 58 #[.val (.int (2 : Int32)), .val (.int x1), .val (.int x2), .val (.int x3)] [(.ref b1)]))) st15 ?_
  have ch16 := ch10.trans (CHr.keep K15 (fun x hx => by simp only [List.mem_cons, List.not_mem_nil, or_false] at hx; rcases hx with rfl <;> first | exact (own_safeNull hZ.alike (((A1.ext E5).wr W7).wr W9) (((Fn3.ext E5).other W7 (Or.inl (Nat.ne_of_lt (Nat.lt_of_lt_of_le A1.lt (Nat.le_of_eq g5.symm))))).other W9 (Or.inl (Nat.ne_of_lt (Nat.lt_of_lt_of_le A1.lt (Nat.le_of_eq g5.symm))))))) ch10.1)
  exact ODH.ret X15 hx hlk hS0 (Nat.le_trans (Nat.le_trans (Nat.le_trans (Nat.le_trans (Nat.le_trans hk0 E1.1) E5.1) (Keep.of_wr W7).1) (Keep.of_wr W9).1) K15.1) (ch16.trans (CHv.at X15 hZ (EL_in hw) ch16.1)) (t := (.object "java/lang/String")) Bd.returns rfl (Or.inr (Or.inr (Or.inr (Or.inr ⟨rfl, rfl, rfl⟩)))) (hb hby d1_58) (Nat.le_of_ble_eq_true rfl) (Nat.le_of_ble_eq_true rfl) ⟨_, _, _, rfl, N15, by exact ((((((Keep.refl h0 []).ext E1).ext E5).wr W7 (Or.inr (Nat.le_trans (Nat.le_trans (Nat.le_refl _) E1.1) (Nat.le_of_eq g5.symm)))).wr W9 (Or.inr (Nat.le_trans (Nat.le_trans (Nat.le_refl _) E1.1) (Nat.le_of_eq g5.symm)))).trans K15 (allS (Or.inr (Nat.le_trans (Nat.le_refl _) (Nat.le_of_eq g1.symm))) all0)), nt15, by exact E15, by exact C15, by exact V15, by exact A15⟩
def Q_rmKO3 (Z : State) (x1 : Int32) (x2 : Int32) (x3 : Int32) (h0 : Heap) (n0 : Nat) (v : Option Value) (h : Heap) (L : List Loc) : Prop := ∃ (b t : Addr) (k : ClassId), v = some (.ref b) ∧ Fr n0 L ∧ Keep h0 h [] ∧ t ≠ b ∧ Exa Z h b "java/lang/String" ∧ Fld Z h b "java/lang/String" "coder" "B" (.int (0 : Int32)) ∧ Fld Z h b "java/lang/String" "value" "[B" (.ref t) ∧ Arv Z h t k .byte (3 : Int32) [(.int x1.toInt8.toInt32), (.int x2.toInt8.toInt32), (.int x3.toInt8.toInt32)] (.int 0)
set_option maxRecDepth 65536 in
set_option maxHeartbeats 40000000 in
theorem rmKO3 (l : Launch) (Z : State) (a0 : Array Value) (hw : ∀ d ∈ tables_1, d.before a0 Z = true) (ws : List Jvm.Cond) (x1 : Int32) (x2 : Int32) (x3 : Int32) (h0 : Heap) (n0 : Nat) (Z0 : n0 ≤ h0.size) (X00 : Old Z n0 h0) (r1 : ¬ x1 < 0 ∧ ¬ (255 : Int32) < x1) (r2 : ¬ x2 < 0 ∧ ¬ (255 : Int32) < x2) (r3 : ¬ x3 < 0 ∧ ¬ (255 : Int32) < x3) (zc : Int32) (O2 : Sta Z Z.heap "java/lang/String" "COMPACT_STRINGS" "Z" (.int zc)) (P5 : ¬ zc = 0) :
    MetFree l (⟨"com/example/triad/triad/rest/PercentEncodingIsKeptPinLaw", "keptOf", "(ICCC)Ljava/lang/String;"⟩ : MethodName) (head1 (Jvm.Cond.code (⟨"com/example/triad/triad/rest/PercentEncodingIsKeptPinLaw", "keptOf", "(ICCC)Ljava/lang/String;"⟩ : MethodName) method_3_code 4 (some (.object "java/lang/String")) :: ws) ({ frames := 5, cells := 8, slots := 64, locals := 120 } : Room)) (fun a U => a = #[(.int (3 : Int32)), (.int x1), (.int x2), (.int x3)] ∧ Z.Warmed39 U.vm ∧ U.heap = h0 ∧ CHv Z own_EL U.vm h0) (fun _ _ _ _ _ => True) (fun _ U o U' => ∃ v L, o = .returned v ∧ Q_rmKO3 Z x1 x2 x3 h0 n0 v U'.heap L ∧ CHr Z own_EL U.vm U.heap U'.vm U'.heap ∧ ReturnedEndW U o U' L ({ frames := 5, cells := 8, slots := 64, locals := 120 } : Room).cells ({ frames := 5, cells := 8, slots := 64, locals := 120 } : Room).slots) := by
  refine MetFree.of_bodySF (plainFor_of_name pn3) hisR ?_
  intro p e s m args below meth c s₁ Bd hml0 hP hK
  obtain ⟨rfl, hZ, hh, hH0⟩ := hP
  have hx := Bd.exec
  have hby := Bd.bytes
  have hlk : meth.locks = false := Bd.notSynchronized
  have hml : c.maxLocals = 4 := hml0
  have hown : s.vm.findClass "com/example/triad/triad/rest/PercentEncodingIsKeptPinLaw" = some m.cls := findClass_of_methodNamed Bd.named
  have hnm := (name_of_methodNamed Bd.named Bd.method).1
  have X0 : Stand p l e ({ frames := 5, cells := 8, slots := 64, locals := 120 } : Room) s m #[(.int (3 : Int32)), (.int x1), (.int x2), (.int x3)] below meth c s₁ [] 0 0 := Stand.of_body Bd
  have e0 : s₁.heap = h0 := by rw [← hh, Bd.state]; rfl
  have hS0 : s.Since s.vm s.heap.size := (State.WarmedH.refl s).since _
  have hk0 : s.heap.size ≤ h0.size := Nat.le_of_eq (by rw [hh])
  have X0 : Stand p l e ({ frames := 5, cells := 8, slots := 64, locals := 120 } : Room) (s.setVm s.vm) m #[(.int (3 : Int32)), (.int x1), (.int x2), (.int x3)] below meth c s₁ [] 0 0 := X0
  have hZ : Z.Warmed39 (s.setVm s.vm).vm := hZ
  have hown : (s.setVm s.vm).vm.findClass "com/example/triad/triad/rest/PercentEncodingIsKeptPinLaw" = some m.cls := hown
  have ch0 : CHr Z own_EL s.vm s.heap s.vm h0 := by have q := CHr.refl hH0; rw [← hh] at q ⊢; exact q
  have N0 := Fr.nil n0
  have hws : ∀ d ∈ StrChars.Road.words, d.before a0 Z = true := fun d hd => hw d ((by decide +kernel : ∀ d ∈ StrChars.Road.words, d ∈ tables_1) d hd)
  suffices hgo : ODH Z own_EL p e s below (Q_rmKO3 Z x1 x2 x3 h0 n0) ({ frames := 5, cells := 8, slots := 64, locals := 120 } : Room).cells ({ frames := 5, cells := 8, slots := 64, locals := 120 } : Room).slots (s₁.setTop (mkF m 0 #[.val (.int (3 : Int32)), .val (.int x1), .val (.int x2), .val (.int x3)] [])) by
    obtain ⟨s₂, o, hgo1, hgo2⟩ := hgo
    exact ⟨s₂, o, castTop (ef11 m (3 : Int32) x1 x2 x3) hgo1, hgo2⟩
  refine ODH.go (B := (s₁.setTop (mkF m 1 #[.val (.int (3 : Int32)), .val (.int x1), .val (.int x2), .val (.int x3)] [(.int (3 : Int32))]))) (fun t k => XS.iloadN X0.here hx rfl (hb hby d1_0) rfl k) ?_
  refine ODH.go (B := (s₁.setTop (mkF m 15 #[.val (.int (3 : Int32)), .val (.int x1), .val (.int x2), .val (.int x3)] []))) (fun t k => XS.ifYes X0.here hx rfl (pc0 := 1) (pc' := 15) rfl (hb hby d1_1) rfl (by rw [if0]; exact (feq (by decide : ¬ (3 : Int32) = (0 : Int32))).2) (by decide) (by decide) k) ?_
  refine ODH.go (B := (s₁.setTop (mkF m 16 #[.val (.int (3 : Int32)), .val (.int x1), .val (.int x2), .val (.int x3)] [(.int (3 : Int32))]))) (fun t k => XS.iloadN X0.here hx rfl (hb hby d1_15) rfl k) ?_
  refine ODH.go (B := (s₁.setTop (mkF m 17 #[.val (.int (3 : Int32)), .val (.int x1), .val (.int x2), .val (.int x3)] [(.int (1 : Int32)), (.int (3 : Int32))]))) (fun t k => XS.iconst X0.here hx rfl (hb hby d1_16) k) ?_
  refine ODH.go (B := (s₁.setTop (mkF m 35 #[.val (.int (3 : Int32)), .val (.int x1), .val (.int x2), .val (.int x3)] []))) (fun t k => XS.icmpYes X0.here hx rfl (pc0 := 17) (pc' := 35) rfl (hb hby d1_17) rfl (feq (by decide : ¬ (3 : Int32) = (1 : Int32))).2 (by decide) (by decide) k) ?_
  refine ODH.go (B := (s₁.setTop (mkF m 36 #[.val (.int (3 : Int32)), .val (.int x1), .val (.int x2), .val (.int x3)] [(.int (3 : Int32))]))) (fun t k => XS.iloadN X0.here hx rfl (hb hby d1_35) rfl k) ?_
  refine ODH.go (B := (s₁.setTop (mkF m 37 #[.val (.int (3 : Int32)), .val (.int x1), .val (.int x2), .val (.int x3)] [(.int (2 : Int32)), (.int (3 : Int32))]))) (fun t k => XS.iconst X0.here hx rfl (hb hby d1_36) k) ?_
  refine ODH.go (B := (s₁.setTop (mkF m 59 #[.val (.int (3 : Int32)), .val (.int x1), .val (.int x2), .val (.int x3)] []))) (fun t k => XS.icmpYes X0.here hx rfl (pc0 := 37) (pc' := 59) rfl (hb hby d1_37) rfl (feq (by decide : ¬ (3 : Int32) = (2 : Int32))).2 (by decide) (by decide) k) ?_
  obtain ⟨T1, h1, X1, e1, E1, A1, D1, -, st1⟩ := newO X0 hx hZ hown (Wd4 hw) (Wd5 hw) (Wd6 hw) e0 (g := (mkF m 59 #[.val (.int (3 : Int32)), .val (.int x1), .val (.int x2), .val (.int x3)] [])) rfl (hb hby d1_59) (Nat.le_of_ble_eq_true rfl) (Nat.le_of_ble_eq_true rfl)
  obtain ⟨b1, g1⟩ : ∃ z, z = h0.size := ⟨_, rfl⟩
  rw [← g1] at A1 D1 st1
  have Fn2 : Fld Z h1 b1 "java/lang/String" "coder" "B" (.int (0 : Int32)) := D1 (Or.inr (Wd31 hw)) (ty := .byte) (by decide)
  have Fn3 : Fld Z h1 b1 "java/lang/String" "value" "[B" .null := D1 (Or.inr (Wd33 hw)) (ty := (.array .byte)) (by decide)
  refine ODH.go (B := (T1.setTop (mkF m 62 #[.val (.int (3 : Int32)), .val (.int x1), .val (.int x2), .val (.int x3)] [(.ref b1)]))) st1 ?_
  have ch4 := ch0.trans (CHr.ext E1 ch0.1)
  refine ODH.go (B := (T1.setTop (mkF m 63 #[.val (.int (3 : Int32)), .val (.int x1), .val (.int x2), .val (.int x3)] [(.ref b1), (.ref b1)]))) (fun t k => XS.dup X1.here hx rfl (hb hby d1_62) rfl rfl k) ?_
  refine ODH.go (B := (T1.setTop (mkF m 64 #[.val (.int (3 : Int32)), .val (.int x1), .val (.int x2), .val (.int x3)] [(.int (3 : Int32)), (.ref b1), (.ref b1)]))) (fun t k => XS.iconst X1.here hx rfl (hb hby d1_63) k) ?_
  obtain ⟨T5, h5, k5, X5, e5, E5, A5, st5⟩ := newP X1 hx hZ (aty := .char) (Wd7 hw) e1 (g := (mkF m 64 #[.val (.int (3 : Int32)), .val (.int x1), .val (.int x2), .val (.int x3)] [(.int (3 : Int32)), (.ref b1), (.ref b1)])) rfl (hb hby d1_64) rfl (by decide) (cap := 3) (by decide) (by decide) (Nat.le_of_ble_eq_true rfl) (Nat.le_of_ble_eq_true rfl)
  obtain ⟨b5, g5⟩ : ∃ z, z = h1.size := ⟨_, rfl⟩
  rw [← g5] at A5 st5
  have V5 : Arv Z h5 b5 k5 .char (3 : Int32) [(.int (0 : Int32)), (.int (0 : Int32)), (.int (0 : Int32))] (.int (0 : Int32)) := (Arv.new A5 (by decide)).pad (pad_rep [] (.int (0 : Int32)) 3)
  refine ODH.go (B := (T5.setTop (mkF m 66 #[.val (.int (3 : Int32)), .val (.int x1), .val (.int x2), .val (.int x3)] [(.ref b5), (.ref b1), (.ref b1)]))) st5 ?_
  have ch6 := ch4.trans (CHr.ext E5 ch4.1)
  refine ODH.go (B := (T5.setTop (mkF m 67 #[.val (.int (3 : Int32)), .val (.int x1), .val (.int x2), .val (.int x3)] [(.ref b5), (.ref b5), (.ref b1), (.ref b1)]))) (fun t k => XS.dup X5.here hx rfl (hb hby d1_66) rfl rfl k) ?_
  refine ODH.go (B := (T5.setTop (mkF m 68 #[.val (.int (3 : Int32)), .val (.int x1), .val (.int x2), .val (.int x3)] [(.int (0 : Int32)), (.ref b5), (.ref b5), (.ref b1), (.ref b1)]))) (fun t k => XS.iconst X5.here hx rfl (hb hby d1_67) k) ?_
  refine ODH.go (B := (T5.setTop (mkF m 69 #[.val (.int (3 : Int32)), .val (.int x1), .val (.int x2), .val (.int x3)] [(.int x1), (.int (0 : Int32)), (.ref b5), (.ref b5), (.ref b1), (.ref b1)]))) (fun t k => XS.iloadN X5.here hx rfl (hb hby d1_68) rfl k) ?_
  obtain ⟨cl7, Ar7, q7, S7, M7, H7, G7⟩ := id V5
  obtain ⟨T7, h7, X7, e7, W7, st7⟩ := stC X5 hx hZ e5 Ar7 (j := (0 : Int32)) (inb_of S7 ⟨by decide, by decide⟩) (g := (mkF m 69 #[.val (.int (3 : Int32)), .val (.int x1), .val (.int x2), .val (.int x3)] [(.int x1), (.int (0 : Int32)), (.ref b5), (.ref b5), (.ref b1), (.ref b1)])) rfl rfl (hb hby d1_69)
  rw [(own_nar r1)] at W7
  have V7 : Arv Z h7 b5 k5 .char (3 : Int32) [(.int x1), (.int (0 : Int32)), (.int (0 : Int32))] (.int (0 : Int32)) := Arv.set Ar7 q7 S7 M7 H7 G7 ((own_nar r1) ▸ fits_nar_char _) W7 0 rfl (Nat.le_of_ble_eq_true rfl)
  have N7 := Fr.snoc X7 N0 (Nat.le_trans (Nat.le_trans Z0 E1.1) (Nat.le_of_eq g5.symm))
  refine ODH.go (B := (T7.setTop (mkF m 70 #[.val (.int (3 : Int32)), .val (.int x1), .val (.int x2), .val (.int x3)] [(.ref b5), (.ref b1), (.ref b1)]))) st7 ?_
  have ch8 := ch6.trans (CHr.wr W7 (own_safeArv hZ.alike V5 (by decide)) ch6.1)
  refine ODH.go (B := (T7.setTop (mkF m 71 #[.val (.int (3 : Int32)), .val (.int x1), .val (.int x2), .val (.int x3)] [(.ref b5), (.ref b5), (.ref b1), (.ref b1)]))) (fun t k => XS.dup X7.here hx rfl (hb hby d1_70) rfl rfl k) ?_
  refine ODH.go (B := (T7.setTop (mkF m 72 #[.val (.int (3 : Int32)), .val (.int x1), .val (.int x2), .val (.int x3)] [(.int (1 : Int32)), (.ref b5), (.ref b5), (.ref b1), (.ref b1)]))) (fun t k => XS.iconst X7.here hx rfl (hb hby d1_71) k) ?_
  refine ODH.go (B := (T7.setTop (mkF m 73 #[.val (.int (3 : Int32)), .val (.int x1), .val (.int x2), .val (.int x3)] [(.int x2), (.int (1 : Int32)), (.ref b5), (.ref b5), (.ref b1), (.ref b1)]))) (fun t k => XS.iloadN X7.here hx rfl (hb hby d1_72) rfl k) ?_
  obtain ⟨cl9, Ar9, q9, S9, M9, H9, G9⟩ := id V7
  obtain ⟨T9, h9, X9, e9, W9, st9⟩ := stC X7 hx hZ e7 Ar9 (j := (1 : Int32)) (inb_of S9 ⟨by decide, by decide⟩) (g := (mkF m 73 #[.val (.int (3 : Int32)), .val (.int x1), .val (.int x2), .val (.int x3)] [(.int x2), (.int (1 : Int32)), (.ref b5), (.ref b5), (.ref b1), (.ref b1)])) rfl rfl (hb hby d1_73)
  rw [(own_nar r2)] at W9
  have V9 : Arv Z h9 b5 k5 .char (3 : Int32) [(.int x1), (.int x2), (.int (0 : Int32))] (.int (0 : Int32)) := Arv.set Ar9 q9 S9 M9 H9 G9 ((own_nar r2) ▸ fits_nar_char _) W9 1 rfl (Nat.le_of_ble_eq_true rfl)
  have N9 := Fr.snoc X9 N7 (Nat.le_trans (Nat.le_trans Z0 E1.1) (Nat.le_of_eq g5.symm))
  refine ODH.go (B := (T9.setTop (mkF m 74 #[.val (.int (3 : Int32)), .val (.int x1), .val (.int x2), .val (.int x3)] [(.ref b5), (.ref b1), (.ref b1)]))) st9 ?_
  have ch10 := ch8.trans (CHr.wr W9 (own_safeArv hZ.alike V7 (by decide)) ch8.1)
  refine ODH.go (B := (T9.setTop (mkF m 75 #[.val (.int (3 : Int32)), .val (.int x1), .val (.int x2), .val (.int x3)] [(.ref b5), (.ref b5), (.ref b1), (.ref b1)]))) (fun t k => XS.dup X9.here hx rfl (hb hby d1_74) rfl rfl k) ?_
  refine ODH.go (B := (T9.setTop (mkF m 76 #[.val (.int (3 : Int32)), .val (.int x1), .val (.int x2), .val (.int x3)] [(.int (2 : Int32)), (.ref b5), (.ref b5), (.ref b1), (.ref b1)]))) (fun t k => XS.iconst X9.here hx rfl (hb hby d1_75) k) ?_
  refine ODH.go (B := (T9.setTop (mkF m 77 #[.val (.int (3 : Int32)), .val (.int x1), .val (.int x2), .val (.int x3)] [(.int x3), (.int (2 : Int32)), (.ref b5), (.ref b5), (.ref b1), (.ref b1)]))) (fun t k => XS.iloadN X9.here hx rfl (hb hby d1_76) rfl k) ?_
  obtain ⟨cl11, Ar11, q11, S11, M11, H11, G11⟩ := id V9
  obtain ⟨T11, h11, X11, e11, W11, st11⟩ := stC X9 hx hZ e9 Ar11 (j := (2 : Int32)) (inb_of S11 ⟨by decide, by decide⟩) (g := (mkF m 77 #[.val (.int (3 : Int32)), .val (.int x1), .val (.int x2), .val (.int x3)] [(.int x3), (.int (2 : Int32)), (.ref b5), (.ref b5), (.ref b1), (.ref b1)])) rfl rfl (hb hby d1_77)
  rw [(own_nar r3)] at W11
  have V11 : Arv Z h11 b5 k5 .char (3 : Int32) [(.int x1), (.int x2), (.int x3)] (.int (0 : Int32)) := Arv.set Ar11 q11 S11 M11 H11 G11 ((own_nar r3) ▸ fits_nar_char _) W11 2 rfl (Nat.le_of_ble_eq_true rfl)
  have N11 := Fr.snoc X11 N9 (Nat.le_trans (Nat.le_trans Z0 E1.1) (Nat.le_of_eq g5.symm))
  refine ODH.go (B := (T11.setTop (mkF m 78 #[.val (.int (3 : Int32)), .val (.int x1), .val (.int x2), .val (.int x3)] [(.ref b5), (.ref b1), (.ref b1)]))) st11 ?_
  have ch12 := ch10.trans (CHr.wr W11 (own_safeArv hZ.alike V9 (by decide)) ch10.1)
  have K13 : Arv Z h11 b5 k5 .char (3 : Int32) (([x1, x2, x3] : List Int32).map Value.int) (.int (0 : Int32)) := V11
  have f14 := ((((A1.ext E5).wr W7).wr W9).wr W11)
  have f15 := ((((Fn3.ext E5).other W7 (Or.inl (Nat.ne_of_lt (Nat.lt_of_lt_of_le A1.lt (Nat.le_of_eq g5.symm))))).other W9 (Or.inl (Nat.ne_of_lt (Nat.lt_of_lt_of_le A1.lt (Nat.le_of_eq g5.symm))))).other W11 (Or.inl (Nat.ne_of_lt (Nat.lt_of_lt_of_le A1.lt (Nat.le_of_eq g5.symm)))))
  have f16 := ((((Fn2.ext E5).other W7 (Or.inl (Nat.ne_of_lt (Nat.lt_of_lt_of_le A1.lt (Nat.le_of_eq g5.symm))))).other W9 (Or.inl (Nat.ne_of_lt (Nat.lt_of_lt_of_le A1.lt (Nat.le_of_eq g5.symm))))).other W11 (Or.inl (Nat.ne_of_lt (Nat.lt_of_lt_of_le A1.lt (Nat.le_of_eq g5.symm)))))
  obtain ⟨_, _, ⟨T17, L17, k17, n17⟩, -, X17, ⟨Lc17, hQ17, l17, y17, z17⟩, st17⟩ := X11.specialBack hx (y := (⟨"java/lang/String", "<init>", "([C)V"⟩ : MethodName)) rfl hown (mvT hZ (Wd8 hw)) (mvT hZ (Wd9 hw)) (mvT hZ (Wd10 hw)) (by decide) (StrChars.Road.backV (W := 1) hZ hws (kI := 4) (Wd5 hw) (cs := ([x1, x2, x3] : List Int32)) (bs := ([x1, x2, x3] : List Int32).map (fun c => c.toInt8.toInt32)) (n := 3) (n0 := n0) (Nat.le_trans Z0 (Nat.le_of_eq g1.symm)) (Nat.le_trans (Nat.le_trans (Nat.le_trans (Nat.le_trans (Nat.le_trans Z0 E1.1) E5.1) (Keep.of_wr W7).1) (Keep.of_wr W9).1) (Keep.of_wr W11).1) f14 f15 f16 K13 (O2.ext (((((X00.ext E1).ext E5).wr W7 (Nat.le_trans (Nat.le_trans Z0 E1.1) (Nat.le_of_eq g5.symm))).wr W9 (Nat.le_trans (Nat.le_trans Z0 E1.1) (Nat.le_of_eq g5.symm))).wr W11 (Nat.le_trans (Nat.le_trans Z0 E1.1) (Nat.le_of_eq g5.symm))).2) P5 rfl rfl (by decide) (by decide) (own_all3 r1 r2 r3) rfl (by decide) (by decide)) (g := (mkF m 78 #[.val (.int (3 : Int32)), .val (.int x1), .val (.int x2), .val (.int x3)] [(.ref b5), (.ref b1), (.ref b1)])) rfl (by rw [hml]; rfl) (Steps.refl _) (a := b1) (argsL := [(.ref b5)]) (rest := [(.ref b1)]) (lenOf pd8 rfl) rfl (by show 2 * 0 + _ ≤ _; exact Nat.le_of_eq rfl) (hb hby d1_78) (fun _ _ => ⟨rfl, e11, (Nat.le_of_ble_eq_true rfl), (Nat.le_of_ble_eq_true rfl)⟩)
  dsimp only [Pt.U, Pt.locs, Pt.cells, Pt.slots] at X17 l17 y17 z17 st17 hQ17
  subst l17 y17 z17
  obtain ⟨rfl, Nq17, K17, E17, C17, t17, kb17, gt17, ht17, nt17, V17, A17⟩ := hQ17
  have N17 := Fr.app N11 Nq17
  have nt17_b5 : b5 ≠ t17 := Nat.ne_of_lt (Nat.lt_of_lt_of_le (Nat.lt_of_lt_of_le (Nat.lt_of_lt_of_le (Nat.lt_of_lt_of_le V5.lt (Keep.of_wr W7).1) (Keep.of_wr W9).1) (Keep.of_wr W11).1) ht17)
  refine ODH.via (B := (T17.setTop (mkF m 81 #[.val (.int (3 : Int32)), .val (.int x1), .val (.int x2), .val (.int x3)] [(.ref b1)]))) st17 ?_
  have ch18 := ch12.trans (CHr.keep K17 (fun x hx => by simp only [List.mem_cons, List.not_mem_nil, or_false] at hx; rcases hx with rfl <;> first | exact (own_safeNull hZ.alike ((((A1.ext E5).wr W7).wr W9).wr W11) ((((Fn3.ext E5).other W7 (Or.inl (Nat.ne_of_lt (Nat.lt_of_lt_of_le A1.lt (Nat.le_of_eq g5.symm))))).other W9 (Or.inl (Nat.ne_of_lt (Nat.lt_of_lt_of_le A1.lt (Nat.le_of_eq g5.symm))))).other W11 (Or.inl (Nat.ne_of_lt (Nat.lt_of_lt_of_le A1.lt (Nat.le_of_eq g5.symm))))))) ch12.1)
  exact ODH.ret X17 hx hlk hS0 (Nat.le_trans (Nat.le_trans (Nat.le_trans (Nat.le_trans (Nat.le_trans (Nat.le_trans hk0 E1.1) E5.1) (Keep.of_wr W7).1) (Keep.of_wr W9).1) (Keep.of_wr W11).1) K17.1) (ch18.trans (CHv.at X17 hZ (EL_in hw) ch18.1)) (t := (.object "java/lang/String")) Bd.returns rfl (Or.inr (Or.inr (Or.inr (Or.inr ⟨rfl, rfl, rfl⟩)))) (hb hby d1_81) (Nat.le_of_ble_eq_true rfl) (Nat.le_of_ble_eq_true rfl) ⟨_, _, _, rfl, N17, by exact (((((((Keep.refl h0 []).ext E1).ext E5).wr W7 (Or.inr (Nat.le_trans (Nat.le_trans (Nat.le_refl _) E1.1) (Nat.le_of_eq g5.symm)))).wr W9 (Or.inr (Nat.le_trans (Nat.le_trans (Nat.le_refl _) E1.1) (Nat.le_of_eq g5.symm)))).wr W11 (Or.inr (Nat.le_trans (Nat.le_trans (Nat.le_refl _) E1.1) (Nat.le_of_eq g5.symm)))).trans K17 (allS (Or.inr (Nat.le_trans (Nat.le_refl _) (Nat.le_of_eq g1.symm))) all0)), nt17, by exact E17, by exact C17, by exact V17, by exact A17⟩
def Q_rm0 (Z : State) (p0 : Int32) (p1 : Int32) (p2 : Int32) (h0 : Heap) (v : Option Value) (h : Heap) (L : List Loc) : Prop := v = some (.int 1) ∧ Fr h0.size L
set_option maxRecDepth 65536 in
set_option maxHeartbeats 40000000 in
theorem rm0 (l : Launch) (Z : State) (a0 : Array Value) (hw : ∀ d ∈ tables_1, d.before a0 Z = true) (ws : List Jvm.Cond) (p0 : Int32) (p1 : Int32) (p2 : Int32) (h0 : Heap) (X00 : Old Z h0.size h0) (zc : Int32) (O2 : Sta Z Z.heap "java/lang/String" "COMPACT_STRINGS" "Z" (.int zc)) (P5 : ¬ zc = 0) :
    MetFree l x (head1 (Jvm.Cond.code x code maxLocals ret :: ws) room_1) (fun a U => a = #[(.int p0), (.int p1), (.int p2)] ∧ Z.Warmed39 U.vm ∧ U.heap = h0 ∧ CHv Z own_EL U.vm h0) (fun _ _ _ _ _ => True) (fun _ U o U' => ∃ v L, o = .returned v ∧ Q_rm0 Z p0 p1 p2 h0 v U'.heap L ∧ CHr Z own_EL U.vm U.heap U'.vm U'.heap ∧ ReturnedEndW U o U' L 24 2176) := by
  refine MetFree.of_bodySF (plainFor_of_name pn3) hisR ?_
  intro p e s m args below meth c s₁ Bd hml0 hP hK
  obtain ⟨rfl, hZ, hh, hH0⟩ := hP
  have hx := Bd.exec
  have hby := Bd.bytes
  have hlk : meth.locks = false := Bd.notSynchronized
  have hml : c.maxLocals = 14 := hml0
  have hown : s.vm.findClass "com/example/triad/triad/rest/PercentEncodingIsKeptPinLaw" = some m.cls := findClass_of_methodNamed Bd.named
  have hnm := (name_of_methodNamed Bd.named Bd.method).1
  have X0 : Stand p l e room_1 s m #[(.int p0), (.int p1), (.int p2)] below meth c s₁ [] 0 0 := Stand.of_body Bd
  have e0 : s₁.heap = h0 := by rw [← hh, Bd.state]; rfl
  have hS0 : s.Since s.vm s.heap.size := (State.WarmedH.refl s).since _
  have hk0 : s.heap.size ≤ h0.size := Nat.le_of_eq (by rw [hh])
  have X0 : Stand p l e room_1 (s.setVm s.vm) m #[(.int p0), (.int p1), (.int p2)] below meth c s₁ [] 0 0 := X0
  have hZ : Z.Warmed39 (s.setVm s.vm).vm := hZ
  have hown : (s.setVm s.vm).vm.findClass "com/example/triad/triad/rest/PercentEncodingIsKeptPinLaw" = some m.cls := hown
  have ch0 : CHr Z own_EL s.vm s.heap s.vm h0 := by have q := CHr.refl hH0; rw [← hh] at q ⊢; exact q
  have N0 := Fr.nil h0.size
  suffices hgo : ODH Z own_EL p e s below (Q_rm0 Z p0 p1 p2 h0) 24 2176 (s₁.setTop (mkF m 0 #[.val (.int p0), .val (.int p1), .val (.int p2), .unset, .unset, .unset, .unset, .unset, .unset, .unset, .unset, .unset, .unset, .unset] [])) by
    obtain ⟨s₂, o, hgo1, hgo2⟩ := hgo
    exact ⟨s₂, o, castTop (ef12 m p0 p1 p2) hgo1, hgo2⟩
  refine ODH.go (B := (s₁.setTop (mkF m 1 #[.val (.int p0), .val (.int p1), .val (.int p2), .unset, .unset, .unset, .unset, .unset, .unset, .unset, .unset, .unset, .unset, .unset] [(.int p1)]))) (fun t k => XS.iloadN X0.here hx rfl (hb hby at_0) rfl k) ?_
  refine ODH.go (B := (s₁.setTop (mkF m 2 #[.val (.int p0), .val (.int p1), .val (.int p2), .unset, .unset, .unset, .unset, .unset, .unset, .unset, .unset, .unset, .unset, .unset] [(.int (1 : Int32)), (.int p1)]))) (fun t k => XS.iconst X0.here hx rfl (hb hby at_1) k) ?_
  refine ODH.go (B := (s₁.setTop (mkF m 3 #[.val (.int p0), .val (.int p1), .val (.int p2), .unset, .unset, .unset, .unset, .unset, .unset, .unset, .unset, .unset, .unset, .unset] [(.int (p1 &&& (1 : Int32)))]))) (fun t k => XS.iand X0.here hx rfl (hb hby at_2) rfl k) ?_
  obtain ⟨v15_1, hv15_1⟩ : ∃ z : Int32, z = (if (p1 &&& (1 : Int32)) = (0 : Int32) then (p0 &&& (255 : Int32)) else p0) := ⟨_, rfl⟩
  refine ODH.cut (B := (s₁.setTop (mkF m 15 #[.val (.int p0), .val (.int p1), .val (.int p2), .unset, .unset, .unset, .unset, .unset, .unset, .unset, .unset, .unset, .unset, .unset] [(.int v15_1)]))) (fun J15_2 => ?_) ?_
  · skip
    by_cases c3_3 : (p1 &&& (1 : Int32)) = (0 : Int32)
    · refine ODH.go (B := (s₁.setTop (mkF m 10 #[.val (.int p0), .val (.int p1), .val (.int p2), .unset, .unset, .unset, .unset, .unset, .unset, .unset, .unset, .unset, .unset, .unset] []))) (fun t k => XS.ifYes X0.here hx rfl (pc0 := 3) (pc' := 10) rfl (hb hby at_3) rfl (by rw [if0]; exact (teq c3_3).1) (by decide) (by decide) k) ?_
      refine ODH.go (B := (s₁.setTop (mkF m 11 #[.val (.int p0), .val (.int p1), .val (.int p2), .unset, .unset, .unset, .unset, .unset, .unset, .unset, .unset, .unset, .unset, .unset] [(.int p0)]))) (fun t k => XS.iloadN X0.here hx rfl (hb hby at_10) rfl k) ?_
      refine ODH.go (B := (s₁.setTop (mkF m 14 #[.val (.int p0), .val (.int p1), .val (.int p2), .unset, .unset, .unset, .unset, .unset, .unset, .unset, .unset, .unset, .unset, .unset] [(.int (255 : Int32)), (.int p0)]))) (fun t k => XS.sipush X0.here hx rfl (hb hby at_11) k) ?_
      refine ODH.go (B := (s₁.setTop (mkF m 15 #[.val (.int p0), .val (.int p1), .val (.int p2), .unset, .unset, .unset, .unset, .unset, .unset, .unset, .unset, .unset, .unset, .unset] [(.int (p0 &&& (255 : Int32)))]))) (fun t k => XS.iand X0.here hx rfl (hb hby at_14) rfl k) ?_
      rw [if_pos c3_3] at hv15_1
      rw [hv15_1] at J15_2
      exact J15_2
    · refine ODH.go (B := (s₁.setTop (mkF m 6 #[.val (.int p0), .val (.int p1), .val (.int p2), .unset, .unset, .unset, .unset, .unset, .unset, .unset, .unset, .unset, .unset, .unset] []))) (fun t k => XS.ifNo X0.here hx rfl (hb hby at_3) rfl (by rw [if0]; exact (feq c3_3).1) k) ?_
      refine ODH.go (B := (s₁.setTop (mkF m 7 #[.val (.int p0), .val (.int p1), .val (.int p2), .unset, .unset, .unset, .unset, .unset, .unset, .unset, .unset, .unset, .unset, .unset] [(.int p0)]))) (fun t k => XS.iloadN X0.here hx rfl (hb hby at_6) rfl k) ?_
      refine ODH.go (B := (s₁.setTop (mkF m 15 #[.val (.int p0), .val (.int p1), .val (.int p2), .unset, .unset, .unset, .unset, .unset, .unset, .unset, .unset, .unset, .unset, .unset] [(.int p0)]))) (fun t k => XS.goto X0.here hx rfl (pc0 := 7) (pc' := 15) rfl (hb hby at_7) (by decide) (by decide) k) ?_
      rw [if_neg c3_3] at hv15_1
      rw [hv15_1] at J15_2
      exact J15_2
  refine ODH.go (B := (s₁.setTop (mkF m 16 #[.val (.int p0), .val (.int p1), .val (.int p2), .val (.int v15_1), .unset, .unset, .unset, .unset, .unset, .unset, .unset, .unset, .unset, .unset] []))) (fun t k => XS.istoreN X0.here hx rfl (hb hby at_15) rfl (l' := #[.val (.int p0), .val (.int p1), .val (.int p2), .val (.int v15_1), .unset, .unset, .unset, .unset, .unset, .unset, .unset, .unset, .unset, .unset]) rfl k) ?_
  refine ODH.go (B := (s₁.setTop (mkF m 17 #[.val (.int p0), .val (.int p1), .val (.int p2), .val (.int v15_1), .unset, .unset, .unset, .unset, .unset, .unset, .unset, .unset, .unset, .unset] [(.int p1)]))) (fun t k => XS.iloadN X0.here hx rfl (hb hby at_16) rfl k) ?_
  refine ODH.go (B := (s₁.setTop (mkF m 18 #[.val (.int p0), .val (.int p1), .val (.int p2), .val (.int v15_1), .unset, .unset, .unset, .unset, .unset, .unset, .unset, .unset, .unset, .unset] [(.int (1 : Int32)), (.int p1)]))) (fun t k => XS.iconst X0.here hx rfl (hb hby at_17) k) ?_
  refine ODH.go (B := (s₁.setTop (mkF m 19 #[.val (.int p0), .val (.int p1), .val (.int p2), .val (.int v15_1), .unset, .unset, .unset, .unset, .unset, .unset, .unset, .unset, .unset, .unset] [(.int ((p1.toUInt32 >>> ((1 : Int32) &&& 31).toUInt32).toInt32))]))) (fun t k => XS.iushr X0.here hx rfl (hb hby at_18) rfl k) ?_
  refine ODH.go (B := (s₁.setTop (mkF m 20 #[.val (.int p0), .val (.int p1), .val (.int p2), .val (.int v15_1), .unset, .unset, .unset, .unset, .unset, .unset, .unset, .unset, .unset, .unset] [(.int (4 : Int32)), (.int ((p1.toUInt32 >>> ((1 : Int32) &&& 31).toUInt32).toInt32))]))) (fun t k => XS.iconst X0.here hx rfl (hb hby at_19) k) ?_
  refine ODH.go (B := (s₁.setTop (mkF m 21 #[.val (.int p0), .val (.int p1), .val (.int p2), .val (.int v15_1), .unset, .unset, .unset, .unset, .unset, .unset, .unset, .unset, .unset, .unset] [(.int (((p1.toUInt32 >>> ((1 : Int32) &&& 31).toUInt32).toInt32) % (4 : Int32)))]))) (fun t k => iremM X0 hx rfl (hb hby at_20) rfl (by decide) k) ?_
  refine ODH.go (B := (s₁.setTop (mkF m 23 #[.val (.int p0), .val (.int p1), .val (.int p2), .val (.int v15_1), .val (.int (((p1.toUInt32 >>> ((1 : Int32) &&& 31).toUInt32).toInt32) % (4 : Int32))), .unset, .unset, .unset, .unset, .unset, .unset, .unset, .unset, .unset] []))) (fun t k => XS.istore X0.here hx rfl (hb hby at_21) rfl (l' := #[.val (.int p0), .val (.int p1), .val (.int p2), .val (.int v15_1), .val (.int (((p1.toUInt32 >>> ((1 : Int32) &&& 31).toUInt32).toInt32) % (4 : Int32))), .unset, .unset, .unset, .unset, .unset, .unset, .unset, .unset, .unset]) rfl k) ?_
  generalize hu21_4 : (((p1.toUInt32 >>> ((1 : Int32) &&& 31).toUInt32).toInt32) % (4 : Int32)) = u21_4
  refine ODH.go (B := (s₁.setTop (mkF m 24 #[.val (.int p0), .val (.int p1), .val (.int p2), .val (.int v15_1), .val (.int u21_4), .unset, .unset, .unset, .unset, .unset, .unset, .unset, .unset, .unset] [(.int p2)]))) (fun t k => XS.iloadN X0.here hx rfl (hb hby at_23) rfl k) ?_
  refine ODH.go (B := (s₁.setTop (mkF m 27 #[.val (.int p0), .val (.int p1), .val (.int p2), .val (.int v15_1), .val (.int u21_4), .unset, .unset, .unset, .unset, .unset, .unset, .unset, .unset, .unset] [(.int (255 : Int32)), (.int p2)]))) (fun t k => XS.sipush X0.here hx rfl (hb hby at_24) k) ?_
  refine ODH.go (B := (s₁.setTop (mkF m 28 #[.val (.int p0), .val (.int p1), .val (.int p2), .val (.int v15_1), .val (.int u21_4), .unset, .unset, .unset, .unset, .unset, .unset, .unset, .unset, .unset] [(.int (p2 &&& (255 : Int32)))]))) (fun t k => XS.iand X0.here hx rfl (hb hby at_27) rfl k) ?_
  refine ODH.go (B := (s₁.setTop (mkF m 29 #[.val (.int p0), .val (.int p1), .val (.int p2), .val (.int v15_1), .val (.int u21_4), .unset, .unset, .unset, .unset, .unset, .unset, .unset, .unset, .unset] [(.int (p2 &&& (255 : Int32)).toUInt32.toUInt16.toUInt32.toInt32)]))) (fun t k => XS.i2c X0.here hx rfl (hb hby at_28) rfl k) ?_
  refine ODH.go (B := (s₁.setTop (mkF m 31 #[.val (.int p0), .val (.int p1), .val (.int p2), .val (.int v15_1), .val (.int u21_4), .val (.int (p2 &&& (255 : Int32)).toUInt32.toUInt16.toUInt32.toInt32), .unset, .unset, .unset, .unset, .unset, .unset, .unset, .unset] []))) (fun t k => XS.istore X0.here hx rfl (hb hby at_29) rfl (l' := #[.val (.int p0), .val (.int p1), .val (.int p2), .val (.int v15_1), .val (.int u21_4), .val (.int (p2 &&& (255 : Int32)).toUInt32.toUInt16.toUInt32.toInt32), .unset, .unset, .unset, .unset, .unset, .unset, .unset, .unset]) rfl k) ?_
  generalize hu29_5 : (p2 &&& (255 : Int32)).toUInt32.toUInt16.toUInt32.toInt32 = u29_5
  refine ODH.go (B := (s₁.setTop (mkF m 32 #[.val (.int p0), .val (.int p1), .val (.int p2), .val (.int v15_1), .val (.int u21_4), .val (.int u29_5), .unset, .unset, .unset, .unset, .unset, .unset, .unset, .unset] [(.int p2)]))) (fun t k => XS.iloadN X0.here hx rfl (hb hby at_31) rfl k) ?_
  refine ODH.go (B := (s₁.setTop (mkF m 34 #[.val (.int p0), .val (.int p1), .val (.int p2), .val (.int v15_1), .val (.int u21_4), .val (.int u29_5), .unset, .unset, .unset, .unset, .unset, .unset, .unset, .unset] [(.int (8 : Int32)), (.int p2)]))) (fun t k => XS.bipush X0.here hx rfl (hb hby at_32) k) ?_
  refine ODH.go (B := (s₁.setTop (mkF m 35 #[.val (.int p0), .val (.int p1), .val (.int p2), .val (.int v15_1), .val (.int u21_4), .val (.int u29_5), .unset, .unset, .unset, .unset, .unset, .unset, .unset, .unset] [(.int ((p2.toUInt32 >>> ((8 : Int32) &&& 31).toUInt32).toInt32))]))) (fun t k => XS.iushr X0.here hx rfl (hb hby at_34) rfl k) ?_
  refine ODH.go (B := (s₁.setTop (mkF m 38 #[.val (.int p0), .val (.int p1), .val (.int p2), .val (.int v15_1), .val (.int u21_4), .val (.int u29_5), .unset, .unset, .unset, .unset, .unset, .unset, .unset, .unset] [(.int (255 : Int32)), (.int ((p2.toUInt32 >>> ((8 : Int32) &&& 31).toUInt32).toInt32))]))) (fun t k => XS.sipush X0.here hx rfl (hb hby at_35) k) ?_
  refine ODH.go (B := (s₁.setTop (mkF m 39 #[.val (.int p0), .val (.int p1), .val (.int p2), .val (.int v15_1), .val (.int u21_4), .val (.int u29_5), .unset, .unset, .unset, .unset, .unset, .unset, .unset, .unset] [(.int (((p2.toUInt32 >>> ((8 : Int32) &&& 31).toUInt32).toInt32) &&& (255 : Int32)))]))) (fun t k => XS.iand X0.here hx rfl (hb hby at_38) rfl k) ?_
  refine ODH.go (B := (s₁.setTop (mkF m 40 #[.val (.int p0), .val (.int p1), .val (.int p2), .val (.int v15_1), .val (.int u21_4), .val (.int u29_5), .unset, .unset, .unset, .unset, .unset, .unset, .unset, .unset] [(.int (((p2.toUInt32 >>> ((8 : Int32) &&& 31).toUInt32).toInt32) &&& (255 : Int32)).toUInt32.toUInt16.toUInt32.toInt32)]))) (fun t k => XS.i2c X0.here hx rfl (hb hby at_39) rfl k) ?_
  refine ODH.go (B := (s₁.setTop (mkF m 42 #[.val (.int p0), .val (.int p1), .val (.int p2), .val (.int v15_1), .val (.int u21_4), .val (.int u29_5), .val (.int (((p2.toUInt32 >>> ((8 : Int32) &&& 31).toUInt32).toInt32) &&& (255 : Int32)).toUInt32.toUInt16.toUInt32.toInt32), .unset, .unset, .unset, .unset, .unset, .unset, .unset] []))) (fun t k => XS.istore X0.here hx rfl (hb hby at_40) rfl (l' := #[.val (.int p0), .val (.int p1), .val (.int p2), .val (.int v15_1), .val (.int u21_4), .val (.int u29_5), .val (.int (((p2.toUInt32 >>> ((8 : Int32) &&& 31).toUInt32).toInt32) &&& (255 : Int32)).toUInt32.toUInt16.toUInt32.toInt32), .unset, .unset, .unset, .unset, .unset, .unset, .unset]) rfl k) ?_
  generalize hu40_6 : (((p2.toUInt32 >>> ((8 : Int32) &&& 31).toUInt32).toInt32) &&& (255 : Int32)).toUInt32.toUInt16.toUInt32.toInt32 = u40_6
  refine ODH.go (B := (s₁.setTop (mkF m 43 #[.val (.int p0), .val (.int p1), .val (.int p2), .val (.int v15_1), .val (.int u21_4), .val (.int u29_5), .val (.int u40_6), .unset, .unset, .unset, .unset, .unset, .unset, .unset] [(.int p2)]))) (fun t k => XS.iloadN X0.here hx rfl (hb hby at_42) rfl k) ?_
  refine ODH.go (B := (s₁.setTop (mkF m 45 #[.val (.int p0), .val (.int p1), .val (.int p2), .val (.int v15_1), .val (.int u21_4), .val (.int u29_5), .val (.int u40_6), .unset, .unset, .unset, .unset, .unset, .unset, .unset] [(.int (16 : Int32)), (.int p2)]))) (fun t k => XS.bipush X0.here hx rfl (hb hby at_43) k) ?_
  refine ODH.go (B := (s₁.setTop (mkF m 46 #[.val (.int p0), .val (.int p1), .val (.int p2), .val (.int v15_1), .val (.int u21_4), .val (.int u29_5), .val (.int u40_6), .unset, .unset, .unset, .unset, .unset, .unset, .unset] [(.int ((p2.toUInt32 >>> ((16 : Int32) &&& 31).toUInt32).toInt32))]))) (fun t k => XS.iushr X0.here hx rfl (hb hby at_45) rfl k) ?_
  refine ODH.go (B := (s₁.setTop (mkF m 49 #[.val (.int p0), .val (.int p1), .val (.int p2), .val (.int v15_1), .val (.int u21_4), .val (.int u29_5), .val (.int u40_6), .unset, .unset, .unset, .unset, .unset, .unset, .unset] [(.int (255 : Int32)), (.int ((p2.toUInt32 >>> ((16 : Int32) &&& 31).toUInt32).toInt32))]))) (fun t k => XS.sipush X0.here hx rfl (hb hby at_46) k) ?_
  refine ODH.go (B := (s₁.setTop (mkF m 50 #[.val (.int p0), .val (.int p1), .val (.int p2), .val (.int v15_1), .val (.int u21_4), .val (.int u29_5), .val (.int u40_6), .unset, .unset, .unset, .unset, .unset, .unset, .unset] [(.int (((p2.toUInt32 >>> ((16 : Int32) &&& 31).toUInt32).toInt32) &&& (255 : Int32)))]))) (fun t k => XS.iand X0.here hx rfl (hb hby at_49) rfl k) ?_
  refine ODH.go (B := (s₁.setTop (mkF m 51 #[.val (.int p0), .val (.int p1), .val (.int p2), .val (.int v15_1), .val (.int u21_4), .val (.int u29_5), .val (.int u40_6), .unset, .unset, .unset, .unset, .unset, .unset, .unset] [(.int (((p2.toUInt32 >>> ((16 : Int32) &&& 31).toUInt32).toInt32) &&& (255 : Int32)).toUInt32.toUInt16.toUInt32.toInt32)]))) (fun t k => XS.i2c X0.here hx rfl (hb hby at_50) rfl k) ?_
  refine ODH.go (B := (s₁.setTop (mkF m 53 #[.val (.int p0), .val (.int p1), .val (.int p2), .val (.int v15_1), .val (.int u21_4), .val (.int u29_5), .val (.int u40_6), .val (.int (((p2.toUInt32 >>> ((16 : Int32) &&& 31).toUInt32).toInt32) &&& (255 : Int32)).toUInt32.toUInt16.toUInt32.toInt32), .unset, .unset, .unset, .unset, .unset, .unset] []))) (fun t k => XS.istore X0.here hx rfl (hb hby at_51) rfl (l' := #[.val (.int p0), .val (.int p1), .val (.int p2), .val (.int v15_1), .val (.int u21_4), .val (.int u29_5), .val (.int u40_6), .val (.int (((p2.toUInt32 >>> ((16 : Int32) &&& 31).toUInt32).toInt32) &&& (255 : Int32)).toUInt32.toUInt16.toUInt32.toInt32), .unset, .unset, .unset, .unset, .unset, .unset]) rfl k) ?_
  generalize hu51_7 : (((p2.toUInt32 >>> ((16 : Int32) &&& 31).toUInt32).toInt32) &&& (255 : Int32)).toUInt32.toUInt16.toUInt32.toInt32 = u51_7
  have r0 := own_c255 hu29_5
  have r1 := own_c255 hu40_6
  have r2 := own_c255 hu51_7
  rcases own_m4 hu21_4 with q53 | q53 | q53 | q53
  · subst q53
    refine ODH.go (B := (s₁.setTop (mkF m 55 #[.val (.int p0), .val (.int p1), .val (.int p2), .val (.int v15_1), .val (.int (0 : Int32)), .val (.int u29_5), .val (.int u40_6), .val (.int u51_7), .unset, .unset, .unset, .unset, .unset, .unset] [(.int (0 : Int32))]))) (fun t k => XS.iload X0.here hx rfl (hb hby at_53) rfl k) ?_
    refine ODH.go (B := (s₁.setTop (mkF m 57 #[.val (.int p0), .val (.int p1), .val (.int p2), .val (.int v15_1), .val (.int (0 : Int32)), .val (.int u29_5), .val (.int u40_6), .val (.int u51_7), .unset, .unset, .unset, .unset, .unset, .unset] [(.int u29_5), (.int (0 : Int32))]))) (fun t k => XS.iload X0.here hx rfl (hb hby at_55) rfl k) ?_
    refine ODH.go (B := (s₁.setTop (mkF m 59 #[.val (.int p0), .val (.int p1), .val (.int p2), .val (.int v15_1), .val (.int (0 : Int32)), .val (.int u29_5), .val (.int u40_6), .val (.int u51_7), .unset, .unset, .unset, .unset, .unset, .unset] [(.int u40_6), (.int u29_5), (.int (0 : Int32))]))) (fun t k => XS.iload X0.here hx rfl (hb hby at_57) rfl k) ?_
    refine ODH.go (B := (s₁.setTop (mkF m 61 #[.val (.int p0), .val (.int p1), .val (.int p2), .val (.int v15_1), .val (.int (0 : Int32)), .val (.int u29_5), .val (.int u40_6), .val (.int u51_7), .unset, .unset, .unset, .unset, .unset, .unset] [(.int u51_7), (.int u40_6), (.int u29_5), (.int (0 : Int32))]))) (fun t k => XS.iload X0.here hx rfl (hb hby at_59) rfl k) ?_
    obtain ⟨_, _, ⟨T8, L8, k8, n8⟩, -, X8, hs8, gr8, ⟨Lc8, hQ8, l8, y8, z8, cr8⟩, st8⟩ := callSS X0 hx (y := (⟨"com/example/triad/triad/rest/PercentEncodingIsKeptPinLaw", "keptOf", "(ICCC)Ljava/lang/String;"⟩ : MethodName)) hown (mvT hZ (Wd0 hw)) (mvT hZ (Wd1 hw)) (mvT hZ (Wd2 hw)) (mvT hZ (Wd3 hw)) (by decide) (backOfSH (W := 0) (rmKO0 l Z a0 hw [] u29_5 u40_6 u51_7 h0 h0.size (Nat.le_refl _) X00 r0 r1 r2 zc O2 P5) hZ (Wd3 hw) (Wd2 hw) (by decide) (by decide) (EL_in hw) ch0.1) (g := (mkF m 61 #[.val (.int p0), .val (.int p1), .val (.int p2), .val (.int v15_1), .val (.int (0 : Int32)), .val (.int u29_5), .val (.int u40_6), .val (.int u51_7), .unset, .unset, .unset, .unset, .unset, .unset] [(.int u51_7), (.int u40_6), (.int u29_5), (.int (0 : Int32))])) rfl (by rw [hml]; rfl) (argsL := [(.int (0 : Int32)), (.int u29_5), (.int u40_6), (.int u51_7)]) (rest := []) (lenOf pd9 rfl) rfl (by show 2 * 0 + _ ≤ _; exact Nat.le_of_eq rfl) (hb hby at_61) (fun _ _ => ⟨rfl, e0, (Nat.le_of_ble_eq_true rfl), (Nat.le_of_ble_eq_true rfl)⟩)
    dsimp only [Pt.U, Pt.locs, Pt.cells, Pt.slots] at X8 l8 y8 z8 st8 hQ8 hs8 gr8 cr8
    subst l8 y8 z8
    have X8 : Stand p l e _ (s.setVm T8.vm) m _ below meth c T8 _ _ _ := X8
    have hZ : Z.Warmed39 (s.setVm T8.vm).vm := State.Warmed39.trans (t := (s.setVm s.vm)) hZ hs8.1
    have hown : (s.setVm T8.vm).vm.findClass "com/example/triad/triad/rest/PercentEncodingIsKeptPinLaw" = some m.cls := by rw [show (s.setVm T8.vm).vm = T8.vm from rfl, hs8.1.alike.findClass]; exact hown
    have hS8 : s.Since T8.vm T8.heap.size := hS0.trans hs8 (Nat.le_trans (by rw [e0]; exact hk0) gr8)
    have hk8 : T8.heap.size ≤ T8.heap.size := Nat.le_refl _
    have ch8 := ch0.trans cr8
    obtain ⟨b8, t8, kb8, rfl, Nq8, K8, nt8, E8, C8, V8, A8⟩ := hQ8
    have N8 := Fr.app N0 Nq8
    refine ODH.via (B := (T8.setTop (mkF m 64 #[.val (.int p0), .val (.int p1), .val (.int p2), .val (.int v15_1), .val (.int (0 : Int32)), .val (.int u29_5), .val (.int u40_6), .val (.int u51_7), .unset, .unset, .unset, .unset, .unset, .unset] [(.ref b8)]))) st8 ?_
    refine ODH.go (B := (T8.setTop (mkF m 66 #[.val (.int p0), .val (.int p1), .val (.int p2), .val (.int v15_1), .val (.int (0 : Int32)), .val (.int u29_5), .val (.int u40_6), .val (.int u51_7), .val (.ref b8), .unset, .unset, .unset, .unset, .unset] []))) (fun t k => XS.astore X8.here hx rfl (hb hby at_64) rfl rfl (l' := #[.val (.int p0), .val (.int p1), .val (.int p2), .val (.int v15_1), .val (.int (0 : Int32)), .val (.int u29_5), .val (.int u40_6), .val (.int u51_7), .val (.ref b8), .unset, .unset, .unset, .unset, .unset]) rfl k) ?_
    refine ODH.go (B := (T8.setTop (mkF m 67 #[.val (.int p0), .val (.int p1), .val (.int p2), .val (.int v15_1), .val (.int (0 : Int32)), .val (.int u29_5), .val (.int u40_6), .val (.int u51_7), .val (.ref b8), .unset, .unset, .unset, .unset, .unset] [(.int v15_1)]))) (fun t k => XS.iloadN X8.here hx rfl (hb hby at_66) rfl k) ?_
    refine ODH.go (B := (T8.setTop (mkF m 69 #[.val (.int p0), .val (.int p1), .val (.int p2), .val (.int v15_1), .val (.int (0 : Int32)), .val (.int u29_5), .val (.int u40_6), .val (.int u51_7), .val (.ref b8), .unset, .unset, .unset, .unset, .unset] [(.int (97 : Int32)), (.int v15_1)]))) (fun t k => XS.bipush X8.here hx rfl (hb hby at_67) k) ?_
    refine ODH.go (B := (T8.setTop (mkF m 71 #[.val (.int p0), .val (.int p1), .val (.int p2), .val (.int v15_1), .val (.int (0 : Int32)), .val (.int u29_5), .val (.int u40_6), .val (.int u51_7), .val (.ref b8), .unset, .unset, .unset, .unset, .unset] [(.int (122 : Int32)), (.int (97 : Int32)), (.int v15_1)]))) (fun t k => XS.bipush X8.here hx rfl (hb hby at_69) k) ?_
    obtain ⟨_, _, ⟨T9, L9, k9, n9⟩, -, X9, ⟨Lc9, hQ9, l9, y9, z9⟩, st9⟩ := Jvm.LawKit.callS X8 hx (y := (⟨"com/example/triad/triad/rest/PercentEncodingIsKeptPinLaw", "between", "(III)Z"⟩ : MethodName)) hown (mvT hZ (Wd34 hw)) (mvT hZ (Wd35 hw)) (mvT hZ (Wd2 hw)) (mvT hZ (Wd36 hw)) (by decide) (backOf (W := 0) (rmB l Z a0 hw [] v15_1 (97 : Int32) (122 : Int32) T8.heap) hZ (Wd36 hw) (Wd2 hw) (by decide) (by decide)) (g := (mkF m 71 #[.val (.int p0), .val (.int p1), .val (.int p2), .val (.int v15_1), .val (.int (0 : Int32)), .val (.int u29_5), .val (.int u40_6), .val (.int u51_7), .val (.ref b8), .unset, .unset, .unset, .unset, .unset] [(.int (122 : Int32)), (.int (97 : Int32)), (.int v15_1)])) rfl (by rw [hml]; rfl) (argsL := [(.int v15_1), (.int (97 : Int32)), (.int (122 : Int32))]) (rest := []) (lenOf pd10 rfl) rfl (by show 2 * 0 + _ ≤ _; exact Nat.le_of_eq rfl) (hb hby at_71) (fun _ _ => ⟨rfl, rfl, (Nat.le_of_ble_eq_true rfl), (Nat.le_of_ble_eq_true rfl)⟩)
    dsimp only [Pt.U, Pt.locs, Pt.cells, Pt.slots] at X9 l9 y9 z9 st9 hQ9
    subst l9 y9 z9
    obtain ⟨rfl, rfl, e9⟩ := hQ9
    try rw [List.append_nil] at X9
    refine ODH.go (B := (T9.setTop (mkF m 74 #[.val (.int p0), .val (.int p1), .val (.int p2), .val (.int v15_1), .val (.int (0 : Int32)), .val (.int u29_5), .val (.int u40_6), .val (.int u51_7), .val (.ref b8), .unset, .unset, .unset, .unset, .unset] [(.int (own_btw v15_1 (97 : Int32) (122 : Int32)))]))) st9 ?_
    obtain ⟨v93_10, hv93_10⟩ : ∃ z : Int32, z = (if (own_btw v15_1 (97 : Int32) (122 : Int32)) = (0 : Int32) then (if (own_btw v15_1 (65 : Int32) (90 : Int32)) = (0 : Int32) then (0 : Int32) else (1 : Int32)) else (1 : Int32)) := ⟨_, rfl⟩
    refine ODH.cutX X9 (h := T8.heap) (B := fun T12 => (T12.setTop (mkF m 93 #[.val (.int p0), .val (.int p1), .val (.int p2), .val (.int v15_1), .val (.int (0 : Int32)), .val (.int u29_5), .val (.int u40_6), .val (.int u51_7), .val (.ref b8), .unset, .unset, .unset, .unset, .unset] [(.int v93_10)]))) (fun J93_11 => ?_) ?_
    · skip
      by_cases c74_13 : (own_btw v15_1 (97 : Int32) (122 : Int32)) = (0 : Int32)
      · refine ODH.go (B := (T9.setTop (mkF m 77 #[.val (.int p0), .val (.int p1), .val (.int p2), .val (.int v15_1), .val (.int (0 : Int32)), .val (.int u29_5), .val (.int u40_6), .val (.int u51_7), .val (.ref b8), .unset, .unset, .unset, .unset, .unset] []))) (fun t k => XS.ifNo X9.here hx rfl (hb hby at_74) rfl (by rw [if0]; exact (teq c74_13).2) k) ?_
        refine ODH.go (B := (T9.setTop (mkF m 78 #[.val (.int p0), .val (.int p1), .val (.int p2), .val (.int v15_1), .val (.int (0 : Int32)), .val (.int u29_5), .val (.int u40_6), .val (.int u51_7), .val (.ref b8), .unset, .unset, .unset, .unset, .unset] [(.int v15_1)]))) (fun t k => XS.iloadN X9.here hx rfl (hb hby at_77) rfl k) ?_
        refine ODH.go (B := (T9.setTop (mkF m 80 #[.val (.int p0), .val (.int p1), .val (.int p2), .val (.int v15_1), .val (.int (0 : Int32)), .val (.int u29_5), .val (.int u40_6), .val (.int u51_7), .val (.ref b8), .unset, .unset, .unset, .unset, .unset] [(.int (65 : Int32)), (.int v15_1)]))) (fun t k => XS.bipush X9.here hx rfl (hb hby at_78) k) ?_
        refine ODH.go (B := (T9.setTop (mkF m 82 #[.val (.int p0), .val (.int p1), .val (.int p2), .val (.int v15_1), .val (.int (0 : Int32)), .val (.int u29_5), .val (.int u40_6), .val (.int u51_7), .val (.ref b8), .unset, .unset, .unset, .unset, .unset] [(.int (90 : Int32)), (.int (65 : Int32)), (.int v15_1)]))) (fun t k => XS.bipush X9.here hx rfl (hb hby at_80) k) ?_
        obtain ⟨_, _, ⟨T14, L14, k14, n14⟩, -, X14, ⟨Lc14, hQ14, l14, y14, z14⟩, st14⟩ := Jvm.LawKit.callS X9 hx (y := (⟨"com/example/triad/triad/rest/PercentEncodingIsKeptPinLaw", "between", "(III)Z"⟩ : MethodName)) hown (mvT hZ (Wd34 hw)) (mvT hZ (Wd35 hw)) (mvT hZ (Wd2 hw)) (mvT hZ (Wd36 hw)) (by decide) (backOf (W := 0) (rmB l Z a0 hw [] v15_1 (65 : Int32) (90 : Int32) T8.heap) hZ (Wd36 hw) (Wd2 hw) (by decide) (by decide)) (g := (mkF m 82 #[.val (.int p0), .val (.int p1), .val (.int p2), .val (.int v15_1), .val (.int (0 : Int32)), .val (.int u29_5), .val (.int u40_6), .val (.int u51_7), .val (.ref b8), .unset, .unset, .unset, .unset, .unset] [(.int (90 : Int32)), (.int (65 : Int32)), (.int v15_1)])) rfl (by rw [hml]; rfl) (argsL := [(.int v15_1), (.int (65 : Int32)), (.int (90 : Int32))]) (rest := []) (lenOf pd10 rfl) rfl (by show 2 * 0 + _ ≤ _; exact Nat.le_of_eq rfl) (hb hby at_82) (fun _ _ => ⟨rfl, e9, (Nat.le_of_ble_eq_true rfl), (Nat.le_of_ble_eq_true rfl)⟩)
        dsimp only [Pt.U, Pt.locs, Pt.cells, Pt.slots] at X14 l14 y14 z14 st14 hQ14
        subst l14 y14 z14
        obtain ⟨rfl, rfl, e14⟩ := hQ14
        try rw [List.append_nil] at X14
        refine ODH.go (B := (T14.setTop (mkF m 85 #[.val (.int p0), .val (.int p1), .val (.int p2), .val (.int v15_1), .val (.int (0 : Int32)), .val (.int u29_5), .val (.int u40_6), .val (.int u51_7), .val (.ref b8), .unset, .unset, .unset, .unset, .unset] [(.int (own_btw v15_1 (65 : Int32) (90 : Int32)))]))) st14 ?_
        by_cases c85_15 : (own_btw v15_1 (65 : Int32) (90 : Int32)) = (0 : Int32)
        · refine ODH.go (B := (T14.setTop (mkF m 92 #[.val (.int p0), .val (.int p1), .val (.int p2), .val (.int v15_1), .val (.int (0 : Int32)), .val (.int u29_5), .val (.int u40_6), .val (.int u51_7), .val (.ref b8), .unset, .unset, .unset, .unset, .unset] []))) (fun t k => XS.ifYes X14.here hx rfl (pc0 := 85) (pc' := 92) rfl (hb hby at_85) rfl (by rw [if0]; exact (teq c85_15).1) (by decide) (by decide) k) ?_
          refine ODH.go (B := (T14.setTop (mkF m 93 #[.val (.int p0), .val (.int p1), .val (.int p2), .val (.int v15_1), .val (.int (0 : Int32)), .val (.int u29_5), .val (.int u40_6), .val (.int u51_7), .val (.ref b8), .unset, .unset, .unset, .unset, .unset] [(.int (0 : Int32))]))) (fun t k => XS.iconst X14.here hx rfl (hb hby at_92) k) ?_
          rw [if_pos c74_13, if_pos c85_15] at hv93_10
          rw [hv93_10] at J93_11
          exact J93_11 _ ⟨X14, e14⟩
        · refine ODH.go (B := (T14.setTop (mkF m 88 #[.val (.int p0), .val (.int p1), .val (.int p2), .val (.int v15_1), .val (.int (0 : Int32)), .val (.int u29_5), .val (.int u40_6), .val (.int u51_7), .val (.ref b8), .unset, .unset, .unset, .unset, .unset] []))) (fun t k => XS.ifNo X14.here hx rfl (hb hby at_85) rfl (by rw [if0]; exact (feq c85_15).1) k) ?_
          refine ODH.go (B := (T14.setTop (mkF m 89 #[.val (.int p0), .val (.int p1), .val (.int p2), .val (.int v15_1), .val (.int (0 : Int32)), .val (.int u29_5), .val (.int u40_6), .val (.int u51_7), .val (.ref b8), .unset, .unset, .unset, .unset, .unset] [(.int (1 : Int32))]))) (fun t k => XS.iconst X14.here hx rfl (hb hby at_88) k) ?_
          refine ODH.go (B := (T14.setTop (mkF m 93 #[.val (.int p0), .val (.int p1), .val (.int p2), .val (.int v15_1), .val (.int (0 : Int32)), .val (.int u29_5), .val (.int u40_6), .val (.int u51_7), .val (.ref b8), .unset, .unset, .unset, .unset, .unset] [(.int (1 : Int32))]))) (fun t k => XS.goto X14.here hx rfl (pc0 := 89) (pc' := 93) rfl (hb hby at_89) (by decide) (by decide) k) ?_
          rw [if_pos c74_13, if_neg c85_15] at hv93_10
          rw [hv93_10] at J93_11
          exact J93_11 _ ⟨X14, e14⟩
      · refine ODH.go (B := (T9.setTop (mkF m 88 #[.val (.int p0), .val (.int p1), .val (.int p2), .val (.int v15_1), .val (.int (0 : Int32)), .val (.int u29_5), .val (.int u40_6), .val (.int u51_7), .val (.ref b8), .unset, .unset, .unset, .unset, .unset] []))) (fun t k => XS.ifYes X9.here hx rfl (pc0 := 74) (pc' := 88) rfl (hb hby at_74) rfl (by rw [if0]; exact (feq c74_13).2) (by decide) (by decide) k) ?_
        refine ODH.go (B := (T9.setTop (mkF m 89 #[.val (.int p0), .val (.int p1), .val (.int p2), .val (.int v15_1), .val (.int (0 : Int32)), .val (.int u29_5), .val (.int u40_6), .val (.int u51_7), .val (.ref b8), .unset, .unset, .unset, .unset, .unset] [(.int (1 : Int32))]))) (fun t k => XS.iconst X9.here hx rfl (hb hby at_88) k) ?_
        refine ODH.go (B := (T9.setTop (mkF m 93 #[.val (.int p0), .val (.int p1), .val (.int p2), .val (.int v15_1), .val (.int (0 : Int32)), .val (.int u29_5), .val (.int u40_6), .val (.int u51_7), .val (.ref b8), .unset, .unset, .unset, .unset, .unset] [(.int (1 : Int32))]))) (fun t k => XS.goto X9.here hx rfl (pc0 := 89) (pc' := 93) rfl (hb hby at_89) (by decide) (by decide) k) ?_
        rw [if_neg c74_13] at hv93_10
        rw [hv93_10] at J93_11
        exact J93_11 _ ⟨X9, e9⟩
    rintro T12 ⟨XT12, eT12⟩
    show ODH _ _ _ _ _ _ _ _ _ (T12.setTop (mkF m 93 #[.val (.int p0), .val (.int p1), .val (.int p2), .val (.int v15_1), .val (.int (0 : Int32)), .val (.int u29_5), .val (.int u40_6), .val (.int u51_7), .val (.ref b8), .unset, .unset, .unset, .unset, .unset] [(.int v93_10)]))
    refine ODH.go (B := (T12.setTop (mkF m 95 #[.val (.int p0), .val (.int p1), .val (.int p2), .val (.int v15_1), .val (.int (0 : Int32)), .val (.int u29_5), .val (.int u40_6), .val (.int u51_7), .val (.ref b8), .val (.int v93_10), .unset, .unset, .unset, .unset] []))) (fun t k => XS.istore XT12.here hx rfl (hb hby at_93) rfl (l' := #[.val (.int p0), .val (.int p1), .val (.int p2), .val (.int v15_1), .val (.int (0 : Int32)), .val (.int u29_5), .val (.int u40_6), .val (.int u51_7), .val (.ref b8), .val (.int v93_10), .unset, .unset, .unset, .unset]) rfl k) ?_
    refine ODH.go (B := (T12.setTop (mkF m 96 #[.val (.int p0), .val (.int p1), .val (.int p2), .val (.int v15_1), .val (.int (0 : Int32)), .val (.int u29_5), .val (.int u40_6), .val (.int u51_7), .val (.ref b8), .val (.int v93_10), .unset, .unset, .unset, .unset] [(.int v15_1)]))) (fun t k => XS.iloadN XT12.here hx rfl (hb hby at_95) rfl k) ?_
    refine ODH.go (B := (T12.setTop (mkF m 98 #[.val (.int p0), .val (.int p1), .val (.int p2), .val (.int v15_1), .val (.int (0 : Int32)), .val (.int u29_5), .val (.int u40_6), .val (.int u51_7), .val (.ref b8), .val (.int v93_10), .unset, .unset, .unset, .unset] [(.int (48 : Int32)), (.int v15_1)]))) (fun t k => XS.bipush XT12.here hx rfl (hb hby at_96) k) ?_
    refine ODH.go (B := (T12.setTop (mkF m 100 #[.val (.int p0), .val (.int p1), .val (.int p2), .val (.int v15_1), .val (.int (0 : Int32)), .val (.int u29_5), .val (.int u40_6), .val (.int u51_7), .val (.ref b8), .val (.int v93_10), .unset, .unset, .unset, .unset] [(.int (57 : Int32)), (.int (48 : Int32)), (.int v15_1)]))) (fun t k => XS.bipush XT12.here hx rfl (hb hby at_98) k) ?_
    obtain ⟨_, _, ⟨T16, L16, k16, n16⟩, -, X16, ⟨Lc16, hQ16, l16, y16, z16⟩, st16⟩ := Jvm.LawKit.callS XT12 hx (y := (⟨"com/example/triad/triad/rest/PercentEncodingIsKeptPinLaw", "between", "(III)Z"⟩ : MethodName)) hown (mvT hZ (Wd34 hw)) (mvT hZ (Wd35 hw)) (mvT hZ (Wd2 hw)) (mvT hZ (Wd36 hw)) (by decide) (backOf (W := 0) (rmB l Z a0 hw [] v15_1 (48 : Int32) (57 : Int32) T8.heap) hZ (Wd36 hw) (Wd2 hw) (by decide) (by decide)) (g := (mkF m 100 #[.val (.int p0), .val (.int p1), .val (.int p2), .val (.int v15_1), .val (.int (0 : Int32)), .val (.int u29_5), .val (.int u40_6), .val (.int u51_7), .val (.ref b8), .val (.int v93_10), .unset, .unset, .unset, .unset] [(.int (57 : Int32)), (.int (48 : Int32)), (.int v15_1)])) rfl (by rw [hml]; rfl) (argsL := [(.int v15_1), (.int (48 : Int32)), (.int (57 : Int32))]) (rest := []) (lenOf pd10 rfl) rfl (by show 2 * 0 + _ ≤ _; exact Nat.le_of_eq rfl) (hb hby at_100) (fun _ _ => ⟨rfl, eT12, (Nat.le_of_ble_eq_true rfl), (Nat.le_of_ble_eq_true rfl)⟩)
    dsimp only [Pt.U, Pt.locs, Pt.cells, Pt.slots] at X16 l16 y16 z16 st16 hQ16
    subst l16 y16 z16
    obtain ⟨rfl, rfl, e16⟩ := hQ16
    try rw [List.append_nil] at X16
    refine ODH.go (B := (T16.setTop (mkF m 103 #[.val (.int p0), .val (.int p1), .val (.int p2), .val (.int v15_1), .val (.int (0 : Int32)), .val (.int u29_5), .val (.int u40_6), .val (.int u51_7), .val (.ref b8), .val (.int v93_10), .unset, .unset, .unset, .unset] [(.int (own_btw v15_1 (48 : Int32) (57 : Int32)))]))) st16 ?_
    refine ODH.go (B := (T16.setTop (mkF m 105 #[.val (.int p0), .val (.int p1), .val (.int p2), .val (.int v15_1), .val (.int (0 : Int32)), .val (.int u29_5), .val (.int u40_6), .val (.int u51_7), .val (.ref b8), .val (.int v93_10), .val (.int (own_btw v15_1 (48 : Int32) (57 : Int32))), .unset, .unset, .unset] []))) (fun t k => XS.istore X16.here hx rfl (hb hby at_103) rfl (l' := #[.val (.int p0), .val (.int p1), .val (.int p2), .val (.int v15_1), .val (.int (0 : Int32)), .val (.int u29_5), .val (.int u40_6), .val (.int u51_7), .val (.ref b8), .val (.int v93_10), .val (.int (own_btw v15_1 (48 : Int32) (57 : Int32))), .unset, .unset, .unset]) rfl k) ?_
    generalize hu103_17 : (own_btw v15_1 (48 : Int32) (57 : Int32)) = u103_17
    refine ODH.go (B := (T16.setTop (mkF m 106 #[.val (.int p0), .val (.int p1), .val (.int p2), .val (.int v15_1), .val (.int (0 : Int32)), .val (.int u29_5), .val (.int u40_6), .val (.int u51_7), .val (.ref b8), .val (.int v93_10), .val (.int u103_17), .unset, .unset, .unset] [(.int v15_1)]))) (fun t k => XS.iloadN X16.here hx rfl (hb hby at_105) rfl k) ?_
    refine ODH.go (B := (T16.setTop (mkF m 108 #[.val (.int p0), .val (.int p1), .val (.int p2), .val (.int v15_1), .val (.int (0 : Int32)), .val (.int u29_5), .val (.int u40_6), .val (.int u51_7), .val (.ref b8), .val (.int v93_10), .val (.int u103_17), .unset, .unset, .unset] [(.int (45 : Int32)), (.int v15_1)]))) (fun t k => XS.bipush X16.here hx rfl (hb hby at_106) k) ?_
    obtain ⟨v134_18, hv134_18⟩ : ∃ z : Int32, z = (if v15_1 = (45 : Int32) then (1 : Int32) else (if v15_1 = (46 : Int32) then (1 : Int32) else (if v15_1 = (95 : Int32) then (1 : Int32) else (if v15_1 = (126 : Int32) then (1 : Int32) else (0 : Int32))))) := ⟨_, rfl⟩
    refine ODH.cut (B := (T16.setTop (mkF m 134 #[.val (.int p0), .val (.int p1), .val (.int p2), .val (.int v15_1), .val (.int (0 : Int32)), .val (.int u29_5), .val (.int u40_6), .val (.int u51_7), .val (.ref b8), .val (.int v93_10), .val (.int u103_17), .unset, .unset, .unset] [(.int v134_18)]))) (fun J134_19 => ?_) ?_
    · skip
      by_cases c108_20 : v15_1 = (45 : Int32)
      · refine ODH.go (B := (T16.setTop (mkF m 129 #[.val (.int p0), .val (.int p1), .val (.int p2), .val (.int v15_1), .val (.int (0 : Int32)), .val (.int u29_5), .val (.int u40_6), .val (.int u51_7), .val (.ref b8), .val (.int v93_10), .val (.int u103_17), .unset, .unset, .unset] []))) (fun t k => XS.icmpYes X16.here hx rfl (pc0 := 108) (pc' := 129) rfl (hb hby at_108) rfl (teq c108_20).1 (by decide) (by decide) k) ?_
        refine ODH.go (B := (T16.setTop (mkF m 130 #[.val (.int p0), .val (.int p1), .val (.int p2), .val (.int v15_1), .val (.int (0 : Int32)), .val (.int u29_5), .val (.int u40_6), .val (.int u51_7), .val (.ref b8), .val (.int v93_10), .val (.int u103_17), .unset, .unset, .unset] [(.int (1 : Int32))]))) (fun t k => XS.iconst X16.here hx rfl (hb hby at_129) k) ?_
        refine ODH.go (B := (T16.setTop (mkF m 134 #[.val (.int p0), .val (.int p1), .val (.int p2), .val (.int v15_1), .val (.int (0 : Int32)), .val (.int u29_5), .val (.int u40_6), .val (.int u51_7), .val (.ref b8), .val (.int v93_10), .val (.int u103_17), .unset, .unset, .unset] [(.int (1 : Int32))]))) (fun t k => XS.goto X16.here hx rfl (pc0 := 130) (pc' := 134) rfl (hb hby at_130) (by decide) (by decide) k) ?_
        rw [if_pos c108_20] at hv134_18
        rw [hv134_18] at J134_19
        exact J134_19
      · refine ODH.go (B := (T16.setTop (mkF m 111 #[.val (.int p0), .val (.int p1), .val (.int p2), .val (.int v15_1), .val (.int (0 : Int32)), .val (.int u29_5), .val (.int u40_6), .val (.int u51_7), .val (.ref b8), .val (.int v93_10), .val (.int u103_17), .unset, .unset, .unset] []))) (fun t k => XS.icmpNo X16.here hx rfl (hb hby at_108) rfl (feq c108_20).1 k) ?_
        refine ODH.go (B := (T16.setTop (mkF m 112 #[.val (.int p0), .val (.int p1), .val (.int p2), .val (.int v15_1), .val (.int (0 : Int32)), .val (.int u29_5), .val (.int u40_6), .val (.int u51_7), .val (.ref b8), .val (.int v93_10), .val (.int u103_17), .unset, .unset, .unset] [(.int v15_1)]))) (fun t k => XS.iloadN X16.here hx rfl (hb hby at_111) rfl k) ?_
        refine ODH.go (B := (T16.setTop (mkF m 114 #[.val (.int p0), .val (.int p1), .val (.int p2), .val (.int v15_1), .val (.int (0 : Int32)), .val (.int u29_5), .val (.int u40_6), .val (.int u51_7), .val (.ref b8), .val (.int v93_10), .val (.int u103_17), .unset, .unset, .unset] [(.int (46 : Int32)), (.int v15_1)]))) (fun t k => XS.bipush X16.here hx rfl (hb hby at_112) k) ?_
        by_cases c114_21 : v15_1 = (46 : Int32)
        · refine ODH.go (B := (T16.setTop (mkF m 129 #[.val (.int p0), .val (.int p1), .val (.int p2), .val (.int v15_1), .val (.int (0 : Int32)), .val (.int u29_5), .val (.int u40_6), .val (.int u51_7), .val (.ref b8), .val (.int v93_10), .val (.int u103_17), .unset, .unset, .unset] []))) (fun t k => XS.icmpYes X16.here hx rfl (pc0 := 114) (pc' := 129) rfl (hb hby at_114) rfl (teq c114_21).1 (by decide) (by decide) k) ?_
          refine ODH.go (B := (T16.setTop (mkF m 130 #[.val (.int p0), .val (.int p1), .val (.int p2), .val (.int v15_1), .val (.int (0 : Int32)), .val (.int u29_5), .val (.int u40_6), .val (.int u51_7), .val (.ref b8), .val (.int v93_10), .val (.int u103_17), .unset, .unset, .unset] [(.int (1 : Int32))]))) (fun t k => XS.iconst X16.here hx rfl (hb hby at_129) k) ?_
          refine ODH.go (B := (T16.setTop (mkF m 134 #[.val (.int p0), .val (.int p1), .val (.int p2), .val (.int v15_1), .val (.int (0 : Int32)), .val (.int u29_5), .val (.int u40_6), .val (.int u51_7), .val (.ref b8), .val (.int v93_10), .val (.int u103_17), .unset, .unset, .unset] [(.int (1 : Int32))]))) (fun t k => XS.goto X16.here hx rfl (pc0 := 130) (pc' := 134) rfl (hb hby at_130) (by decide) (by decide) k) ?_
          rw [if_neg c108_20, if_pos c114_21] at hv134_18
          rw [hv134_18] at J134_19
          exact J134_19
        · refine ODH.go (B := (T16.setTop (mkF m 117 #[.val (.int p0), .val (.int p1), .val (.int p2), .val (.int v15_1), .val (.int (0 : Int32)), .val (.int u29_5), .val (.int u40_6), .val (.int u51_7), .val (.ref b8), .val (.int v93_10), .val (.int u103_17), .unset, .unset, .unset] []))) (fun t k => XS.icmpNo X16.here hx rfl (hb hby at_114) rfl (feq c114_21).1 k) ?_
          refine ODH.go (B := (T16.setTop (mkF m 118 #[.val (.int p0), .val (.int p1), .val (.int p2), .val (.int v15_1), .val (.int (0 : Int32)), .val (.int u29_5), .val (.int u40_6), .val (.int u51_7), .val (.ref b8), .val (.int v93_10), .val (.int u103_17), .unset, .unset, .unset] [(.int v15_1)]))) (fun t k => XS.iloadN X16.here hx rfl (hb hby at_117) rfl k) ?_
          refine ODH.go (B := (T16.setTop (mkF m 120 #[.val (.int p0), .val (.int p1), .val (.int p2), .val (.int v15_1), .val (.int (0 : Int32)), .val (.int u29_5), .val (.int u40_6), .val (.int u51_7), .val (.ref b8), .val (.int v93_10), .val (.int u103_17), .unset, .unset, .unset] [(.int (95 : Int32)), (.int v15_1)]))) (fun t k => XS.bipush X16.here hx rfl (hb hby at_118) k) ?_
          by_cases c120_22 : v15_1 = (95 : Int32)
          · refine ODH.go (B := (T16.setTop (mkF m 129 #[.val (.int p0), .val (.int p1), .val (.int p2), .val (.int v15_1), .val (.int (0 : Int32)), .val (.int u29_5), .val (.int u40_6), .val (.int u51_7), .val (.ref b8), .val (.int v93_10), .val (.int u103_17), .unset, .unset, .unset] []))) (fun t k => XS.icmpYes X16.here hx rfl (pc0 := 120) (pc' := 129) rfl (hb hby at_120) rfl (teq c120_22).1 (by decide) (by decide) k) ?_
            refine ODH.go (B := (T16.setTop (mkF m 130 #[.val (.int p0), .val (.int p1), .val (.int p2), .val (.int v15_1), .val (.int (0 : Int32)), .val (.int u29_5), .val (.int u40_6), .val (.int u51_7), .val (.ref b8), .val (.int v93_10), .val (.int u103_17), .unset, .unset, .unset] [(.int (1 : Int32))]))) (fun t k => XS.iconst X16.here hx rfl (hb hby at_129) k) ?_
            refine ODH.go (B := (T16.setTop (mkF m 134 #[.val (.int p0), .val (.int p1), .val (.int p2), .val (.int v15_1), .val (.int (0 : Int32)), .val (.int u29_5), .val (.int u40_6), .val (.int u51_7), .val (.ref b8), .val (.int v93_10), .val (.int u103_17), .unset, .unset, .unset] [(.int (1 : Int32))]))) (fun t k => XS.goto X16.here hx rfl (pc0 := 130) (pc' := 134) rfl (hb hby at_130) (by decide) (by decide) k) ?_
            rw [if_neg c108_20, if_neg c114_21, if_pos c120_22] at hv134_18
            rw [hv134_18] at J134_19
            exact J134_19
          · refine ODH.go (B := (T16.setTop (mkF m 123 #[.val (.int p0), .val (.int p1), .val (.int p2), .val (.int v15_1), .val (.int (0 : Int32)), .val (.int u29_5), .val (.int u40_6), .val (.int u51_7), .val (.ref b8), .val (.int v93_10), .val (.int u103_17), .unset, .unset, .unset] []))) (fun t k => XS.icmpNo X16.here hx rfl (hb hby at_120) rfl (feq c120_22).1 k) ?_
            refine ODH.go (B := (T16.setTop (mkF m 124 #[.val (.int p0), .val (.int p1), .val (.int p2), .val (.int v15_1), .val (.int (0 : Int32)), .val (.int u29_5), .val (.int u40_6), .val (.int u51_7), .val (.ref b8), .val (.int v93_10), .val (.int u103_17), .unset, .unset, .unset] [(.int v15_1)]))) (fun t k => XS.iloadN X16.here hx rfl (hb hby at_123) rfl k) ?_
            refine ODH.go (B := (T16.setTop (mkF m 126 #[.val (.int p0), .val (.int p1), .val (.int p2), .val (.int v15_1), .val (.int (0 : Int32)), .val (.int u29_5), .val (.int u40_6), .val (.int u51_7), .val (.ref b8), .val (.int v93_10), .val (.int u103_17), .unset, .unset, .unset] [(.int (126 : Int32)), (.int v15_1)]))) (fun t k => XS.bipush X16.here hx rfl (hb hby at_124) k) ?_
            by_cases c126_23 : v15_1 = (126 : Int32)
            · refine ODH.go (B := (T16.setTop (mkF m 129 #[.val (.int p0), .val (.int p1), .val (.int p2), .val (.int v15_1), .val (.int (0 : Int32)), .val (.int u29_5), .val (.int u40_6), .val (.int u51_7), .val (.ref b8), .val (.int v93_10), .val (.int u103_17), .unset, .unset, .unset] []))) (fun t k => XS.icmpNo X16.here hx rfl (hb hby at_126) rfl (teq c126_23).2 k) ?_
              refine ODH.go (B := (T16.setTop (mkF m 130 #[.val (.int p0), .val (.int p1), .val (.int p2), .val (.int v15_1), .val (.int (0 : Int32)), .val (.int u29_5), .val (.int u40_6), .val (.int u51_7), .val (.ref b8), .val (.int v93_10), .val (.int u103_17), .unset, .unset, .unset] [(.int (1 : Int32))]))) (fun t k => XS.iconst X16.here hx rfl (hb hby at_129) k) ?_
              refine ODH.go (B := (T16.setTop (mkF m 134 #[.val (.int p0), .val (.int p1), .val (.int p2), .val (.int v15_1), .val (.int (0 : Int32)), .val (.int u29_5), .val (.int u40_6), .val (.int u51_7), .val (.ref b8), .val (.int v93_10), .val (.int u103_17), .unset, .unset, .unset] [(.int (1 : Int32))]))) (fun t k => XS.goto X16.here hx rfl (pc0 := 130) (pc' := 134) rfl (hb hby at_130) (by decide) (by decide) k) ?_
              rw [if_neg c108_20, if_neg c114_21, if_neg c120_22, if_pos c126_23] at hv134_18
              rw [hv134_18] at J134_19
              exact J134_19
            · refine ODH.go (B := (T16.setTop (mkF m 133 #[.val (.int p0), .val (.int p1), .val (.int p2), .val (.int v15_1), .val (.int (0 : Int32)), .val (.int u29_5), .val (.int u40_6), .val (.int u51_7), .val (.ref b8), .val (.int v93_10), .val (.int u103_17), .unset, .unset, .unset] []))) (fun t k => XS.icmpYes X16.here hx rfl (pc0 := 126) (pc' := 133) rfl (hb hby at_126) rfl (feq c126_23).2 (by decide) (by decide) k) ?_
              refine ODH.go (B := (T16.setTop (mkF m 134 #[.val (.int p0), .val (.int p1), .val (.int p2), .val (.int v15_1), .val (.int (0 : Int32)), .val (.int u29_5), .val (.int u40_6), .val (.int u51_7), .val (.ref b8), .val (.int v93_10), .val (.int u103_17), .unset, .unset, .unset] [(.int (0 : Int32))]))) (fun t k => XS.iconst X16.here hx rfl (hb hby at_133) k) ?_
              rw [if_neg c108_20, if_neg c114_21, if_neg c120_22, if_neg c126_23] at hv134_18
              rw [hv134_18] at J134_19
              exact J134_19
    refine ODH.go (B := (T16.setTop (mkF m 136 #[.val (.int p0), .val (.int p1), .val (.int p2), .val (.int v15_1), .val (.int (0 : Int32)), .val (.int u29_5), .val (.int u40_6), .val (.int u51_7), .val (.ref b8), .val (.int v93_10), .val (.int u103_17), .val (.int v134_18), .unset, .unset] []))) (fun t k => XS.istore X16.here hx rfl (hb hby at_134) rfl (l' := #[.val (.int p0), .val (.int p1), .val (.int p2), .val (.int v15_1), .val (.int (0 : Int32)), .val (.int u29_5), .val (.int u40_6), .val (.int u51_7), .val (.ref b8), .val (.int v93_10), .val (.int u103_17), .val (.int v134_18), .unset, .unset]) rfl k) ?_
    refine ODH.go (B := (T16.setTop (mkF m 138 #[.val (.int p0), .val (.int p1), .val (.int p2), .val (.int v15_1), .val (.int (0 : Int32)), .val (.int u29_5), .val (.int u40_6), .val (.int u51_7), .val (.ref b8), .val (.int v93_10), .val (.int u103_17), .val (.int v134_18), .unset, .unset] [(.int (0 : Int32))]))) (fun t k => XS.iload X16.here hx rfl (hb hby at_136) rfl k) ?_
    refine ODH.go (B := (T16.setTop (mkF m 139 #[.val (.int p0), .val (.int p1), .val (.int p2), .val (.int v15_1), .val (.int (0 : Int32)), .val (.int u29_5), .val (.int u40_6), .val (.int u51_7), .val (.ref b8), .val (.int v93_10), .val (.int u103_17), .val (.int v134_18), .unset, .unset] [(.int (1 : Int32)), (.int (0 : Int32))]))) (fun t k => XS.iconst X16.here hx rfl (hb hby at_138) k) ?_
    refine ODH.go (B := (T16.setTop (mkF m 148 #[.val (.int p0), .val (.int p1), .val (.int p2), .val (.int v15_1), .val (.int (0 : Int32)), .val (.int u29_5), .val (.int u40_6), .val (.int u51_7), .val (.ref b8), .val (.int v93_10), .val (.int u103_17), .val (.int v134_18), .unset, .unset] []))) (fun t k => XS.icmpYes X16.here hx rfl (pc0 := 139) (pc' := 148) rfl (hb hby at_139) rfl (tlt (by decide : (0 : Int32) < (1 : Int32))).1 (by decide) (by decide) k) ?_
    refine ODH.go (B := (T16.setTop (mkF m 150 #[.val (.int p0), .val (.int p1), .val (.int p2), .val (.int v15_1), .val (.int (0 : Int32)), .val (.int u29_5), .val (.int u40_6), .val (.int u51_7), .val (.ref b8), .val (.int v93_10), .val (.int u103_17), .val (.int v134_18), .unset, .unset] [(.int (0 : Int32))]))) (fun t k => XS.iload X16.here hx rfl (hb hby at_148) rfl k) ?_
    refine ODH.go (B := (T16.setTop (mkF m 151 #[.val (.int p0), .val (.int p1), .val (.int p2), .val (.int v15_1), .val (.int (0 : Int32)), .val (.int u29_5), .val (.int u40_6), .val (.int u51_7), .val (.ref b8), .val (.int v93_10), .val (.int u103_17), .val (.int v134_18), .unset, .unset] [(.int (2 : Int32)), (.int (0 : Int32))]))) (fun t k => XS.iconst X16.here hx rfl (hb hby at_150) k) ?_
    refine ODH.go (B := (T16.setTop (mkF m 160 #[.val (.int p0), .val (.int p1), .val (.int p2), .val (.int v15_1), .val (.int (0 : Int32)), .val (.int u29_5), .val (.int u40_6), .val (.int u51_7), .val (.ref b8), .val (.int v93_10), .val (.int u103_17), .val (.int v134_18), .unset, .unset] []))) (fun t k => XS.icmpYes X16.here hx rfl (pc0 := 151) (pc' := 160) rfl (hb hby at_151) rfl (tlt (by decide : (0 : Int32) < (2 : Int32))).1 (by decide) (by decide) k) ?_
    refine ODH.go (B := (T16.setTop (mkF m 162 #[.val (.int p0), .val (.int p1), .val (.int p2), .val (.int v15_1), .val (.int (0 : Int32)), .val (.int u29_5), .val (.int u40_6), .val (.int u51_7), .val (.ref b8), .val (.int v93_10), .val (.int u103_17), .val (.int v134_18), .unset, .unset] [(.int (0 : Int32))]))) (fun t k => XS.iload X16.here hx rfl (hb hby at_160) rfl k) ?_
    refine ODH.go (B := (T16.setTop (mkF m 163 #[.val (.int p0), .val (.int p1), .val (.int p2), .val (.int v15_1), .val (.int (0 : Int32)), .val (.int u29_5), .val (.int u40_6), .val (.int u51_7), .val (.ref b8), .val (.int v93_10), .val (.int u103_17), .val (.int v134_18), .unset, .unset] [(.int (3 : Int32)), (.int (0 : Int32))]))) (fun t k => XS.iconst X16.here hx rfl (hb hby at_162) k) ?_
    refine ODH.go (B := (T16.setTop (mkF m 176 #[.val (.int p0), .val (.int p1), .val (.int p2), .val (.int v15_1), .val (.int (0 : Int32)), .val (.int u29_5), .val (.int u40_6), .val (.int u51_7), .val (.ref b8), .val (.int v93_10), .val (.int u103_17), .val (.int v134_18), .unset, .unset] []))) (fun t k => XS.icmpYes X16.here hx rfl (pc0 := 163) (pc' := 176) rfl (hb hby at_163) rfl (tlt (by decide : (0 : Int32) < (3 : Int32))).1 (by decide) (by decide) k) ?_
    refine ODH.go (B := (T16.setTop (mkF m 177 #[.val (.int p0), .val (.int p1), .val (.int p2), .val (.int v15_1), .val (.int (0 : Int32)), .val (.int u29_5), .val (.int u40_6), .val (.int u51_7), .val (.ref b8), .val (.int v93_10), .val (.int u103_17), .val (.int v134_18), .unset, .unset] [(.int (0 : Int32))]))) (fun t k => XS.iconst X16.here hx rfl (hb hby at_176) k) ?_
    refine ODH.go (B := (T16.setTop (mkF m 179 #[.val (.int p0), .val (.int p1), .val (.int p2), .val (.int v15_1), .val (.int (0 : Int32)), .val (.int u29_5), .val (.int u40_6), .val (.int u51_7), .val (.ref b8), .val (.int v93_10), .val (.int u103_17), .val (.int v134_18), .val (.int (0 : Int32)), .unset] []))) (fun t k => XS.istore X16.here hx rfl (hb hby at_177) rfl (l' := #[.val (.int p0), .val (.int p1), .val (.int p2), .val (.int v15_1), .val (.int (0 : Int32)), .val (.int u29_5), .val (.int u40_6), .val (.int u51_7), .val (.ref b8), .val (.int v93_10), .val (.int u103_17), .val (.int v134_18), .val (.int (0 : Int32)), .unset]) rfl k) ?_
    refine ODH.go (B := (T16.setTop (mkF m 181 #[.val (.int p0), .val (.int p1), .val (.int p2), .val (.int v15_1), .val (.int (0 : Int32)), .val (.int u29_5), .val (.int u40_6), .val (.int u51_7), .val (.ref b8), .val (.int v93_10), .val (.int u103_17), .val (.int v134_18), .val (.int (0 : Int32)), .unset] [(.int v93_10)]))) (fun t k => XS.iload X16.here hx rfl (hb hby at_179) rfl k) ?_
    obtain ⟨v204_24, hv204_24⟩ : ∃ z : Int32, z = (if v93_10 = (0 : Int32) then (if u103_17 = (0 : Int32) then (if v134_18 = (0 : Int32) then (0 : Int32) else (1 : Int32)) else (1 : Int32)) else (1 : Int32)) := ⟨_, rfl⟩
    refine ODH.cut (B := (T16.setTop (mkF m 204 #[.val (.int p0), .val (.int p1), .val (.int p2), .val (.int v15_1), .val (.int (0 : Int32)), .val (.int u29_5), .val (.int u40_6), .val (.int u51_7), .val (.ref b8), .val (.int v93_10), .val (.int u103_17), .val (.int v134_18), .val (.int (0 : Int32)), .unset] [(.int v204_24)]))) (fun J204_25 => ?_) ?_
    · skip
      by_cases c181_26 : v93_10 = (0 : Int32)
      · refine ODH.go (B := (T16.setTop (mkF m 184 #[.val (.int p0), .val (.int p1), .val (.int p2), .val (.int v15_1), .val (.int (0 : Int32)), .val (.int u29_5), .val (.int u40_6), .val (.int u51_7), .val (.ref b8), .val (.int v93_10), .val (.int u103_17), .val (.int v134_18), .val (.int (0 : Int32)), .unset] []))) (fun t k => XS.ifNo X16.here hx rfl (hb hby at_181) rfl (by rw [if0]; exact (teq c181_26).2) k) ?_
        refine ODH.go (B := (T16.setTop (mkF m 186 #[.val (.int p0), .val (.int p1), .val (.int p2), .val (.int v15_1), .val (.int (0 : Int32)), .val (.int u29_5), .val (.int u40_6), .val (.int u51_7), .val (.ref b8), .val (.int v93_10), .val (.int u103_17), .val (.int v134_18), .val (.int (0 : Int32)), .unset] [(.int u103_17)]))) (fun t k => XS.iload X16.here hx rfl (hb hby at_184) rfl k) ?_
        by_cases c186_27 : u103_17 = (0 : Int32)
        · refine ODH.go (B := (T16.setTop (mkF m 189 #[.val (.int p0), .val (.int p1), .val (.int p2), .val (.int v15_1), .val (.int (0 : Int32)), .val (.int u29_5), .val (.int u40_6), .val (.int u51_7), .val (.ref b8), .val (.int v93_10), .val (.int u103_17), .val (.int v134_18), .val (.int (0 : Int32)), .unset] []))) (fun t k => XS.ifNo X16.here hx rfl (hb hby at_186) rfl (by rw [if0]; exact (teq c186_27).2) k) ?_
          refine ODH.go (B := (T16.setTop (mkF m 191 #[.val (.int p0), .val (.int p1), .val (.int p2), .val (.int v15_1), .val (.int (0 : Int32)), .val (.int u29_5), .val (.int u40_6), .val (.int u51_7), .val (.ref b8), .val (.int v93_10), .val (.int u103_17), .val (.int v134_18), .val (.int (0 : Int32)), .unset] [(.int v134_18)]))) (fun t k => XS.iload X16.here hx rfl (hb hby at_189) rfl k) ?_
          by_cases c191_28 : v134_18 = (0 : Int32)
          · refine ODH.go (B := (T16.setTop (mkF m 194 #[.val (.int p0), .val (.int p1), .val (.int p2), .val (.int v15_1), .val (.int (0 : Int32)), .val (.int u29_5), .val (.int u40_6), .val (.int u51_7), .val (.ref b8), .val (.int v93_10), .val (.int u103_17), .val (.int v134_18), .val (.int (0 : Int32)), .unset] []))) (fun t k => XS.ifNo X16.here hx rfl (hb hby at_191) rfl (by rw [if0]; exact (teq c191_28).2) k) ?_
            refine ODH.go (B := (T16.setTop (mkF m 196 #[.val (.int p0), .val (.int p1), .val (.int p2), .val (.int v15_1), .val (.int (0 : Int32)), .val (.int u29_5), .val (.int u40_6), .val (.int u51_7), .val (.ref b8), .val (.int v93_10), .val (.int u103_17), .val (.int v134_18), .val (.int (0 : Int32)), .unset] [(.int (0 : Int32))]))) (fun t k => XS.iload X16.here hx rfl (hb hby at_194) rfl k) ?_
            refine ODH.go (B := (T16.setTop (mkF m 203 #[.val (.int p0), .val (.int p1), .val (.int p2), .val (.int v15_1), .val (.int (0 : Int32)), .val (.int u29_5), .val (.int u40_6), .val (.int u51_7), .val (.ref b8), .val (.int v93_10), .val (.int u103_17), .val (.int v134_18), .val (.int (0 : Int32)), .unset] []))) (fun t k => XS.ifYes X16.here hx rfl (pc0 := 196) (pc' := 203) rfl (hb hby at_196) rfl (by rw [if0]; exact (teq (by decide : (0 : Int32) = (0 : Int32))).1) (by decide) (by decide) k) ?_
            refine ODH.go (B := (T16.setTop (mkF m 204 #[.val (.int p0), .val (.int p1), .val (.int p2), .val (.int v15_1), .val (.int (0 : Int32)), .val (.int u29_5), .val (.int u40_6), .val (.int u51_7), .val (.ref b8), .val (.int v93_10), .val (.int u103_17), .val (.int v134_18), .val (.int (0 : Int32)), .unset] [(.int (0 : Int32))]))) (fun t k => XS.iconst X16.here hx rfl (hb hby at_203) k) ?_
            rw [if_pos c181_26, if_pos c186_27, if_pos c191_28] at hv204_24
            rw [hv204_24] at J204_25
            exact J204_25
          · refine ODH.go (B := (T16.setTop (mkF m 199 #[.val (.int p0), .val (.int p1), .val (.int p2), .val (.int v15_1), .val (.int (0 : Int32)), .val (.int u29_5), .val (.int u40_6), .val (.int u51_7), .val (.ref b8), .val (.int v93_10), .val (.int u103_17), .val (.int v134_18), .val (.int (0 : Int32)), .unset] []))) (fun t k => XS.ifYes X16.here hx rfl (pc0 := 191) (pc' := 199) rfl (hb hby at_191) rfl (by rw [if0]; exact (feq c191_28).2) (by decide) (by decide) k) ?_
            refine ODH.go (B := (T16.setTop (mkF m 200 #[.val (.int p0), .val (.int p1), .val (.int p2), .val (.int v15_1), .val (.int (0 : Int32)), .val (.int u29_5), .val (.int u40_6), .val (.int u51_7), .val (.ref b8), .val (.int v93_10), .val (.int u103_17), .val (.int v134_18), .val (.int (0 : Int32)), .unset] [(.int (1 : Int32))]))) (fun t k => XS.iconst X16.here hx rfl (hb hby at_199) k) ?_
            refine ODH.go (B := (T16.setTop (mkF m 204 #[.val (.int p0), .val (.int p1), .val (.int p2), .val (.int v15_1), .val (.int (0 : Int32)), .val (.int u29_5), .val (.int u40_6), .val (.int u51_7), .val (.ref b8), .val (.int v93_10), .val (.int u103_17), .val (.int v134_18), .val (.int (0 : Int32)), .unset] [(.int (1 : Int32))]))) (fun t k => XS.goto X16.here hx rfl (pc0 := 200) (pc' := 204) rfl (hb hby at_200) (by decide) (by decide) k) ?_
            rw [if_pos c181_26, if_pos c186_27, if_neg c191_28] at hv204_24
            rw [hv204_24] at J204_25
            exact J204_25
        · refine ODH.go (B := (T16.setTop (mkF m 199 #[.val (.int p0), .val (.int p1), .val (.int p2), .val (.int v15_1), .val (.int (0 : Int32)), .val (.int u29_5), .val (.int u40_6), .val (.int u51_7), .val (.ref b8), .val (.int v93_10), .val (.int u103_17), .val (.int v134_18), .val (.int (0 : Int32)), .unset] []))) (fun t k => XS.ifYes X16.here hx rfl (pc0 := 186) (pc' := 199) rfl (hb hby at_186) rfl (by rw [if0]; exact (feq c186_27).2) (by decide) (by decide) k) ?_
          refine ODH.go (B := (T16.setTop (mkF m 200 #[.val (.int p0), .val (.int p1), .val (.int p2), .val (.int v15_1), .val (.int (0 : Int32)), .val (.int u29_5), .val (.int u40_6), .val (.int u51_7), .val (.ref b8), .val (.int v93_10), .val (.int u103_17), .val (.int v134_18), .val (.int (0 : Int32)), .unset] [(.int (1 : Int32))]))) (fun t k => XS.iconst X16.here hx rfl (hb hby at_199) k) ?_
          refine ODH.go (B := (T16.setTop (mkF m 204 #[.val (.int p0), .val (.int p1), .val (.int p2), .val (.int v15_1), .val (.int (0 : Int32)), .val (.int u29_5), .val (.int u40_6), .val (.int u51_7), .val (.ref b8), .val (.int v93_10), .val (.int u103_17), .val (.int v134_18), .val (.int (0 : Int32)), .unset] [(.int (1 : Int32))]))) (fun t k => XS.goto X16.here hx rfl (pc0 := 200) (pc' := 204) rfl (hb hby at_200) (by decide) (by decide) k) ?_
          rw [if_pos c181_26, if_neg c186_27] at hv204_24
          rw [hv204_24] at J204_25
          exact J204_25
      · refine ODH.go (B := (T16.setTop (mkF m 199 #[.val (.int p0), .val (.int p1), .val (.int p2), .val (.int v15_1), .val (.int (0 : Int32)), .val (.int u29_5), .val (.int u40_6), .val (.int u51_7), .val (.ref b8), .val (.int v93_10), .val (.int u103_17), .val (.int v134_18), .val (.int (0 : Int32)), .unset] []))) (fun t k => XS.ifYes X16.here hx rfl (pc0 := 181) (pc' := 199) rfl (hb hby at_181) rfl (by rw [if0]; exact (feq c181_26).2) (by decide) (by decide) k) ?_
        refine ODH.go (B := (T16.setTop (mkF m 200 #[.val (.int p0), .val (.int p1), .val (.int p2), .val (.int v15_1), .val (.int (0 : Int32)), .val (.int u29_5), .val (.int u40_6), .val (.int u51_7), .val (.ref b8), .val (.int v93_10), .val (.int u103_17), .val (.int v134_18), .val (.int (0 : Int32)), .unset] [(.int (1 : Int32))]))) (fun t k => XS.iconst X16.here hx rfl (hb hby at_199) k) ?_
        refine ODH.go (B := (T16.setTop (mkF m 204 #[.val (.int p0), .val (.int p1), .val (.int p2), .val (.int v15_1), .val (.int (0 : Int32)), .val (.int u29_5), .val (.int u40_6), .val (.int u51_7), .val (.ref b8), .val (.int v93_10), .val (.int u103_17), .val (.int v134_18), .val (.int (0 : Int32)), .unset] [(.int (1 : Int32))]))) (fun t k => XS.goto X16.here hx rfl (pc0 := 200) (pc' := 204) rfl (hb hby at_200) (by decide) (by decide) k) ?_
        rw [if_neg c181_26] at hv204_24
        rw [hv204_24] at J204_25
        exact J204_25
    refine ODH.go (B := (T16.setTop (mkF m 206 #[.val (.int p0), .val (.int p1), .val (.int p2), .val (.int v15_1), .val (.int (0 : Int32)), .val (.int u29_5), .val (.int u40_6), .val (.int u51_7), .val (.ref b8), .val (.int v93_10), .val (.int u103_17), .val (.int v134_18), .val (.int (0 : Int32)), .val (.int v204_24)] []))) (fun t k => XS.istore X16.here hx rfl (hb hby at_204) rfl (l' := #[.val (.int p0), .val (.int p1), .val (.int p2), .val (.int v15_1), .val (.int (0 : Int32)), .val (.int u29_5), .val (.int u40_6), .val (.int u51_7), .val (.ref b8), .val (.int v93_10), .val (.int u103_17), .val (.int v134_18), .val (.int (0 : Int32)), .val (.int v204_24)]) rfl k) ?_
    refine ODH.go (B := (T16.setTop (mkF m 207 #[.val (.int p0), .val (.int p1), .val (.int p2), .val (.int v15_1), .val (.int (0 : Int32)), .val (.int u29_5), .val (.int u40_6), .val (.int u51_7), .val (.ref b8), .val (.int v93_10), .val (.int u103_17), .val (.int v134_18), .val (.int (0 : Int32)), .val (.int v204_24)] [(.int v15_1)]))) (fun t k => XS.iloadN X16.here hx rfl (hb hby at_206) rfl k) ?_
    refine ODH.go (B := (T16.setTop (mkF m 209 #[.val (.int p0), .val (.int p1), .val (.int p2), .val (.int v15_1), .val (.int (0 : Int32)), .val (.int u29_5), .val (.int u40_6), .val (.int u51_7), .val (.ref b8), .val (.int v93_10), .val (.int u103_17), .val (.int v134_18), .val (.int (0 : Int32)), .val (.int v204_24)] [(.ref b8), (.int v15_1)]))) (fun t k => XS.aload X16.here hx rfl (hb hby at_207) rfl rfl k) ?_
    obtain ⟨_, _, ⟨T29, L29, k29, n29⟩, -, X29, hs29, gr29, ⟨Lc29, hQ29, l29, y29, z29, cr29⟩, st29⟩ := callSS X16 hx (y := (⟨"com/example/triad/triad/rest/PercentEncoding", "isKept", "(ILjava/lang/String;)Z"⟩ : MethodName)) hown (mvT hZ (Wd37 hw)) (mvT hZ (Wd38 hw)) (mvT hZ (Wd39 hw)) (mvT hZ (Wd40 hw)) (by decide) (backOfSH (W := 0) (rmK0 l Z a0 hw [] v15_1 b8 T8.heap E8 C8 t8 kb8 V8  A8 h0.size (X00.keep K8 all0) (Nat.le_trans (Nat.le_refl _) K8.1) zc O2 P5) hZ (Wd40 hw) (Wd39 hw) (by decide) (by decide) (EL_in hw) ch8.1) (g := (mkF m 209 #[.val (.int p0), .val (.int p1), .val (.int p2), .val (.int v15_1), .val (.int (0 : Int32)), .val (.int u29_5), .val (.int u40_6), .val (.int u51_7), .val (.ref b8), .val (.int v93_10), .val (.int u103_17), .val (.int v134_18), .val (.int (0 : Int32)), .val (.int v204_24)] [(.ref b8), (.int v15_1)])) rfl (by rw [hml]; rfl) (argsL := [(.int v15_1), (.ref b8)]) (rest := []) (lenOf pd11 rfl) rfl (by show 2 * 0 + _ ≤ _; exact Nat.le_of_eq rfl) (hb hby at_209) (fun _ _ => ⟨rfl, e16, (Nat.le_of_ble_eq_true rfl), (Nat.le_of_ble_eq_true rfl)⟩)
    dsimp only [Pt.U, Pt.locs, Pt.cells, Pt.slots] at X29 l29 y29 z29 st29 hQ29 hs29 gr29 cr29
    subst l29 y29 z29
    have X29 : Stand p l e _ (s.setVm T29.vm) m _ below meth c T29 _ _ _ := X29
    have hZ : Z.Warmed39 (s.setVm T29.vm).vm := State.Warmed39.trans (t := (s.setVm T8.vm)) hZ hs29.1
    have hown : (s.setVm T29.vm).vm.findClass "com/example/triad/triad/rest/PercentEncodingIsKeptPinLaw" = some m.cls := by rw [show (s.setVm T29.vm).vm = T29.vm from rfl, hs29.1.alike.findClass]; exact hown
    have hS29 : s.Since T29.vm T29.heap.size := hS8.trans hs29 (Nat.le_trans (by rw [e16]; exact hk8) gr29)
    have hk29 : T29.heap.size ≤ T29.heap.size := Nat.le_refl _
    have ch29 := ch8.trans cr29
    obtain ⟨rfl, Nq29, K29⟩ := hQ29
    have N29 := Fr.app N8 Nq29
    refine ODH.via (B := (T29.setTop (mkF m 212 #[.val (.int p0), .val (.int p1), .val (.int p2), .val (.int v15_1), .val (.int (0 : Int32)), .val (.int u29_5), .val (.int u40_6), .val (.int u51_7), .val (.ref b8), .val (.int v93_10), .val (.int u103_17), .val (.int v134_18), .val (.int (0 : Int32)), .val (.int v204_24)] [(.int (own_kept (own_al v15_1) (own_li4 (45 : Int32) (46 : Int32) (95 : Int32) (126 : Int32) v15_1) (own_li0  v15_1)))]))) st29 ?_
    refine ODH.go (B := (T29.setTop (mkF m 214 #[.val (.int p0), .val (.int p1), .val (.int p2), .val (.int v15_1), .val (.int (0 : Int32)), .val (.int u29_5), .val (.int u40_6), .val (.int u51_7), .val (.ref b8), .val (.int v93_10), .val (.int u103_17), .val (.int v134_18), .val (.int (0 : Int32)), .val (.int v204_24)] [(.int v204_24), (.int (own_kept (own_al v15_1) (own_li4 (45 : Int32) (46 : Int32) (95 : Int32) (126 : Int32) v15_1) (own_li0  v15_1)))]))) (fun t k => XS.iload X29.here hx rfl (hb hby at_212) rfl k) ?_
    obtain ⟨v222_30, hv222_30⟩ : ∃ z : Int32, z = (if (own_kept (own_al v15_1) (own_li4 (45 : Int32) (46 : Int32) (95 : Int32) (126 : Int32) v15_1) (own_li0  v15_1)) = v204_24 then (1 : Int32) else (0 : Int32)) := ⟨_, rfl⟩
    refine ODH.cut (B := (T29.setTop (mkF m 222 #[.val (.int p0), .val (.int p1), .val (.int p2), .val (.int v15_1), .val (.int (0 : Int32)), .val (.int u29_5), .val (.int u40_6), .val (.int u51_7), .val (.ref b8), .val (.int v93_10), .val (.int u103_17), .val (.int v134_18), .val (.int (0 : Int32)), .val (.int v204_24)] [(.int v222_30)]))) (fun J222_31 => ?_) ?_
    · skip
      by_cases c214_32 : (own_kept (own_al v15_1) (own_li4 (45 : Int32) (46 : Int32) (95 : Int32) (126 : Int32) v15_1) (own_li0  v15_1)) = v204_24
      · refine ODH.go (B := (T29.setTop (mkF m 217 #[.val (.int p0), .val (.int p1), .val (.int p2), .val (.int v15_1), .val (.int (0 : Int32)), .val (.int u29_5), .val (.int u40_6), .val (.int u51_7), .val (.ref b8), .val (.int v93_10), .val (.int u103_17), .val (.int v134_18), .val (.int (0 : Int32)), .val (.int v204_24)] []))) (fun t k => XS.icmpNo X29.here hx rfl (hb hby at_214) rfl (teq c214_32).2 k) ?_
        refine ODH.go (B := (T29.setTop (mkF m 218 #[.val (.int p0), .val (.int p1), .val (.int p2), .val (.int v15_1), .val (.int (0 : Int32)), .val (.int u29_5), .val (.int u40_6), .val (.int u51_7), .val (.ref b8), .val (.int v93_10), .val (.int u103_17), .val (.int v134_18), .val (.int (0 : Int32)), .val (.int v204_24)] [(.int (1 : Int32))]))) (fun t k => XS.iconst X29.here hx rfl (hb hby at_217) k) ?_
        refine ODH.go (B := (T29.setTop (mkF m 222 #[.val (.int p0), .val (.int p1), .val (.int p2), .val (.int v15_1), .val (.int (0 : Int32)), .val (.int u29_5), .val (.int u40_6), .val (.int u51_7), .val (.ref b8), .val (.int v93_10), .val (.int u103_17), .val (.int v134_18), .val (.int (0 : Int32)), .val (.int v204_24)] [(.int (1 : Int32))]))) (fun t k => XS.goto X29.here hx rfl (pc0 := 218) (pc' := 222) rfl (hb hby at_218) (by decide) (by decide) k) ?_
        rw [if_pos c214_32] at hv222_30
        rw [hv222_30] at J222_31
        exact J222_31
      · refine ODH.go (B := (T29.setTop (mkF m 221 #[.val (.int p0), .val (.int p1), .val (.int p2), .val (.int v15_1), .val (.int (0 : Int32)), .val (.int u29_5), .val (.int u40_6), .val (.int u51_7), .val (.ref b8), .val (.int v93_10), .val (.int u103_17), .val (.int v134_18), .val (.int (0 : Int32)), .val (.int v204_24)] []))) (fun t k => XS.icmpYes X29.here hx rfl (pc0 := 214) (pc' := 221) rfl (hb hby at_214) rfl (feq c214_32).2 (by decide) (by decide) k) ?_
        refine ODH.go (B := (T29.setTop (mkF m 222 #[.val (.int p0), .val (.int p1), .val (.int p2), .val (.int v15_1), .val (.int (0 : Int32)), .val (.int u29_5), .val (.int u40_6), .val (.int u51_7), .val (.ref b8), .val (.int v93_10), .val (.int u103_17), .val (.int v134_18), .val (.int (0 : Int32)), .val (.int v204_24)] [(.int (0 : Int32))]))) (fun t k => XS.iconst X29.here hx rfl (hb hby at_221) k) ?_
        rw [if_neg c214_32] at hv222_30
        rw [hv222_30] at J222_31
        exact J222_31
    have fin : v222_30 = 1 := own_fin0 r0 r1 r2 hv93_10 hv134_18 hv204_24 hv222_30 hu103_17
    rw [fin]
    exact ODH.ret X29 hx hlk hS29 hk29 (ch29.trans (CHv.at X29 hZ (EL_in hw) ch29.1)) (t := .boolean) Bd.returns rfl (Or.inl ⟨rfl, Or.inr (Or.inl rfl), _, rfl⟩) (hb hby at_222) (Nat.le_of_ble_eq_true rfl) (Nat.le_of_ble_eq_true rfl) ⟨rfl, N29⟩
  · subst q53
    refine ODH.go (B := (s₁.setTop (mkF m 55 #[.val (.int p0), .val (.int p1), .val (.int p2), .val (.int v15_1), .val (.int (1 : Int32)), .val (.int u29_5), .val (.int u40_6), .val (.int u51_7), .unset, .unset, .unset, .unset, .unset, .unset] [(.int (1 : Int32))]))) (fun t k => XS.iload X0.here hx rfl (hb hby at_53) rfl k) ?_
    refine ODH.go (B := (s₁.setTop (mkF m 57 #[.val (.int p0), .val (.int p1), .val (.int p2), .val (.int v15_1), .val (.int (1 : Int32)), .val (.int u29_5), .val (.int u40_6), .val (.int u51_7), .unset, .unset, .unset, .unset, .unset, .unset] [(.int u29_5), (.int (1 : Int32))]))) (fun t k => XS.iload X0.here hx rfl (hb hby at_55) rfl k) ?_
    refine ODH.go (B := (s₁.setTop (mkF m 59 #[.val (.int p0), .val (.int p1), .val (.int p2), .val (.int v15_1), .val (.int (1 : Int32)), .val (.int u29_5), .val (.int u40_6), .val (.int u51_7), .unset, .unset, .unset, .unset, .unset, .unset] [(.int u40_6), (.int u29_5), (.int (1 : Int32))]))) (fun t k => XS.iload X0.here hx rfl (hb hby at_57) rfl k) ?_
    refine ODH.go (B := (s₁.setTop (mkF m 61 #[.val (.int p0), .val (.int p1), .val (.int p2), .val (.int v15_1), .val (.int (1 : Int32)), .val (.int u29_5), .val (.int u40_6), .val (.int u51_7), .unset, .unset, .unset, .unset, .unset, .unset] [(.int u51_7), (.int u40_6), (.int u29_5), (.int (1 : Int32))]))) (fun t k => XS.iload X0.here hx rfl (hb hby at_59) rfl k) ?_
    obtain ⟨_, _, ⟨T33, L33, k33, n33⟩, -, X33, hs33, gr33, ⟨Lc33, hQ33, l33, y33, z33, cr33⟩, st33⟩ := callSS X0 hx (y := (⟨"com/example/triad/triad/rest/PercentEncodingIsKeptPinLaw", "keptOf", "(ICCC)Ljava/lang/String;"⟩ : MethodName)) hown (mvT hZ (Wd0 hw)) (mvT hZ (Wd1 hw)) (mvT hZ (Wd2 hw)) (mvT hZ (Wd3 hw)) (by decide) (backOfSH (W := 0) (rmKO1 l Z a0 hw [] u29_5 u40_6 u51_7 h0 h0.size (Nat.le_refl _) X00 r0 r1 r2 zc O2 P5) hZ (Wd3 hw) (Wd2 hw) (by decide) (by decide) (EL_in hw) ch0.1) (g := (mkF m 61 #[.val (.int p0), .val (.int p1), .val (.int p2), .val (.int v15_1), .val (.int (1 : Int32)), .val (.int u29_5), .val (.int u40_6), .val (.int u51_7), .unset, .unset, .unset, .unset, .unset, .unset] [(.int u51_7), (.int u40_6), (.int u29_5), (.int (1 : Int32))])) rfl (by rw [hml]; rfl) (argsL := [(.int (1 : Int32)), (.int u29_5), (.int u40_6), (.int u51_7)]) (rest := []) (lenOf pd9 rfl) rfl (by show 2 * 0 + _ ≤ _; exact Nat.le_of_eq rfl) (hb hby at_61) (fun _ _ => ⟨rfl, e0, (Nat.le_of_ble_eq_true rfl), (Nat.le_of_ble_eq_true rfl)⟩)
    dsimp only [Pt.U, Pt.locs, Pt.cells, Pt.slots] at X33 l33 y33 z33 st33 hQ33 hs33 gr33 cr33
    subst l33 y33 z33
    have X33 : Stand p l e _ (s.setVm T33.vm) m _ below meth c T33 _ _ _ := X33
    have hZ : Z.Warmed39 (s.setVm T33.vm).vm := State.Warmed39.trans (t := (s.setVm s.vm)) hZ hs33.1
    have hown : (s.setVm T33.vm).vm.findClass "com/example/triad/triad/rest/PercentEncodingIsKeptPinLaw" = some m.cls := by rw [show (s.setVm T33.vm).vm = T33.vm from rfl, hs33.1.alike.findClass]; exact hown
    have hS33 : s.Since T33.vm T33.heap.size := hS0.trans hs33 (Nat.le_trans (by rw [e0]; exact hk0) gr33)
    have hk33 : T33.heap.size ≤ T33.heap.size := Nat.le_refl _
    have ch33 := ch0.trans cr33
    obtain ⟨b33, t33, kb33, rfl, Nq33, K33, nt33, E33, C33, V33, A33⟩ := hQ33
    have N33 := Fr.app N0 Nq33
    refine ODH.via (B := (T33.setTop (mkF m 64 #[.val (.int p0), .val (.int p1), .val (.int p2), .val (.int v15_1), .val (.int (1 : Int32)), .val (.int u29_5), .val (.int u40_6), .val (.int u51_7), .unset, .unset, .unset, .unset, .unset, .unset] [(.ref b33)]))) st33 ?_
    refine ODH.go (B := (T33.setTop (mkF m 66 #[.val (.int p0), .val (.int p1), .val (.int p2), .val (.int v15_1), .val (.int (1 : Int32)), .val (.int u29_5), .val (.int u40_6), .val (.int u51_7), .val (.ref b33), .unset, .unset, .unset, .unset, .unset] []))) (fun t k => XS.astore X33.here hx rfl (hb hby at_64) rfl rfl (l' := #[.val (.int p0), .val (.int p1), .val (.int p2), .val (.int v15_1), .val (.int (1 : Int32)), .val (.int u29_5), .val (.int u40_6), .val (.int u51_7), .val (.ref b33), .unset, .unset, .unset, .unset, .unset]) rfl k) ?_
    refine ODH.go (B := (T33.setTop (mkF m 67 #[.val (.int p0), .val (.int p1), .val (.int p2), .val (.int v15_1), .val (.int (1 : Int32)), .val (.int u29_5), .val (.int u40_6), .val (.int u51_7), .val (.ref b33), .unset, .unset, .unset, .unset, .unset] [(.int v15_1)]))) (fun t k => XS.iloadN X33.here hx rfl (hb hby at_66) rfl k) ?_
    refine ODH.go (B := (T33.setTop (mkF m 69 #[.val (.int p0), .val (.int p1), .val (.int p2), .val (.int v15_1), .val (.int (1 : Int32)), .val (.int u29_5), .val (.int u40_6), .val (.int u51_7), .val (.ref b33), .unset, .unset, .unset, .unset, .unset] [(.int (97 : Int32)), (.int v15_1)]))) (fun t k => XS.bipush X33.here hx rfl (hb hby at_67) k) ?_
    refine ODH.go (B := (T33.setTop (mkF m 71 #[.val (.int p0), .val (.int p1), .val (.int p2), .val (.int v15_1), .val (.int (1 : Int32)), .val (.int u29_5), .val (.int u40_6), .val (.int u51_7), .val (.ref b33), .unset, .unset, .unset, .unset, .unset] [(.int (122 : Int32)), (.int (97 : Int32)), (.int v15_1)]))) (fun t k => XS.bipush X33.here hx rfl (hb hby at_69) k) ?_
    obtain ⟨_, _, ⟨T34, L34, k34, n34⟩, -, X34, ⟨Lc34, hQ34, l34, y34, z34⟩, st34⟩ := Jvm.LawKit.callS X33 hx (y := (⟨"com/example/triad/triad/rest/PercentEncodingIsKeptPinLaw", "between", "(III)Z"⟩ : MethodName)) hown (mvT hZ (Wd34 hw)) (mvT hZ (Wd35 hw)) (mvT hZ (Wd2 hw)) (mvT hZ (Wd36 hw)) (by decide) (backOf (W := 0) (rmB l Z a0 hw [] v15_1 (97 : Int32) (122 : Int32) T33.heap) hZ (Wd36 hw) (Wd2 hw) (by decide) (by decide)) (g := (mkF m 71 #[.val (.int p0), .val (.int p1), .val (.int p2), .val (.int v15_1), .val (.int (1 : Int32)), .val (.int u29_5), .val (.int u40_6), .val (.int u51_7), .val (.ref b33), .unset, .unset, .unset, .unset, .unset] [(.int (122 : Int32)), (.int (97 : Int32)), (.int v15_1)])) rfl (by rw [hml]; rfl) (argsL := [(.int v15_1), (.int (97 : Int32)), (.int (122 : Int32))]) (rest := []) (lenOf pd10 rfl) rfl (by show 2 * 0 + _ ≤ _; exact Nat.le_of_eq rfl) (hb hby at_71) (fun _ _ => ⟨rfl, rfl, (Nat.le_of_ble_eq_true rfl), (Nat.le_of_ble_eq_true rfl)⟩)
    dsimp only [Pt.U, Pt.locs, Pt.cells, Pt.slots] at X34 l34 y34 z34 st34 hQ34
    subst l34 y34 z34
    obtain ⟨rfl, rfl, e34⟩ := hQ34
    try rw [List.append_nil] at X34
    refine ODH.go (B := (T34.setTop (mkF m 74 #[.val (.int p0), .val (.int p1), .val (.int p2), .val (.int v15_1), .val (.int (1 : Int32)), .val (.int u29_5), .val (.int u40_6), .val (.int u51_7), .val (.ref b33), .unset, .unset, .unset, .unset, .unset] [(.int (own_btw v15_1 (97 : Int32) (122 : Int32)))]))) st34 ?_
    obtain ⟨v93_35, hv93_35⟩ : ∃ z : Int32, z = (if (own_btw v15_1 (97 : Int32) (122 : Int32)) = (0 : Int32) then (if (own_btw v15_1 (65 : Int32) (90 : Int32)) = (0 : Int32) then (0 : Int32) else (1 : Int32)) else (1 : Int32)) := ⟨_, rfl⟩
    refine ODH.cutX X34 (h := T33.heap) (B := fun T37 => (T37.setTop (mkF m 93 #[.val (.int p0), .val (.int p1), .val (.int p2), .val (.int v15_1), .val (.int (1 : Int32)), .val (.int u29_5), .val (.int u40_6), .val (.int u51_7), .val (.ref b33), .unset, .unset, .unset, .unset, .unset] [(.int v93_35)]))) (fun J93_36 => ?_) ?_
    · skip
      by_cases c74_38 : (own_btw v15_1 (97 : Int32) (122 : Int32)) = (0 : Int32)
      · refine ODH.go (B := (T34.setTop (mkF m 77 #[.val (.int p0), .val (.int p1), .val (.int p2), .val (.int v15_1), .val (.int (1 : Int32)), .val (.int u29_5), .val (.int u40_6), .val (.int u51_7), .val (.ref b33), .unset, .unset, .unset, .unset, .unset] []))) (fun t k => XS.ifNo X34.here hx rfl (hb hby at_74) rfl (by rw [if0]; exact (teq c74_38).2) k) ?_
        refine ODH.go (B := (T34.setTop (mkF m 78 #[.val (.int p0), .val (.int p1), .val (.int p2), .val (.int v15_1), .val (.int (1 : Int32)), .val (.int u29_5), .val (.int u40_6), .val (.int u51_7), .val (.ref b33), .unset, .unset, .unset, .unset, .unset] [(.int v15_1)]))) (fun t k => XS.iloadN X34.here hx rfl (hb hby at_77) rfl k) ?_
        refine ODH.go (B := (T34.setTop (mkF m 80 #[.val (.int p0), .val (.int p1), .val (.int p2), .val (.int v15_1), .val (.int (1 : Int32)), .val (.int u29_5), .val (.int u40_6), .val (.int u51_7), .val (.ref b33), .unset, .unset, .unset, .unset, .unset] [(.int (65 : Int32)), (.int v15_1)]))) (fun t k => XS.bipush X34.here hx rfl (hb hby at_78) k) ?_
        refine ODH.go (B := (T34.setTop (mkF m 82 #[.val (.int p0), .val (.int p1), .val (.int p2), .val (.int v15_1), .val (.int (1 : Int32)), .val (.int u29_5), .val (.int u40_6), .val (.int u51_7), .val (.ref b33), .unset, .unset, .unset, .unset, .unset] [(.int (90 : Int32)), (.int (65 : Int32)), (.int v15_1)]))) (fun t k => XS.bipush X34.here hx rfl (hb hby at_80) k) ?_
        obtain ⟨_, _, ⟨T39, L39, k39, n39⟩, -, X39, ⟨Lc39, hQ39, l39, y39, z39⟩, st39⟩ := Jvm.LawKit.callS X34 hx (y := (⟨"com/example/triad/triad/rest/PercentEncodingIsKeptPinLaw", "between", "(III)Z"⟩ : MethodName)) hown (mvT hZ (Wd34 hw)) (mvT hZ (Wd35 hw)) (mvT hZ (Wd2 hw)) (mvT hZ (Wd36 hw)) (by decide) (backOf (W := 0) (rmB l Z a0 hw [] v15_1 (65 : Int32) (90 : Int32) T33.heap) hZ (Wd36 hw) (Wd2 hw) (by decide) (by decide)) (g := (mkF m 82 #[.val (.int p0), .val (.int p1), .val (.int p2), .val (.int v15_1), .val (.int (1 : Int32)), .val (.int u29_5), .val (.int u40_6), .val (.int u51_7), .val (.ref b33), .unset, .unset, .unset, .unset, .unset] [(.int (90 : Int32)), (.int (65 : Int32)), (.int v15_1)])) rfl (by rw [hml]; rfl) (argsL := [(.int v15_1), (.int (65 : Int32)), (.int (90 : Int32))]) (rest := []) (lenOf pd10 rfl) rfl (by show 2 * 0 + _ ≤ _; exact Nat.le_of_eq rfl) (hb hby at_82) (fun _ _ => ⟨rfl, e34, (Nat.le_of_ble_eq_true rfl), (Nat.le_of_ble_eq_true rfl)⟩)
        dsimp only [Pt.U, Pt.locs, Pt.cells, Pt.slots] at X39 l39 y39 z39 st39 hQ39
        subst l39 y39 z39
        obtain ⟨rfl, rfl, e39⟩ := hQ39
        try rw [List.append_nil] at X39
        refine ODH.go (B := (T39.setTop (mkF m 85 #[.val (.int p0), .val (.int p1), .val (.int p2), .val (.int v15_1), .val (.int (1 : Int32)), .val (.int u29_5), .val (.int u40_6), .val (.int u51_7), .val (.ref b33), .unset, .unset, .unset, .unset, .unset] [(.int (own_btw v15_1 (65 : Int32) (90 : Int32)))]))) st39 ?_
        by_cases c85_40 : (own_btw v15_1 (65 : Int32) (90 : Int32)) = (0 : Int32)
        · refine ODH.go (B := (T39.setTop (mkF m 92 #[.val (.int p0), .val (.int p1), .val (.int p2), .val (.int v15_1), .val (.int (1 : Int32)), .val (.int u29_5), .val (.int u40_6), .val (.int u51_7), .val (.ref b33), .unset, .unset, .unset, .unset, .unset] []))) (fun t k => XS.ifYes X39.here hx rfl (pc0 := 85) (pc' := 92) rfl (hb hby at_85) rfl (by rw [if0]; exact (teq c85_40).1) (by decide) (by decide) k) ?_
          refine ODH.go (B := (T39.setTop (mkF m 93 #[.val (.int p0), .val (.int p1), .val (.int p2), .val (.int v15_1), .val (.int (1 : Int32)), .val (.int u29_5), .val (.int u40_6), .val (.int u51_7), .val (.ref b33), .unset, .unset, .unset, .unset, .unset] [(.int (0 : Int32))]))) (fun t k => XS.iconst X39.here hx rfl (hb hby at_92) k) ?_
          rw [if_pos c74_38, if_pos c85_40] at hv93_35
          rw [hv93_35] at J93_36
          exact J93_36 _ ⟨X39, e39⟩
        · refine ODH.go (B := (T39.setTop (mkF m 88 #[.val (.int p0), .val (.int p1), .val (.int p2), .val (.int v15_1), .val (.int (1 : Int32)), .val (.int u29_5), .val (.int u40_6), .val (.int u51_7), .val (.ref b33), .unset, .unset, .unset, .unset, .unset] []))) (fun t k => XS.ifNo X39.here hx rfl (hb hby at_85) rfl (by rw [if0]; exact (feq c85_40).1) k) ?_
          refine ODH.go (B := (T39.setTop (mkF m 89 #[.val (.int p0), .val (.int p1), .val (.int p2), .val (.int v15_1), .val (.int (1 : Int32)), .val (.int u29_5), .val (.int u40_6), .val (.int u51_7), .val (.ref b33), .unset, .unset, .unset, .unset, .unset] [(.int (1 : Int32))]))) (fun t k => XS.iconst X39.here hx rfl (hb hby at_88) k) ?_
          refine ODH.go (B := (T39.setTop (mkF m 93 #[.val (.int p0), .val (.int p1), .val (.int p2), .val (.int v15_1), .val (.int (1 : Int32)), .val (.int u29_5), .val (.int u40_6), .val (.int u51_7), .val (.ref b33), .unset, .unset, .unset, .unset, .unset] [(.int (1 : Int32))]))) (fun t k => XS.goto X39.here hx rfl (pc0 := 89) (pc' := 93) rfl (hb hby at_89) (by decide) (by decide) k) ?_
          rw [if_pos c74_38, if_neg c85_40] at hv93_35
          rw [hv93_35] at J93_36
          exact J93_36 _ ⟨X39, e39⟩
      · refine ODH.go (B := (T34.setTop (mkF m 88 #[.val (.int p0), .val (.int p1), .val (.int p2), .val (.int v15_1), .val (.int (1 : Int32)), .val (.int u29_5), .val (.int u40_6), .val (.int u51_7), .val (.ref b33), .unset, .unset, .unset, .unset, .unset] []))) (fun t k => XS.ifYes X34.here hx rfl (pc0 := 74) (pc' := 88) rfl (hb hby at_74) rfl (by rw [if0]; exact (feq c74_38).2) (by decide) (by decide) k) ?_
        refine ODH.go (B := (T34.setTop (mkF m 89 #[.val (.int p0), .val (.int p1), .val (.int p2), .val (.int v15_1), .val (.int (1 : Int32)), .val (.int u29_5), .val (.int u40_6), .val (.int u51_7), .val (.ref b33), .unset, .unset, .unset, .unset, .unset] [(.int (1 : Int32))]))) (fun t k => XS.iconst X34.here hx rfl (hb hby at_88) k) ?_
        refine ODH.go (B := (T34.setTop (mkF m 93 #[.val (.int p0), .val (.int p1), .val (.int p2), .val (.int v15_1), .val (.int (1 : Int32)), .val (.int u29_5), .val (.int u40_6), .val (.int u51_7), .val (.ref b33), .unset, .unset, .unset, .unset, .unset] [(.int (1 : Int32))]))) (fun t k => XS.goto X34.here hx rfl (pc0 := 89) (pc' := 93) rfl (hb hby at_89) (by decide) (by decide) k) ?_
        rw [if_neg c74_38] at hv93_35
        rw [hv93_35] at J93_36
        exact J93_36 _ ⟨X34, e34⟩
    rintro T37 ⟨XT37, eT37⟩
    show ODH _ _ _ _ _ _ _ _ _ (T37.setTop (mkF m 93 #[.val (.int p0), .val (.int p1), .val (.int p2), .val (.int v15_1), .val (.int (1 : Int32)), .val (.int u29_5), .val (.int u40_6), .val (.int u51_7), .val (.ref b33), .unset, .unset, .unset, .unset, .unset] [(.int v93_35)]))
    refine ODH.go (B := (T37.setTop (mkF m 95 #[.val (.int p0), .val (.int p1), .val (.int p2), .val (.int v15_1), .val (.int (1 : Int32)), .val (.int u29_5), .val (.int u40_6), .val (.int u51_7), .val (.ref b33), .val (.int v93_35), .unset, .unset, .unset, .unset] []))) (fun t k => XS.istore XT37.here hx rfl (hb hby at_93) rfl (l' := #[.val (.int p0), .val (.int p1), .val (.int p2), .val (.int v15_1), .val (.int (1 : Int32)), .val (.int u29_5), .val (.int u40_6), .val (.int u51_7), .val (.ref b33), .val (.int v93_35), .unset, .unset, .unset, .unset]) rfl k) ?_
    refine ODH.go (B := (T37.setTop (mkF m 96 #[.val (.int p0), .val (.int p1), .val (.int p2), .val (.int v15_1), .val (.int (1 : Int32)), .val (.int u29_5), .val (.int u40_6), .val (.int u51_7), .val (.ref b33), .val (.int v93_35), .unset, .unset, .unset, .unset] [(.int v15_1)]))) (fun t k => XS.iloadN XT37.here hx rfl (hb hby at_95) rfl k) ?_
    refine ODH.go (B := (T37.setTop (mkF m 98 #[.val (.int p0), .val (.int p1), .val (.int p2), .val (.int v15_1), .val (.int (1 : Int32)), .val (.int u29_5), .val (.int u40_6), .val (.int u51_7), .val (.ref b33), .val (.int v93_35), .unset, .unset, .unset, .unset] [(.int (48 : Int32)), (.int v15_1)]))) (fun t k => XS.bipush XT37.here hx rfl (hb hby at_96) k) ?_
    refine ODH.go (B := (T37.setTop (mkF m 100 #[.val (.int p0), .val (.int p1), .val (.int p2), .val (.int v15_1), .val (.int (1 : Int32)), .val (.int u29_5), .val (.int u40_6), .val (.int u51_7), .val (.ref b33), .val (.int v93_35), .unset, .unset, .unset, .unset] [(.int (57 : Int32)), (.int (48 : Int32)), (.int v15_1)]))) (fun t k => XS.bipush XT37.here hx rfl (hb hby at_98) k) ?_
    obtain ⟨_, _, ⟨T41, L41, k41, n41⟩, -, X41, ⟨Lc41, hQ41, l41, y41, z41⟩, st41⟩ := Jvm.LawKit.callS XT37 hx (y := (⟨"com/example/triad/triad/rest/PercentEncodingIsKeptPinLaw", "between", "(III)Z"⟩ : MethodName)) hown (mvT hZ (Wd34 hw)) (mvT hZ (Wd35 hw)) (mvT hZ (Wd2 hw)) (mvT hZ (Wd36 hw)) (by decide) (backOf (W := 0) (rmB l Z a0 hw [] v15_1 (48 : Int32) (57 : Int32) T33.heap) hZ (Wd36 hw) (Wd2 hw) (by decide) (by decide)) (g := (mkF m 100 #[.val (.int p0), .val (.int p1), .val (.int p2), .val (.int v15_1), .val (.int (1 : Int32)), .val (.int u29_5), .val (.int u40_6), .val (.int u51_7), .val (.ref b33), .val (.int v93_35), .unset, .unset, .unset, .unset] [(.int (57 : Int32)), (.int (48 : Int32)), (.int v15_1)])) rfl (by rw [hml]; rfl) (argsL := [(.int v15_1), (.int (48 : Int32)), (.int (57 : Int32))]) (rest := []) (lenOf pd10 rfl) rfl (by show 2 * 0 + _ ≤ _; exact Nat.le_of_eq rfl) (hb hby at_100) (fun _ _ => ⟨rfl, eT37, (Nat.le_of_ble_eq_true rfl), (Nat.le_of_ble_eq_true rfl)⟩)
    dsimp only [Pt.U, Pt.locs, Pt.cells, Pt.slots] at X41 l41 y41 z41 st41 hQ41
    subst l41 y41 z41
    obtain ⟨rfl, rfl, e41⟩ := hQ41
    try rw [List.append_nil] at X41
    refine ODH.go (B := (T41.setTop (mkF m 103 #[.val (.int p0), .val (.int p1), .val (.int p2), .val (.int v15_1), .val (.int (1 : Int32)), .val (.int u29_5), .val (.int u40_6), .val (.int u51_7), .val (.ref b33), .val (.int v93_35), .unset, .unset, .unset, .unset] [(.int (own_btw v15_1 (48 : Int32) (57 : Int32)))]))) st41 ?_
    refine ODH.go (B := (T41.setTop (mkF m 105 #[.val (.int p0), .val (.int p1), .val (.int p2), .val (.int v15_1), .val (.int (1 : Int32)), .val (.int u29_5), .val (.int u40_6), .val (.int u51_7), .val (.ref b33), .val (.int v93_35), .val (.int (own_btw v15_1 (48 : Int32) (57 : Int32))), .unset, .unset, .unset] []))) (fun t k => XS.istore X41.here hx rfl (hb hby at_103) rfl (l' := #[.val (.int p0), .val (.int p1), .val (.int p2), .val (.int v15_1), .val (.int (1 : Int32)), .val (.int u29_5), .val (.int u40_6), .val (.int u51_7), .val (.ref b33), .val (.int v93_35), .val (.int (own_btw v15_1 (48 : Int32) (57 : Int32))), .unset, .unset, .unset]) rfl k) ?_
    generalize hu103_42 : (own_btw v15_1 (48 : Int32) (57 : Int32)) = u103_42
    refine ODH.go (B := (T41.setTop (mkF m 106 #[.val (.int p0), .val (.int p1), .val (.int p2), .val (.int v15_1), .val (.int (1 : Int32)), .val (.int u29_5), .val (.int u40_6), .val (.int u51_7), .val (.ref b33), .val (.int v93_35), .val (.int u103_42), .unset, .unset, .unset] [(.int v15_1)]))) (fun t k => XS.iloadN X41.here hx rfl (hb hby at_105) rfl k) ?_
    refine ODH.go (B := (T41.setTop (mkF m 108 #[.val (.int p0), .val (.int p1), .val (.int p2), .val (.int v15_1), .val (.int (1 : Int32)), .val (.int u29_5), .val (.int u40_6), .val (.int u51_7), .val (.ref b33), .val (.int v93_35), .val (.int u103_42), .unset, .unset, .unset] [(.int (45 : Int32)), (.int v15_1)]))) (fun t k => XS.bipush X41.here hx rfl (hb hby at_106) k) ?_
    obtain ⟨v134_43, hv134_43⟩ : ∃ z : Int32, z = (if v15_1 = (45 : Int32) then (1 : Int32) else (if v15_1 = (46 : Int32) then (1 : Int32) else (if v15_1 = (95 : Int32) then (1 : Int32) else (if v15_1 = (126 : Int32) then (1 : Int32) else (0 : Int32))))) := ⟨_, rfl⟩
    refine ODH.cut (B := (T41.setTop (mkF m 134 #[.val (.int p0), .val (.int p1), .val (.int p2), .val (.int v15_1), .val (.int (1 : Int32)), .val (.int u29_5), .val (.int u40_6), .val (.int u51_7), .val (.ref b33), .val (.int v93_35), .val (.int u103_42), .unset, .unset, .unset] [(.int v134_43)]))) (fun J134_44 => ?_) ?_
    · skip
      by_cases c108_45 : v15_1 = (45 : Int32)
      · refine ODH.go (B := (T41.setTop (mkF m 129 #[.val (.int p0), .val (.int p1), .val (.int p2), .val (.int v15_1), .val (.int (1 : Int32)), .val (.int u29_5), .val (.int u40_6), .val (.int u51_7), .val (.ref b33), .val (.int v93_35), .val (.int u103_42), .unset, .unset, .unset] []))) (fun t k => XS.icmpYes X41.here hx rfl (pc0 := 108) (pc' := 129) rfl (hb hby at_108) rfl (teq c108_45).1 (by decide) (by decide) k) ?_
        refine ODH.go (B := (T41.setTop (mkF m 130 #[.val (.int p0), .val (.int p1), .val (.int p2), .val (.int v15_1), .val (.int (1 : Int32)), .val (.int u29_5), .val (.int u40_6), .val (.int u51_7), .val (.ref b33), .val (.int v93_35), .val (.int u103_42), .unset, .unset, .unset] [(.int (1 : Int32))]))) (fun t k => XS.iconst X41.here hx rfl (hb hby at_129) k) ?_
        refine ODH.go (B := (T41.setTop (mkF m 134 #[.val (.int p0), .val (.int p1), .val (.int p2), .val (.int v15_1), .val (.int (1 : Int32)), .val (.int u29_5), .val (.int u40_6), .val (.int u51_7), .val (.ref b33), .val (.int v93_35), .val (.int u103_42), .unset, .unset, .unset] [(.int (1 : Int32))]))) (fun t k => XS.goto X41.here hx rfl (pc0 := 130) (pc' := 134) rfl (hb hby at_130) (by decide) (by decide) k) ?_
        rw [if_pos c108_45] at hv134_43
        rw [hv134_43] at J134_44
        exact J134_44
      · refine ODH.go (B := (T41.setTop (mkF m 111 #[.val (.int p0), .val (.int p1), .val (.int p2), .val (.int v15_1), .val (.int (1 : Int32)), .val (.int u29_5), .val (.int u40_6), .val (.int u51_7), .val (.ref b33), .val (.int v93_35), .val (.int u103_42), .unset, .unset, .unset] []))) (fun t k => XS.icmpNo X41.here hx rfl (hb hby at_108) rfl (feq c108_45).1 k) ?_
        refine ODH.go (B := (T41.setTop (mkF m 112 #[.val (.int p0), .val (.int p1), .val (.int p2), .val (.int v15_1), .val (.int (1 : Int32)), .val (.int u29_5), .val (.int u40_6), .val (.int u51_7), .val (.ref b33), .val (.int v93_35), .val (.int u103_42), .unset, .unset, .unset] [(.int v15_1)]))) (fun t k => XS.iloadN X41.here hx rfl (hb hby at_111) rfl k) ?_
        refine ODH.go (B := (T41.setTop (mkF m 114 #[.val (.int p0), .val (.int p1), .val (.int p2), .val (.int v15_1), .val (.int (1 : Int32)), .val (.int u29_5), .val (.int u40_6), .val (.int u51_7), .val (.ref b33), .val (.int v93_35), .val (.int u103_42), .unset, .unset, .unset] [(.int (46 : Int32)), (.int v15_1)]))) (fun t k => XS.bipush X41.here hx rfl (hb hby at_112) k) ?_
        by_cases c114_46 : v15_1 = (46 : Int32)
        · refine ODH.go (B := (T41.setTop (mkF m 129 #[.val (.int p0), .val (.int p1), .val (.int p2), .val (.int v15_1), .val (.int (1 : Int32)), .val (.int u29_5), .val (.int u40_6), .val (.int u51_7), .val (.ref b33), .val (.int v93_35), .val (.int u103_42), .unset, .unset, .unset] []))) (fun t k => XS.icmpYes X41.here hx rfl (pc0 := 114) (pc' := 129) rfl (hb hby at_114) rfl (teq c114_46).1 (by decide) (by decide) k) ?_
          refine ODH.go (B := (T41.setTop (mkF m 130 #[.val (.int p0), .val (.int p1), .val (.int p2), .val (.int v15_1), .val (.int (1 : Int32)), .val (.int u29_5), .val (.int u40_6), .val (.int u51_7), .val (.ref b33), .val (.int v93_35), .val (.int u103_42), .unset, .unset, .unset] [(.int (1 : Int32))]))) (fun t k => XS.iconst X41.here hx rfl (hb hby at_129) k) ?_
          refine ODH.go (B := (T41.setTop (mkF m 134 #[.val (.int p0), .val (.int p1), .val (.int p2), .val (.int v15_1), .val (.int (1 : Int32)), .val (.int u29_5), .val (.int u40_6), .val (.int u51_7), .val (.ref b33), .val (.int v93_35), .val (.int u103_42), .unset, .unset, .unset] [(.int (1 : Int32))]))) (fun t k => XS.goto X41.here hx rfl (pc0 := 130) (pc' := 134) rfl (hb hby at_130) (by decide) (by decide) k) ?_
          rw [if_neg c108_45, if_pos c114_46] at hv134_43
          rw [hv134_43] at J134_44
          exact J134_44
        · refine ODH.go (B := (T41.setTop (mkF m 117 #[.val (.int p0), .val (.int p1), .val (.int p2), .val (.int v15_1), .val (.int (1 : Int32)), .val (.int u29_5), .val (.int u40_6), .val (.int u51_7), .val (.ref b33), .val (.int v93_35), .val (.int u103_42), .unset, .unset, .unset] []))) (fun t k => XS.icmpNo X41.here hx rfl (hb hby at_114) rfl (feq c114_46).1 k) ?_
          refine ODH.go (B := (T41.setTop (mkF m 118 #[.val (.int p0), .val (.int p1), .val (.int p2), .val (.int v15_1), .val (.int (1 : Int32)), .val (.int u29_5), .val (.int u40_6), .val (.int u51_7), .val (.ref b33), .val (.int v93_35), .val (.int u103_42), .unset, .unset, .unset] [(.int v15_1)]))) (fun t k => XS.iloadN X41.here hx rfl (hb hby at_117) rfl k) ?_
          refine ODH.go (B := (T41.setTop (mkF m 120 #[.val (.int p0), .val (.int p1), .val (.int p2), .val (.int v15_1), .val (.int (1 : Int32)), .val (.int u29_5), .val (.int u40_6), .val (.int u51_7), .val (.ref b33), .val (.int v93_35), .val (.int u103_42), .unset, .unset, .unset] [(.int (95 : Int32)), (.int v15_1)]))) (fun t k => XS.bipush X41.here hx rfl (hb hby at_118) k) ?_
          by_cases c120_47 : v15_1 = (95 : Int32)
          · refine ODH.go (B := (T41.setTop (mkF m 129 #[.val (.int p0), .val (.int p1), .val (.int p2), .val (.int v15_1), .val (.int (1 : Int32)), .val (.int u29_5), .val (.int u40_6), .val (.int u51_7), .val (.ref b33), .val (.int v93_35), .val (.int u103_42), .unset, .unset, .unset] []))) (fun t k => XS.icmpYes X41.here hx rfl (pc0 := 120) (pc' := 129) rfl (hb hby at_120) rfl (teq c120_47).1 (by decide) (by decide) k) ?_
            refine ODH.go (B := (T41.setTop (mkF m 130 #[.val (.int p0), .val (.int p1), .val (.int p2), .val (.int v15_1), .val (.int (1 : Int32)), .val (.int u29_5), .val (.int u40_6), .val (.int u51_7), .val (.ref b33), .val (.int v93_35), .val (.int u103_42), .unset, .unset, .unset] [(.int (1 : Int32))]))) (fun t k => XS.iconst X41.here hx rfl (hb hby at_129) k) ?_
            refine ODH.go (B := (T41.setTop (mkF m 134 #[.val (.int p0), .val (.int p1), .val (.int p2), .val (.int v15_1), .val (.int (1 : Int32)), .val (.int u29_5), .val (.int u40_6), .val (.int u51_7), .val (.ref b33), .val (.int v93_35), .val (.int u103_42), .unset, .unset, .unset] [(.int (1 : Int32))]))) (fun t k => XS.goto X41.here hx rfl (pc0 := 130) (pc' := 134) rfl (hb hby at_130) (by decide) (by decide) k) ?_
            rw [if_neg c108_45, if_neg c114_46, if_pos c120_47] at hv134_43
            rw [hv134_43] at J134_44
            exact J134_44
          · refine ODH.go (B := (T41.setTop (mkF m 123 #[.val (.int p0), .val (.int p1), .val (.int p2), .val (.int v15_1), .val (.int (1 : Int32)), .val (.int u29_5), .val (.int u40_6), .val (.int u51_7), .val (.ref b33), .val (.int v93_35), .val (.int u103_42), .unset, .unset, .unset] []))) (fun t k => XS.icmpNo X41.here hx rfl (hb hby at_120) rfl (feq c120_47).1 k) ?_
            refine ODH.go (B := (T41.setTop (mkF m 124 #[.val (.int p0), .val (.int p1), .val (.int p2), .val (.int v15_1), .val (.int (1 : Int32)), .val (.int u29_5), .val (.int u40_6), .val (.int u51_7), .val (.ref b33), .val (.int v93_35), .val (.int u103_42), .unset, .unset, .unset] [(.int v15_1)]))) (fun t k => XS.iloadN X41.here hx rfl (hb hby at_123) rfl k) ?_
            refine ODH.go (B := (T41.setTop (mkF m 126 #[.val (.int p0), .val (.int p1), .val (.int p2), .val (.int v15_1), .val (.int (1 : Int32)), .val (.int u29_5), .val (.int u40_6), .val (.int u51_7), .val (.ref b33), .val (.int v93_35), .val (.int u103_42), .unset, .unset, .unset] [(.int (126 : Int32)), (.int v15_1)]))) (fun t k => XS.bipush X41.here hx rfl (hb hby at_124) k) ?_
            by_cases c126_48 : v15_1 = (126 : Int32)
            · refine ODH.go (B := (T41.setTop (mkF m 129 #[.val (.int p0), .val (.int p1), .val (.int p2), .val (.int v15_1), .val (.int (1 : Int32)), .val (.int u29_5), .val (.int u40_6), .val (.int u51_7), .val (.ref b33), .val (.int v93_35), .val (.int u103_42), .unset, .unset, .unset] []))) (fun t k => XS.icmpNo X41.here hx rfl (hb hby at_126) rfl (teq c126_48).2 k) ?_
              refine ODH.go (B := (T41.setTop (mkF m 130 #[.val (.int p0), .val (.int p1), .val (.int p2), .val (.int v15_1), .val (.int (1 : Int32)), .val (.int u29_5), .val (.int u40_6), .val (.int u51_7), .val (.ref b33), .val (.int v93_35), .val (.int u103_42), .unset, .unset, .unset] [(.int (1 : Int32))]))) (fun t k => XS.iconst X41.here hx rfl (hb hby at_129) k) ?_
              refine ODH.go (B := (T41.setTop (mkF m 134 #[.val (.int p0), .val (.int p1), .val (.int p2), .val (.int v15_1), .val (.int (1 : Int32)), .val (.int u29_5), .val (.int u40_6), .val (.int u51_7), .val (.ref b33), .val (.int v93_35), .val (.int u103_42), .unset, .unset, .unset] [(.int (1 : Int32))]))) (fun t k => XS.goto X41.here hx rfl (pc0 := 130) (pc' := 134) rfl (hb hby at_130) (by decide) (by decide) k) ?_
              rw [if_neg c108_45, if_neg c114_46, if_neg c120_47, if_pos c126_48] at hv134_43
              rw [hv134_43] at J134_44
              exact J134_44
            · refine ODH.go (B := (T41.setTop (mkF m 133 #[.val (.int p0), .val (.int p1), .val (.int p2), .val (.int v15_1), .val (.int (1 : Int32)), .val (.int u29_5), .val (.int u40_6), .val (.int u51_7), .val (.ref b33), .val (.int v93_35), .val (.int u103_42), .unset, .unset, .unset] []))) (fun t k => XS.icmpYes X41.here hx rfl (pc0 := 126) (pc' := 133) rfl (hb hby at_126) rfl (feq c126_48).2 (by decide) (by decide) k) ?_
              refine ODH.go (B := (T41.setTop (mkF m 134 #[.val (.int p0), .val (.int p1), .val (.int p2), .val (.int v15_1), .val (.int (1 : Int32)), .val (.int u29_5), .val (.int u40_6), .val (.int u51_7), .val (.ref b33), .val (.int v93_35), .val (.int u103_42), .unset, .unset, .unset] [(.int (0 : Int32))]))) (fun t k => XS.iconst X41.here hx rfl (hb hby at_133) k) ?_
              rw [if_neg c108_45, if_neg c114_46, if_neg c120_47, if_neg c126_48] at hv134_43
              rw [hv134_43] at J134_44
              exact J134_44
    refine ODH.go (B := (T41.setTop (mkF m 136 #[.val (.int p0), .val (.int p1), .val (.int p2), .val (.int v15_1), .val (.int (1 : Int32)), .val (.int u29_5), .val (.int u40_6), .val (.int u51_7), .val (.ref b33), .val (.int v93_35), .val (.int u103_42), .val (.int v134_43), .unset, .unset] []))) (fun t k => XS.istore X41.here hx rfl (hb hby at_134) rfl (l' := #[.val (.int p0), .val (.int p1), .val (.int p2), .val (.int v15_1), .val (.int (1 : Int32)), .val (.int u29_5), .val (.int u40_6), .val (.int u51_7), .val (.ref b33), .val (.int v93_35), .val (.int u103_42), .val (.int v134_43), .unset, .unset]) rfl k) ?_
    refine ODH.go (B := (T41.setTop (mkF m 138 #[.val (.int p0), .val (.int p1), .val (.int p2), .val (.int v15_1), .val (.int (1 : Int32)), .val (.int u29_5), .val (.int u40_6), .val (.int u51_7), .val (.ref b33), .val (.int v93_35), .val (.int u103_42), .val (.int v134_43), .unset, .unset] [(.int (1 : Int32))]))) (fun t k => XS.iload X41.here hx rfl (hb hby at_136) rfl k) ?_
    refine ODH.go (B := (T41.setTop (mkF m 139 #[.val (.int p0), .val (.int p1), .val (.int p2), .val (.int v15_1), .val (.int (1 : Int32)), .val (.int u29_5), .val (.int u40_6), .val (.int u51_7), .val (.ref b33), .val (.int v93_35), .val (.int u103_42), .val (.int v134_43), .unset, .unset] [(.int (1 : Int32)), (.int (1 : Int32))]))) (fun t k => XS.iconst X41.here hx rfl (hb hby at_138) k) ?_
    refine ODH.go (B := (T41.setTop (mkF m 142 #[.val (.int p0), .val (.int p1), .val (.int p2), .val (.int v15_1), .val (.int (1 : Int32)), .val (.int u29_5), .val (.int u40_6), .val (.int u51_7), .val (.ref b33), .val (.int v93_35), .val (.int u103_42), .val (.int v134_43), .unset, .unset] []))) (fun t k => XS.icmpNo X41.here hx rfl (hb hby at_139) rfl (flt (by decide : ¬ (1 : Int32) < (1 : Int32))).1 k) ?_
    refine ODH.go (B := (T41.setTop (mkF m 143 #[.val (.int p0), .val (.int p1), .val (.int p2), .val (.int v15_1), .val (.int (1 : Int32)), .val (.int u29_5), .val (.int u40_6), .val (.int u51_7), .val (.ref b33), .val (.int v93_35), .val (.int u103_42), .val (.int v134_43), .unset, .unset] [(.int v15_1)]))) (fun t k => XS.iloadN X41.here hx rfl (hb hby at_142) rfl k) ?_
    refine ODH.go (B := (T41.setTop (mkF m 145 #[.val (.int p0), .val (.int p1), .val (.int p2), .val (.int v15_1), .val (.int (1 : Int32)), .val (.int u29_5), .val (.int u40_6), .val (.int u51_7), .val (.ref b33), .val (.int v93_35), .val (.int u103_42), .val (.int v134_43), .unset, .unset] [(.int u29_5), (.int v15_1)]))) (fun t k => XS.iload X41.here hx rfl (hb hby at_143) rfl k) ?_
    obtain ⟨v177_49, hv177_49⟩ : ∃ z : Int32, z = (if v15_1 = u29_5 then (1 : Int32) else (0 : Int32)) := ⟨_, rfl⟩
    refine ODH.cut (B := (T41.setTop (mkF m 177 #[.val (.int p0), .val (.int p1), .val (.int p2), .val (.int v15_1), .val (.int (1 : Int32)), .val (.int u29_5), .val (.int u40_6), .val (.int u51_7), .val (.ref b33), .val (.int v93_35), .val (.int u103_42), .val (.int v134_43), .unset, .unset] [(.int v177_49)]))) (fun J177_50 => ?_) ?_
    · skip
      by_cases c145_51 : v15_1 = u29_5
      · refine ODH.go (B := (T41.setTop (mkF m 172 #[.val (.int p0), .val (.int p1), .val (.int p2), .val (.int v15_1), .val (.int (1 : Int32)), .val (.int u29_5), .val (.int u40_6), .val (.int u51_7), .val (.ref b33), .val (.int v93_35), .val (.int u103_42), .val (.int v134_43), .unset, .unset] []))) (fun t k => XS.icmpYes X41.here hx rfl (pc0 := 145) (pc' := 172) rfl (hb hby at_145) rfl (teq c145_51).1 (by decide) (by decide) k) ?_
        refine ODH.go (B := (T41.setTop (mkF m 173 #[.val (.int p0), .val (.int p1), .val (.int p2), .val (.int v15_1), .val (.int (1 : Int32)), .val (.int u29_5), .val (.int u40_6), .val (.int u51_7), .val (.ref b33), .val (.int v93_35), .val (.int u103_42), .val (.int v134_43), .unset, .unset] [(.int (1 : Int32))]))) (fun t k => XS.iconst X41.here hx rfl (hb hby at_172) k) ?_
        refine ODH.go (B := (T41.setTop (mkF m 177 #[.val (.int p0), .val (.int p1), .val (.int p2), .val (.int v15_1), .val (.int (1 : Int32)), .val (.int u29_5), .val (.int u40_6), .val (.int u51_7), .val (.ref b33), .val (.int v93_35), .val (.int u103_42), .val (.int v134_43), .unset, .unset] [(.int (1 : Int32))]))) (fun t k => XS.goto X41.here hx rfl (pc0 := 173) (pc' := 177) rfl (hb hby at_173) (by decide) (by decide) k) ?_
        rw [if_pos c145_51] at hv177_49
        rw [hv177_49] at J177_50
        exact J177_50
      · refine ODH.go (B := (T41.setTop (mkF m 148 #[.val (.int p0), .val (.int p1), .val (.int p2), .val (.int v15_1), .val (.int (1 : Int32)), .val (.int u29_5), .val (.int u40_6), .val (.int u51_7), .val (.ref b33), .val (.int v93_35), .val (.int u103_42), .val (.int v134_43), .unset, .unset] []))) (fun t k => XS.icmpNo X41.here hx rfl (hb hby at_145) rfl (feq c145_51).1 k) ?_
        refine ODH.go (B := (T41.setTop (mkF m 150 #[.val (.int p0), .val (.int p1), .val (.int p2), .val (.int v15_1), .val (.int (1 : Int32)), .val (.int u29_5), .val (.int u40_6), .val (.int u51_7), .val (.ref b33), .val (.int v93_35), .val (.int u103_42), .val (.int v134_43), .unset, .unset] [(.int (1 : Int32))]))) (fun t k => XS.iload X41.here hx rfl (hb hby at_148) rfl k) ?_
        refine ODH.go (B := (T41.setTop (mkF m 151 #[.val (.int p0), .val (.int p1), .val (.int p2), .val (.int v15_1), .val (.int (1 : Int32)), .val (.int u29_5), .val (.int u40_6), .val (.int u51_7), .val (.ref b33), .val (.int v93_35), .val (.int u103_42), .val (.int v134_43), .unset, .unset] [(.int (2 : Int32)), (.int (1 : Int32))]))) (fun t k => XS.iconst X41.here hx rfl (hb hby at_150) k) ?_
        refine ODH.go (B := (T41.setTop (mkF m 160 #[.val (.int p0), .val (.int p1), .val (.int p2), .val (.int v15_1), .val (.int (1 : Int32)), .val (.int u29_5), .val (.int u40_6), .val (.int u51_7), .val (.ref b33), .val (.int v93_35), .val (.int u103_42), .val (.int v134_43), .unset, .unset] []))) (fun t k => XS.icmpYes X41.here hx rfl (pc0 := 151) (pc' := 160) rfl (hb hby at_151) rfl (tlt (by decide : (1 : Int32) < (2 : Int32))).1 (by decide) (by decide) k) ?_
        refine ODH.go (B := (T41.setTop (mkF m 162 #[.val (.int p0), .val (.int p1), .val (.int p2), .val (.int v15_1), .val (.int (1 : Int32)), .val (.int u29_5), .val (.int u40_6), .val (.int u51_7), .val (.ref b33), .val (.int v93_35), .val (.int u103_42), .val (.int v134_43), .unset, .unset] [(.int (1 : Int32))]))) (fun t k => XS.iload X41.here hx rfl (hb hby at_160) rfl k) ?_
        refine ODH.go (B := (T41.setTop (mkF m 163 #[.val (.int p0), .val (.int p1), .val (.int p2), .val (.int v15_1), .val (.int (1 : Int32)), .val (.int u29_5), .val (.int u40_6), .val (.int u51_7), .val (.ref b33), .val (.int v93_35), .val (.int u103_42), .val (.int v134_43), .unset, .unset] [(.int (3 : Int32)), (.int (1 : Int32))]))) (fun t k => XS.iconst X41.here hx rfl (hb hby at_162) k) ?_
        refine ODH.go (B := (T41.setTop (mkF m 176 #[.val (.int p0), .val (.int p1), .val (.int p2), .val (.int v15_1), .val (.int (1 : Int32)), .val (.int u29_5), .val (.int u40_6), .val (.int u51_7), .val (.ref b33), .val (.int v93_35), .val (.int u103_42), .val (.int v134_43), .unset, .unset] []))) (fun t k => XS.icmpYes X41.here hx rfl (pc0 := 163) (pc' := 176) rfl (hb hby at_163) rfl (tlt (by decide : (1 : Int32) < (3 : Int32))).1 (by decide) (by decide) k) ?_
        refine ODH.go (B := (T41.setTop (mkF m 177 #[.val (.int p0), .val (.int p1), .val (.int p2), .val (.int v15_1), .val (.int (1 : Int32)), .val (.int u29_5), .val (.int u40_6), .val (.int u51_7), .val (.ref b33), .val (.int v93_35), .val (.int u103_42), .val (.int v134_43), .unset, .unset] [(.int (0 : Int32))]))) (fun t k => XS.iconst X41.here hx rfl (hb hby at_176) k) ?_
        rw [if_neg c145_51] at hv177_49
        rw [hv177_49] at J177_50
        exact J177_50
    refine ODH.go (B := (T41.setTop (mkF m 179 #[.val (.int p0), .val (.int p1), .val (.int p2), .val (.int v15_1), .val (.int (1 : Int32)), .val (.int u29_5), .val (.int u40_6), .val (.int u51_7), .val (.ref b33), .val (.int v93_35), .val (.int u103_42), .val (.int v134_43), .val (.int v177_49), .unset] []))) (fun t k => XS.istore X41.here hx rfl (hb hby at_177) rfl (l' := #[.val (.int p0), .val (.int p1), .val (.int p2), .val (.int v15_1), .val (.int (1 : Int32)), .val (.int u29_5), .val (.int u40_6), .val (.int u51_7), .val (.ref b33), .val (.int v93_35), .val (.int u103_42), .val (.int v134_43), .val (.int v177_49), .unset]) rfl k) ?_
    refine ODH.go (B := (T41.setTop (mkF m 181 #[.val (.int p0), .val (.int p1), .val (.int p2), .val (.int v15_1), .val (.int (1 : Int32)), .val (.int u29_5), .val (.int u40_6), .val (.int u51_7), .val (.ref b33), .val (.int v93_35), .val (.int u103_42), .val (.int v134_43), .val (.int v177_49), .unset] [(.int v93_35)]))) (fun t k => XS.iload X41.here hx rfl (hb hby at_179) rfl k) ?_
    obtain ⟨v204_52, hv204_52⟩ : ∃ z : Int32, z = (if v93_35 = (0 : Int32) then (if u103_42 = (0 : Int32) then (if v134_43 = (0 : Int32) then (if v177_49 = (0 : Int32) then (0 : Int32) else (1 : Int32)) else (1 : Int32)) else (1 : Int32)) else (1 : Int32)) := ⟨_, rfl⟩
    refine ODH.cut (B := (T41.setTop (mkF m 204 #[.val (.int p0), .val (.int p1), .val (.int p2), .val (.int v15_1), .val (.int (1 : Int32)), .val (.int u29_5), .val (.int u40_6), .val (.int u51_7), .val (.ref b33), .val (.int v93_35), .val (.int u103_42), .val (.int v134_43), .val (.int v177_49), .unset] [(.int v204_52)]))) (fun J204_53 => ?_) ?_
    · skip
      by_cases c181_54 : v93_35 = (0 : Int32)
      · refine ODH.go (B := (T41.setTop (mkF m 184 #[.val (.int p0), .val (.int p1), .val (.int p2), .val (.int v15_1), .val (.int (1 : Int32)), .val (.int u29_5), .val (.int u40_6), .val (.int u51_7), .val (.ref b33), .val (.int v93_35), .val (.int u103_42), .val (.int v134_43), .val (.int v177_49), .unset] []))) (fun t k => XS.ifNo X41.here hx rfl (hb hby at_181) rfl (by rw [if0]; exact (teq c181_54).2) k) ?_
        refine ODH.go (B := (T41.setTop (mkF m 186 #[.val (.int p0), .val (.int p1), .val (.int p2), .val (.int v15_1), .val (.int (1 : Int32)), .val (.int u29_5), .val (.int u40_6), .val (.int u51_7), .val (.ref b33), .val (.int v93_35), .val (.int u103_42), .val (.int v134_43), .val (.int v177_49), .unset] [(.int u103_42)]))) (fun t k => XS.iload X41.here hx rfl (hb hby at_184) rfl k) ?_
        by_cases c186_55 : u103_42 = (0 : Int32)
        · refine ODH.go (B := (T41.setTop (mkF m 189 #[.val (.int p0), .val (.int p1), .val (.int p2), .val (.int v15_1), .val (.int (1 : Int32)), .val (.int u29_5), .val (.int u40_6), .val (.int u51_7), .val (.ref b33), .val (.int v93_35), .val (.int u103_42), .val (.int v134_43), .val (.int v177_49), .unset] []))) (fun t k => XS.ifNo X41.here hx rfl (hb hby at_186) rfl (by rw [if0]; exact (teq c186_55).2) k) ?_
          refine ODH.go (B := (T41.setTop (mkF m 191 #[.val (.int p0), .val (.int p1), .val (.int p2), .val (.int v15_1), .val (.int (1 : Int32)), .val (.int u29_5), .val (.int u40_6), .val (.int u51_7), .val (.ref b33), .val (.int v93_35), .val (.int u103_42), .val (.int v134_43), .val (.int v177_49), .unset] [(.int v134_43)]))) (fun t k => XS.iload X41.here hx rfl (hb hby at_189) rfl k) ?_
          by_cases c191_56 : v134_43 = (0 : Int32)
          · refine ODH.go (B := (T41.setTop (mkF m 194 #[.val (.int p0), .val (.int p1), .val (.int p2), .val (.int v15_1), .val (.int (1 : Int32)), .val (.int u29_5), .val (.int u40_6), .val (.int u51_7), .val (.ref b33), .val (.int v93_35), .val (.int u103_42), .val (.int v134_43), .val (.int v177_49), .unset] []))) (fun t k => XS.ifNo X41.here hx rfl (hb hby at_191) rfl (by rw [if0]; exact (teq c191_56).2) k) ?_
            refine ODH.go (B := (T41.setTop (mkF m 196 #[.val (.int p0), .val (.int p1), .val (.int p2), .val (.int v15_1), .val (.int (1 : Int32)), .val (.int u29_5), .val (.int u40_6), .val (.int u51_7), .val (.ref b33), .val (.int v93_35), .val (.int u103_42), .val (.int v134_43), .val (.int v177_49), .unset] [(.int v177_49)]))) (fun t k => XS.iload X41.here hx rfl (hb hby at_194) rfl k) ?_
            by_cases c196_57 : v177_49 = (0 : Int32)
            · refine ODH.go (B := (T41.setTop (mkF m 203 #[.val (.int p0), .val (.int p1), .val (.int p2), .val (.int v15_1), .val (.int (1 : Int32)), .val (.int u29_5), .val (.int u40_6), .val (.int u51_7), .val (.ref b33), .val (.int v93_35), .val (.int u103_42), .val (.int v134_43), .val (.int v177_49), .unset] []))) (fun t k => XS.ifYes X41.here hx rfl (pc0 := 196) (pc' := 203) rfl (hb hby at_196) rfl (by rw [if0]; exact (teq c196_57).1) (by decide) (by decide) k) ?_
              refine ODH.go (B := (T41.setTop (mkF m 204 #[.val (.int p0), .val (.int p1), .val (.int p2), .val (.int v15_1), .val (.int (1 : Int32)), .val (.int u29_5), .val (.int u40_6), .val (.int u51_7), .val (.ref b33), .val (.int v93_35), .val (.int u103_42), .val (.int v134_43), .val (.int v177_49), .unset] [(.int (0 : Int32))]))) (fun t k => XS.iconst X41.here hx rfl (hb hby at_203) k) ?_
              rw [if_pos c181_54, if_pos c186_55, if_pos c191_56, if_pos c196_57] at hv204_52
              rw [hv204_52] at J204_53
              exact J204_53
            · refine ODH.go (B := (T41.setTop (mkF m 199 #[.val (.int p0), .val (.int p1), .val (.int p2), .val (.int v15_1), .val (.int (1 : Int32)), .val (.int u29_5), .val (.int u40_6), .val (.int u51_7), .val (.ref b33), .val (.int v93_35), .val (.int u103_42), .val (.int v134_43), .val (.int v177_49), .unset] []))) (fun t k => XS.ifNo X41.here hx rfl (hb hby at_196) rfl (by rw [if0]; exact (feq c196_57).1) k) ?_
              refine ODH.go (B := (T41.setTop (mkF m 200 #[.val (.int p0), .val (.int p1), .val (.int p2), .val (.int v15_1), .val (.int (1 : Int32)), .val (.int u29_5), .val (.int u40_6), .val (.int u51_7), .val (.ref b33), .val (.int v93_35), .val (.int u103_42), .val (.int v134_43), .val (.int v177_49), .unset] [(.int (1 : Int32))]))) (fun t k => XS.iconst X41.here hx rfl (hb hby at_199) k) ?_
              refine ODH.go (B := (T41.setTop (mkF m 204 #[.val (.int p0), .val (.int p1), .val (.int p2), .val (.int v15_1), .val (.int (1 : Int32)), .val (.int u29_5), .val (.int u40_6), .val (.int u51_7), .val (.ref b33), .val (.int v93_35), .val (.int u103_42), .val (.int v134_43), .val (.int v177_49), .unset] [(.int (1 : Int32))]))) (fun t k => XS.goto X41.here hx rfl (pc0 := 200) (pc' := 204) rfl (hb hby at_200) (by decide) (by decide) k) ?_
              rw [if_pos c181_54, if_pos c186_55, if_pos c191_56, if_neg c196_57] at hv204_52
              rw [hv204_52] at J204_53
              exact J204_53
          · refine ODH.go (B := (T41.setTop (mkF m 199 #[.val (.int p0), .val (.int p1), .val (.int p2), .val (.int v15_1), .val (.int (1 : Int32)), .val (.int u29_5), .val (.int u40_6), .val (.int u51_7), .val (.ref b33), .val (.int v93_35), .val (.int u103_42), .val (.int v134_43), .val (.int v177_49), .unset] []))) (fun t k => XS.ifYes X41.here hx rfl (pc0 := 191) (pc' := 199) rfl (hb hby at_191) rfl (by rw [if0]; exact (feq c191_56).2) (by decide) (by decide) k) ?_
            refine ODH.go (B := (T41.setTop (mkF m 200 #[.val (.int p0), .val (.int p1), .val (.int p2), .val (.int v15_1), .val (.int (1 : Int32)), .val (.int u29_5), .val (.int u40_6), .val (.int u51_7), .val (.ref b33), .val (.int v93_35), .val (.int u103_42), .val (.int v134_43), .val (.int v177_49), .unset] [(.int (1 : Int32))]))) (fun t k => XS.iconst X41.here hx rfl (hb hby at_199) k) ?_
            refine ODH.go (B := (T41.setTop (mkF m 204 #[.val (.int p0), .val (.int p1), .val (.int p2), .val (.int v15_1), .val (.int (1 : Int32)), .val (.int u29_5), .val (.int u40_6), .val (.int u51_7), .val (.ref b33), .val (.int v93_35), .val (.int u103_42), .val (.int v134_43), .val (.int v177_49), .unset] [(.int (1 : Int32))]))) (fun t k => XS.goto X41.here hx rfl (pc0 := 200) (pc' := 204) rfl (hb hby at_200) (by decide) (by decide) k) ?_
            rw [if_pos c181_54, if_pos c186_55, if_neg c191_56] at hv204_52
            rw [hv204_52] at J204_53
            exact J204_53
        · refine ODH.go (B := (T41.setTop (mkF m 199 #[.val (.int p0), .val (.int p1), .val (.int p2), .val (.int v15_1), .val (.int (1 : Int32)), .val (.int u29_5), .val (.int u40_6), .val (.int u51_7), .val (.ref b33), .val (.int v93_35), .val (.int u103_42), .val (.int v134_43), .val (.int v177_49), .unset] []))) (fun t k => XS.ifYes X41.here hx rfl (pc0 := 186) (pc' := 199) rfl (hb hby at_186) rfl (by rw [if0]; exact (feq c186_55).2) (by decide) (by decide) k) ?_
          refine ODH.go (B := (T41.setTop (mkF m 200 #[.val (.int p0), .val (.int p1), .val (.int p2), .val (.int v15_1), .val (.int (1 : Int32)), .val (.int u29_5), .val (.int u40_6), .val (.int u51_7), .val (.ref b33), .val (.int v93_35), .val (.int u103_42), .val (.int v134_43), .val (.int v177_49), .unset] [(.int (1 : Int32))]))) (fun t k => XS.iconst X41.here hx rfl (hb hby at_199) k) ?_
          refine ODH.go (B := (T41.setTop (mkF m 204 #[.val (.int p0), .val (.int p1), .val (.int p2), .val (.int v15_1), .val (.int (1 : Int32)), .val (.int u29_5), .val (.int u40_6), .val (.int u51_7), .val (.ref b33), .val (.int v93_35), .val (.int u103_42), .val (.int v134_43), .val (.int v177_49), .unset] [(.int (1 : Int32))]))) (fun t k => XS.goto X41.here hx rfl (pc0 := 200) (pc' := 204) rfl (hb hby at_200) (by decide) (by decide) k) ?_
          rw [if_pos c181_54, if_neg c186_55] at hv204_52
          rw [hv204_52] at J204_53
          exact J204_53
      · refine ODH.go (B := (T41.setTop (mkF m 199 #[.val (.int p0), .val (.int p1), .val (.int p2), .val (.int v15_1), .val (.int (1 : Int32)), .val (.int u29_5), .val (.int u40_6), .val (.int u51_7), .val (.ref b33), .val (.int v93_35), .val (.int u103_42), .val (.int v134_43), .val (.int v177_49), .unset] []))) (fun t k => XS.ifYes X41.here hx rfl (pc0 := 181) (pc' := 199) rfl (hb hby at_181) rfl (by rw [if0]; exact (feq c181_54).2) (by decide) (by decide) k) ?_
        refine ODH.go (B := (T41.setTop (mkF m 200 #[.val (.int p0), .val (.int p1), .val (.int p2), .val (.int v15_1), .val (.int (1 : Int32)), .val (.int u29_5), .val (.int u40_6), .val (.int u51_7), .val (.ref b33), .val (.int v93_35), .val (.int u103_42), .val (.int v134_43), .val (.int v177_49), .unset] [(.int (1 : Int32))]))) (fun t k => XS.iconst X41.here hx rfl (hb hby at_199) k) ?_
        refine ODH.go (B := (T41.setTop (mkF m 204 #[.val (.int p0), .val (.int p1), .val (.int p2), .val (.int v15_1), .val (.int (1 : Int32)), .val (.int u29_5), .val (.int u40_6), .val (.int u51_7), .val (.ref b33), .val (.int v93_35), .val (.int u103_42), .val (.int v134_43), .val (.int v177_49), .unset] [(.int (1 : Int32))]))) (fun t k => XS.goto X41.here hx rfl (pc0 := 200) (pc' := 204) rfl (hb hby at_200) (by decide) (by decide) k) ?_
        rw [if_neg c181_54] at hv204_52
        rw [hv204_52] at J204_53
        exact J204_53
    refine ODH.go (B := (T41.setTop (mkF m 206 #[.val (.int p0), .val (.int p1), .val (.int p2), .val (.int v15_1), .val (.int (1 : Int32)), .val (.int u29_5), .val (.int u40_6), .val (.int u51_7), .val (.ref b33), .val (.int v93_35), .val (.int u103_42), .val (.int v134_43), .val (.int v177_49), .val (.int v204_52)] []))) (fun t k => XS.istore X41.here hx rfl (hb hby at_204) rfl (l' := #[.val (.int p0), .val (.int p1), .val (.int p2), .val (.int v15_1), .val (.int (1 : Int32)), .val (.int u29_5), .val (.int u40_6), .val (.int u51_7), .val (.ref b33), .val (.int v93_35), .val (.int u103_42), .val (.int v134_43), .val (.int v177_49), .val (.int v204_52)]) rfl k) ?_
    refine ODH.go (B := (T41.setTop (mkF m 207 #[.val (.int p0), .val (.int p1), .val (.int p2), .val (.int v15_1), .val (.int (1 : Int32)), .val (.int u29_5), .val (.int u40_6), .val (.int u51_7), .val (.ref b33), .val (.int v93_35), .val (.int u103_42), .val (.int v134_43), .val (.int v177_49), .val (.int v204_52)] [(.int v15_1)]))) (fun t k => XS.iloadN X41.here hx rfl (hb hby at_206) rfl k) ?_
    refine ODH.go (B := (T41.setTop (mkF m 209 #[.val (.int p0), .val (.int p1), .val (.int p2), .val (.int v15_1), .val (.int (1 : Int32)), .val (.int u29_5), .val (.int u40_6), .val (.int u51_7), .val (.ref b33), .val (.int v93_35), .val (.int u103_42), .val (.int v134_43), .val (.int v177_49), .val (.int v204_52)] [(.ref b33), (.int v15_1)]))) (fun t k => XS.aload X41.here hx rfl (hb hby at_207) rfl rfl k) ?_
    obtain ⟨_, _, ⟨T58, L58, k58, n58⟩, -, X58, hs58, gr58, ⟨Lc58, hQ58, l58, y58, z58, cr58⟩, st58⟩ := callSS X41 hx (y := (⟨"com/example/triad/triad/rest/PercentEncoding", "isKept", "(ILjava/lang/String;)Z"⟩ : MethodName)) hown (mvT hZ (Wd37 hw)) (mvT hZ (Wd38 hw)) (mvT hZ (Wd39 hw)) (mvT hZ (Wd40 hw)) (by decide) (backOfSH (W := 0) (rmK1 l Z a0 hw [] v15_1 b33 T33.heap E33 C33 t33 kb33 V33 (u29_5.toInt8.toInt32) A33 h0.size (X00.keep K33 all0) (Nat.le_trans (Nat.le_refl _) K33.1) zc O2 P5) hZ (Wd40 hw) (Wd39 hw) (by decide) (by decide) (EL_in hw) ch33.1) (g := (mkF m 209 #[.val (.int p0), .val (.int p1), .val (.int p2), .val (.int v15_1), .val (.int (1 : Int32)), .val (.int u29_5), .val (.int u40_6), .val (.int u51_7), .val (.ref b33), .val (.int v93_35), .val (.int u103_42), .val (.int v134_43), .val (.int v177_49), .val (.int v204_52)] [(.ref b33), (.int v15_1)])) rfl (by rw [hml]; rfl) (argsL := [(.int v15_1), (.ref b33)]) (rest := []) (lenOf pd11 rfl) rfl (by show 2 * 0 + _ ≤ _; exact Nat.le_of_eq rfl) (hb hby at_209) (fun _ _ => ⟨rfl, e41, (Nat.le_of_ble_eq_true rfl), (Nat.le_of_ble_eq_true rfl)⟩)
    dsimp only [Pt.U, Pt.locs, Pt.cells, Pt.slots] at X58 l58 y58 z58 st58 hQ58 hs58 gr58 cr58
    subst l58 y58 z58
    have X58 : Stand p l e _ (s.setVm T58.vm) m _ below meth c T58 _ _ _ := X58
    have hZ : Z.Warmed39 (s.setVm T58.vm).vm := State.Warmed39.trans (t := (s.setVm T33.vm)) hZ hs58.1
    have hown : (s.setVm T58.vm).vm.findClass "com/example/triad/triad/rest/PercentEncodingIsKeptPinLaw" = some m.cls := by rw [show (s.setVm T58.vm).vm = T58.vm from rfl, hs58.1.alike.findClass]; exact hown
    have hS58 : s.Since T58.vm T58.heap.size := hS33.trans hs58 (Nat.le_trans (by rw [e41]; exact hk33) gr58)
    have hk58 : T58.heap.size ≤ T58.heap.size := Nat.le_refl _
    have ch58 := ch33.trans cr58
    obtain ⟨rfl, Nq58, K58⟩ := hQ58
    have N58 := Fr.app N33 Nq58
    refine ODH.via (B := (T58.setTop (mkF m 212 #[.val (.int p0), .val (.int p1), .val (.int p2), .val (.int v15_1), .val (.int (1 : Int32)), .val (.int u29_5), .val (.int u40_6), .val (.int u51_7), .val (.ref b33), .val (.int v93_35), .val (.int u103_42), .val (.int v134_43), .val (.int v177_49), .val (.int v204_52)] [(.int (own_kept (own_al v15_1) (own_li4 (45 : Int32) (46 : Int32) (95 : Int32) (126 : Int32) v15_1) (own_li1 (u29_5.toInt8.toInt32) v15_1)))]))) st58 ?_
    refine ODH.go (B := (T58.setTop (mkF m 214 #[.val (.int p0), .val (.int p1), .val (.int p2), .val (.int v15_1), .val (.int (1 : Int32)), .val (.int u29_5), .val (.int u40_6), .val (.int u51_7), .val (.ref b33), .val (.int v93_35), .val (.int u103_42), .val (.int v134_43), .val (.int v177_49), .val (.int v204_52)] [(.int v204_52), (.int (own_kept (own_al v15_1) (own_li4 (45 : Int32) (46 : Int32) (95 : Int32) (126 : Int32) v15_1) (own_li1 (u29_5.toInt8.toInt32) v15_1)))]))) (fun t k => XS.iload X58.here hx rfl (hb hby at_212) rfl k) ?_
    obtain ⟨v222_59, hv222_59⟩ : ∃ z : Int32, z = (if (own_kept (own_al v15_1) (own_li4 (45 : Int32) (46 : Int32) (95 : Int32) (126 : Int32) v15_1) (own_li1 (u29_5.toInt8.toInt32) v15_1)) = v204_52 then (1 : Int32) else (0 : Int32)) := ⟨_, rfl⟩
    refine ODH.cut (B := (T58.setTop (mkF m 222 #[.val (.int p0), .val (.int p1), .val (.int p2), .val (.int v15_1), .val (.int (1 : Int32)), .val (.int u29_5), .val (.int u40_6), .val (.int u51_7), .val (.ref b33), .val (.int v93_35), .val (.int u103_42), .val (.int v134_43), .val (.int v177_49), .val (.int v204_52)] [(.int v222_59)]))) (fun J222_60 => ?_) ?_
    · skip
      by_cases c214_61 : (own_kept (own_al v15_1) (own_li4 (45 : Int32) (46 : Int32) (95 : Int32) (126 : Int32) v15_1) (own_li1 (u29_5.toInt8.toInt32) v15_1)) = v204_52
      · refine ODH.go (B := (T58.setTop (mkF m 217 #[.val (.int p0), .val (.int p1), .val (.int p2), .val (.int v15_1), .val (.int (1 : Int32)), .val (.int u29_5), .val (.int u40_6), .val (.int u51_7), .val (.ref b33), .val (.int v93_35), .val (.int u103_42), .val (.int v134_43), .val (.int v177_49), .val (.int v204_52)] []))) (fun t k => XS.icmpNo X58.here hx rfl (hb hby at_214) rfl (teq c214_61).2 k) ?_
        refine ODH.go (B := (T58.setTop (mkF m 218 #[.val (.int p0), .val (.int p1), .val (.int p2), .val (.int v15_1), .val (.int (1 : Int32)), .val (.int u29_5), .val (.int u40_6), .val (.int u51_7), .val (.ref b33), .val (.int v93_35), .val (.int u103_42), .val (.int v134_43), .val (.int v177_49), .val (.int v204_52)] [(.int (1 : Int32))]))) (fun t k => XS.iconst X58.here hx rfl (hb hby at_217) k) ?_
        refine ODH.go (B := (T58.setTop (mkF m 222 #[.val (.int p0), .val (.int p1), .val (.int p2), .val (.int v15_1), .val (.int (1 : Int32)), .val (.int u29_5), .val (.int u40_6), .val (.int u51_7), .val (.ref b33), .val (.int v93_35), .val (.int u103_42), .val (.int v134_43), .val (.int v177_49), .val (.int v204_52)] [(.int (1 : Int32))]))) (fun t k => XS.goto X58.here hx rfl (pc0 := 218) (pc' := 222) rfl (hb hby at_218) (by decide) (by decide) k) ?_
        rw [if_pos c214_61] at hv222_59
        rw [hv222_59] at J222_60
        exact J222_60
      · refine ODH.go (B := (T58.setTop (mkF m 221 #[.val (.int p0), .val (.int p1), .val (.int p2), .val (.int v15_1), .val (.int (1 : Int32)), .val (.int u29_5), .val (.int u40_6), .val (.int u51_7), .val (.ref b33), .val (.int v93_35), .val (.int u103_42), .val (.int v134_43), .val (.int v177_49), .val (.int v204_52)] []))) (fun t k => XS.icmpYes X58.here hx rfl (pc0 := 214) (pc' := 221) rfl (hb hby at_214) rfl (feq c214_61).2 (by decide) (by decide) k) ?_
        refine ODH.go (B := (T58.setTop (mkF m 222 #[.val (.int p0), .val (.int p1), .val (.int p2), .val (.int v15_1), .val (.int (1 : Int32)), .val (.int u29_5), .val (.int u40_6), .val (.int u51_7), .val (.ref b33), .val (.int v93_35), .val (.int u103_42), .val (.int v134_43), .val (.int v177_49), .val (.int v204_52)] [(.int (0 : Int32))]))) (fun t k => XS.iconst X58.here hx rfl (hb hby at_221) k) ?_
        rw [if_neg c214_61] at hv222_59
        rw [hv222_59] at J222_60
        exact J222_60
    have fin : v222_59 = 1 := own_fin1 r0 r1 r2 hv93_35 hv134_43 hv177_49 hv204_52 hv222_59 hu103_42
    rw [fin]
    exact ODH.ret X58 hx hlk hS58 hk58 (ch58.trans (CHv.at X58 hZ (EL_in hw) ch58.1)) (t := .boolean) Bd.returns rfl (Or.inl ⟨rfl, Or.inr (Or.inl rfl), _, rfl⟩) (hb hby at_222) (Nat.le_of_ble_eq_true rfl) (Nat.le_of_ble_eq_true rfl) ⟨rfl, N58⟩
  · subst q53
    refine ODH.go (B := (s₁.setTop (mkF m 55 #[.val (.int p0), .val (.int p1), .val (.int p2), .val (.int v15_1), .val (.int (2 : Int32)), .val (.int u29_5), .val (.int u40_6), .val (.int u51_7), .unset, .unset, .unset, .unset, .unset, .unset] [(.int (2 : Int32))]))) (fun t k => XS.iload X0.here hx rfl (hb hby at_53) rfl k) ?_
    refine ODH.go (B := (s₁.setTop (mkF m 57 #[.val (.int p0), .val (.int p1), .val (.int p2), .val (.int v15_1), .val (.int (2 : Int32)), .val (.int u29_5), .val (.int u40_6), .val (.int u51_7), .unset, .unset, .unset, .unset, .unset, .unset] [(.int u29_5), (.int (2 : Int32))]))) (fun t k => XS.iload X0.here hx rfl (hb hby at_55) rfl k) ?_
    refine ODH.go (B := (s₁.setTop (mkF m 59 #[.val (.int p0), .val (.int p1), .val (.int p2), .val (.int v15_1), .val (.int (2 : Int32)), .val (.int u29_5), .val (.int u40_6), .val (.int u51_7), .unset, .unset, .unset, .unset, .unset, .unset] [(.int u40_6), (.int u29_5), (.int (2 : Int32))]))) (fun t k => XS.iload X0.here hx rfl (hb hby at_57) rfl k) ?_
    refine ODH.go (B := (s₁.setTop (mkF m 61 #[.val (.int p0), .val (.int p1), .val (.int p2), .val (.int v15_1), .val (.int (2 : Int32)), .val (.int u29_5), .val (.int u40_6), .val (.int u51_7), .unset, .unset, .unset, .unset, .unset, .unset] [(.int u51_7), (.int u40_6), (.int u29_5), (.int (2 : Int32))]))) (fun t k => XS.iload X0.here hx rfl (hb hby at_59) rfl k) ?_
    obtain ⟨_, _, ⟨T62, L62, k62, n62⟩, -, X62, hs62, gr62, ⟨Lc62, hQ62, l62, y62, z62, cr62⟩, st62⟩ := callSS X0 hx (y := (⟨"com/example/triad/triad/rest/PercentEncodingIsKeptPinLaw", "keptOf", "(ICCC)Ljava/lang/String;"⟩ : MethodName)) hown (mvT hZ (Wd0 hw)) (mvT hZ (Wd1 hw)) (mvT hZ (Wd2 hw)) (mvT hZ (Wd3 hw)) (by decide) (backOfSH (W := 0) (rmKO2 l Z a0 hw [] u29_5 u40_6 u51_7 h0 h0.size (Nat.le_refl _) X00 r0 r1 r2 zc O2 P5) hZ (Wd3 hw) (Wd2 hw) (by decide) (by decide) (EL_in hw) ch0.1) (g := (mkF m 61 #[.val (.int p0), .val (.int p1), .val (.int p2), .val (.int v15_1), .val (.int (2 : Int32)), .val (.int u29_5), .val (.int u40_6), .val (.int u51_7), .unset, .unset, .unset, .unset, .unset, .unset] [(.int u51_7), (.int u40_6), (.int u29_5), (.int (2 : Int32))])) rfl (by rw [hml]; rfl) (argsL := [(.int (2 : Int32)), (.int u29_5), (.int u40_6), (.int u51_7)]) (rest := []) (lenOf pd9 rfl) rfl (by show 2 * 0 + _ ≤ _; exact Nat.le_of_eq rfl) (hb hby at_61) (fun _ _ => ⟨rfl, e0, (Nat.le_of_ble_eq_true rfl), (Nat.le_of_ble_eq_true rfl)⟩)
    dsimp only [Pt.U, Pt.locs, Pt.cells, Pt.slots] at X62 l62 y62 z62 st62 hQ62 hs62 gr62 cr62
    subst l62 y62 z62
    have X62 : Stand p l e _ (s.setVm T62.vm) m _ below meth c T62 _ _ _ := X62
    have hZ : Z.Warmed39 (s.setVm T62.vm).vm := State.Warmed39.trans (t := (s.setVm s.vm)) hZ hs62.1
    have hown : (s.setVm T62.vm).vm.findClass "com/example/triad/triad/rest/PercentEncodingIsKeptPinLaw" = some m.cls := by rw [show (s.setVm T62.vm).vm = T62.vm from rfl, hs62.1.alike.findClass]; exact hown
    have hS62 : s.Since T62.vm T62.heap.size := hS0.trans hs62 (Nat.le_trans (by rw [e0]; exact hk0) gr62)
    have hk62 : T62.heap.size ≤ T62.heap.size := Nat.le_refl _
    have ch62 := ch0.trans cr62
    obtain ⟨b62, t62, kb62, rfl, Nq62, K62, nt62, E62, C62, V62, A62⟩ := hQ62
    have N62 := Fr.app N0 Nq62
    refine ODH.via (B := (T62.setTop (mkF m 64 #[.val (.int p0), .val (.int p1), .val (.int p2), .val (.int v15_1), .val (.int (2 : Int32)), .val (.int u29_5), .val (.int u40_6), .val (.int u51_7), .unset, .unset, .unset, .unset, .unset, .unset] [(.ref b62)]))) st62 ?_
    refine ODH.go (B := (T62.setTop (mkF m 66 #[.val (.int p0), .val (.int p1), .val (.int p2), .val (.int v15_1), .val (.int (2 : Int32)), .val (.int u29_5), .val (.int u40_6), .val (.int u51_7), .val (.ref b62), .unset, .unset, .unset, .unset, .unset] []))) (fun t k => XS.astore X62.here hx rfl (hb hby at_64) rfl rfl (l' := #[.val (.int p0), .val (.int p1), .val (.int p2), .val (.int v15_1), .val (.int (2 : Int32)), .val (.int u29_5), .val (.int u40_6), .val (.int u51_7), .val (.ref b62), .unset, .unset, .unset, .unset, .unset]) rfl k) ?_
    refine ODH.go (B := (T62.setTop (mkF m 67 #[.val (.int p0), .val (.int p1), .val (.int p2), .val (.int v15_1), .val (.int (2 : Int32)), .val (.int u29_5), .val (.int u40_6), .val (.int u51_7), .val (.ref b62), .unset, .unset, .unset, .unset, .unset] [(.int v15_1)]))) (fun t k => XS.iloadN X62.here hx rfl (hb hby at_66) rfl k) ?_
    refine ODH.go (B := (T62.setTop (mkF m 69 #[.val (.int p0), .val (.int p1), .val (.int p2), .val (.int v15_1), .val (.int (2 : Int32)), .val (.int u29_5), .val (.int u40_6), .val (.int u51_7), .val (.ref b62), .unset, .unset, .unset, .unset, .unset] [(.int (97 : Int32)), (.int v15_1)]))) (fun t k => XS.bipush X62.here hx rfl (hb hby at_67) k) ?_
    refine ODH.go (B := (T62.setTop (mkF m 71 #[.val (.int p0), .val (.int p1), .val (.int p2), .val (.int v15_1), .val (.int (2 : Int32)), .val (.int u29_5), .val (.int u40_6), .val (.int u51_7), .val (.ref b62), .unset, .unset, .unset, .unset, .unset] [(.int (122 : Int32)), (.int (97 : Int32)), (.int v15_1)]))) (fun t k => XS.bipush X62.here hx rfl (hb hby at_69) k) ?_
    obtain ⟨_, _, ⟨T63, L63, k63, n63⟩, -, X63, ⟨Lc63, hQ63, l63, y63, z63⟩, st63⟩ := Jvm.LawKit.callS X62 hx (y := (⟨"com/example/triad/triad/rest/PercentEncodingIsKeptPinLaw", "between", "(III)Z"⟩ : MethodName)) hown (mvT hZ (Wd34 hw)) (mvT hZ (Wd35 hw)) (mvT hZ (Wd2 hw)) (mvT hZ (Wd36 hw)) (by decide) (backOf (W := 0) (rmB l Z a0 hw [] v15_1 (97 : Int32) (122 : Int32) T62.heap) hZ (Wd36 hw) (Wd2 hw) (by decide) (by decide)) (g := (mkF m 71 #[.val (.int p0), .val (.int p1), .val (.int p2), .val (.int v15_1), .val (.int (2 : Int32)), .val (.int u29_5), .val (.int u40_6), .val (.int u51_7), .val (.ref b62), .unset, .unset, .unset, .unset, .unset] [(.int (122 : Int32)), (.int (97 : Int32)), (.int v15_1)])) rfl (by rw [hml]; rfl) (argsL := [(.int v15_1), (.int (97 : Int32)), (.int (122 : Int32))]) (rest := []) (lenOf pd10 rfl) rfl (by show 2 * 0 + _ ≤ _; exact Nat.le_of_eq rfl) (hb hby at_71) (fun _ _ => ⟨rfl, rfl, (Nat.le_of_ble_eq_true rfl), (Nat.le_of_ble_eq_true rfl)⟩)
    dsimp only [Pt.U, Pt.locs, Pt.cells, Pt.slots] at X63 l63 y63 z63 st63 hQ63
    subst l63 y63 z63
    obtain ⟨rfl, rfl, e63⟩ := hQ63
    try rw [List.append_nil] at X63
    refine ODH.go (B := (T63.setTop (mkF m 74 #[.val (.int p0), .val (.int p1), .val (.int p2), .val (.int v15_1), .val (.int (2 : Int32)), .val (.int u29_5), .val (.int u40_6), .val (.int u51_7), .val (.ref b62), .unset, .unset, .unset, .unset, .unset] [(.int (own_btw v15_1 (97 : Int32) (122 : Int32)))]))) st63 ?_
    obtain ⟨v93_64, hv93_64⟩ : ∃ z : Int32, z = (if (own_btw v15_1 (97 : Int32) (122 : Int32)) = (0 : Int32) then (if (own_btw v15_1 (65 : Int32) (90 : Int32)) = (0 : Int32) then (0 : Int32) else (1 : Int32)) else (1 : Int32)) := ⟨_, rfl⟩
    refine ODH.cutX X63 (h := T62.heap) (B := fun T66 => (T66.setTop (mkF m 93 #[.val (.int p0), .val (.int p1), .val (.int p2), .val (.int v15_1), .val (.int (2 : Int32)), .val (.int u29_5), .val (.int u40_6), .val (.int u51_7), .val (.ref b62), .unset, .unset, .unset, .unset, .unset] [(.int v93_64)]))) (fun J93_65 => ?_) ?_
    · skip
      by_cases c74_67 : (own_btw v15_1 (97 : Int32) (122 : Int32)) = (0 : Int32)
      · refine ODH.go (B := (T63.setTop (mkF m 77 #[.val (.int p0), .val (.int p1), .val (.int p2), .val (.int v15_1), .val (.int (2 : Int32)), .val (.int u29_5), .val (.int u40_6), .val (.int u51_7), .val (.ref b62), .unset, .unset, .unset, .unset, .unset] []))) (fun t k => XS.ifNo X63.here hx rfl (hb hby at_74) rfl (by rw [if0]; exact (teq c74_67).2) k) ?_
        refine ODH.go (B := (T63.setTop (mkF m 78 #[.val (.int p0), .val (.int p1), .val (.int p2), .val (.int v15_1), .val (.int (2 : Int32)), .val (.int u29_5), .val (.int u40_6), .val (.int u51_7), .val (.ref b62), .unset, .unset, .unset, .unset, .unset] [(.int v15_1)]))) (fun t k => XS.iloadN X63.here hx rfl (hb hby at_77) rfl k) ?_
        refine ODH.go (B := (T63.setTop (mkF m 80 #[.val (.int p0), .val (.int p1), .val (.int p2), .val (.int v15_1), .val (.int (2 : Int32)), .val (.int u29_5), .val (.int u40_6), .val (.int u51_7), .val (.ref b62), .unset, .unset, .unset, .unset, .unset] [(.int (65 : Int32)), (.int v15_1)]))) (fun t k => XS.bipush X63.here hx rfl (hb hby at_78) k) ?_
        refine ODH.go (B := (T63.setTop (mkF m 82 #[.val (.int p0), .val (.int p1), .val (.int p2), .val (.int v15_1), .val (.int (2 : Int32)), .val (.int u29_5), .val (.int u40_6), .val (.int u51_7), .val (.ref b62), .unset, .unset, .unset, .unset, .unset] [(.int (90 : Int32)), (.int (65 : Int32)), (.int v15_1)]))) (fun t k => XS.bipush X63.here hx rfl (hb hby at_80) k) ?_
        obtain ⟨_, _, ⟨T68, L68, k68, n68⟩, -, X68, ⟨Lc68, hQ68, l68, y68, z68⟩, st68⟩ := Jvm.LawKit.callS X63 hx (y := (⟨"com/example/triad/triad/rest/PercentEncodingIsKeptPinLaw", "between", "(III)Z"⟩ : MethodName)) hown (mvT hZ (Wd34 hw)) (mvT hZ (Wd35 hw)) (mvT hZ (Wd2 hw)) (mvT hZ (Wd36 hw)) (by decide) (backOf (W := 0) (rmB l Z a0 hw [] v15_1 (65 : Int32) (90 : Int32) T62.heap) hZ (Wd36 hw) (Wd2 hw) (by decide) (by decide)) (g := (mkF m 82 #[.val (.int p0), .val (.int p1), .val (.int p2), .val (.int v15_1), .val (.int (2 : Int32)), .val (.int u29_5), .val (.int u40_6), .val (.int u51_7), .val (.ref b62), .unset, .unset, .unset, .unset, .unset] [(.int (90 : Int32)), (.int (65 : Int32)), (.int v15_1)])) rfl (by rw [hml]; rfl) (argsL := [(.int v15_1), (.int (65 : Int32)), (.int (90 : Int32))]) (rest := []) (lenOf pd10 rfl) rfl (by show 2 * 0 + _ ≤ _; exact Nat.le_of_eq rfl) (hb hby at_82) (fun _ _ => ⟨rfl, e63, (Nat.le_of_ble_eq_true rfl), (Nat.le_of_ble_eq_true rfl)⟩)
        dsimp only [Pt.U, Pt.locs, Pt.cells, Pt.slots] at X68 l68 y68 z68 st68 hQ68
        subst l68 y68 z68
        obtain ⟨rfl, rfl, e68⟩ := hQ68
        try rw [List.append_nil] at X68
        refine ODH.go (B := (T68.setTop (mkF m 85 #[.val (.int p0), .val (.int p1), .val (.int p2), .val (.int v15_1), .val (.int (2 : Int32)), .val (.int u29_5), .val (.int u40_6), .val (.int u51_7), .val (.ref b62), .unset, .unset, .unset, .unset, .unset] [(.int (own_btw v15_1 (65 : Int32) (90 : Int32)))]))) st68 ?_
        by_cases c85_69 : (own_btw v15_1 (65 : Int32) (90 : Int32)) = (0 : Int32)
        · refine ODH.go (B := (T68.setTop (mkF m 92 #[.val (.int p0), .val (.int p1), .val (.int p2), .val (.int v15_1), .val (.int (2 : Int32)), .val (.int u29_5), .val (.int u40_6), .val (.int u51_7), .val (.ref b62), .unset, .unset, .unset, .unset, .unset] []))) (fun t k => XS.ifYes X68.here hx rfl (pc0 := 85) (pc' := 92) rfl (hb hby at_85) rfl (by rw [if0]; exact (teq c85_69).1) (by decide) (by decide) k) ?_
          refine ODH.go (B := (T68.setTop (mkF m 93 #[.val (.int p0), .val (.int p1), .val (.int p2), .val (.int v15_1), .val (.int (2 : Int32)), .val (.int u29_5), .val (.int u40_6), .val (.int u51_7), .val (.ref b62), .unset, .unset, .unset, .unset, .unset] [(.int (0 : Int32))]))) (fun t k => XS.iconst X68.here hx rfl (hb hby at_92) k) ?_
          rw [if_pos c74_67, if_pos c85_69] at hv93_64
          rw [hv93_64] at J93_65
          exact J93_65 _ ⟨X68, e68⟩
        · refine ODH.go (B := (T68.setTop (mkF m 88 #[.val (.int p0), .val (.int p1), .val (.int p2), .val (.int v15_1), .val (.int (2 : Int32)), .val (.int u29_5), .val (.int u40_6), .val (.int u51_7), .val (.ref b62), .unset, .unset, .unset, .unset, .unset] []))) (fun t k => XS.ifNo X68.here hx rfl (hb hby at_85) rfl (by rw [if0]; exact (feq c85_69).1) k) ?_
          refine ODH.go (B := (T68.setTop (mkF m 89 #[.val (.int p0), .val (.int p1), .val (.int p2), .val (.int v15_1), .val (.int (2 : Int32)), .val (.int u29_5), .val (.int u40_6), .val (.int u51_7), .val (.ref b62), .unset, .unset, .unset, .unset, .unset] [(.int (1 : Int32))]))) (fun t k => XS.iconst X68.here hx rfl (hb hby at_88) k) ?_
          refine ODH.go (B := (T68.setTop (mkF m 93 #[.val (.int p0), .val (.int p1), .val (.int p2), .val (.int v15_1), .val (.int (2 : Int32)), .val (.int u29_5), .val (.int u40_6), .val (.int u51_7), .val (.ref b62), .unset, .unset, .unset, .unset, .unset] [(.int (1 : Int32))]))) (fun t k => XS.goto X68.here hx rfl (pc0 := 89) (pc' := 93) rfl (hb hby at_89) (by decide) (by decide) k) ?_
          rw [if_pos c74_67, if_neg c85_69] at hv93_64
          rw [hv93_64] at J93_65
          exact J93_65 _ ⟨X68, e68⟩
      · refine ODH.go (B := (T63.setTop (mkF m 88 #[.val (.int p0), .val (.int p1), .val (.int p2), .val (.int v15_1), .val (.int (2 : Int32)), .val (.int u29_5), .val (.int u40_6), .val (.int u51_7), .val (.ref b62), .unset, .unset, .unset, .unset, .unset] []))) (fun t k => XS.ifYes X63.here hx rfl (pc0 := 74) (pc' := 88) rfl (hb hby at_74) rfl (by rw [if0]; exact (feq c74_67).2) (by decide) (by decide) k) ?_
        refine ODH.go (B := (T63.setTop (mkF m 89 #[.val (.int p0), .val (.int p1), .val (.int p2), .val (.int v15_1), .val (.int (2 : Int32)), .val (.int u29_5), .val (.int u40_6), .val (.int u51_7), .val (.ref b62), .unset, .unset, .unset, .unset, .unset] [(.int (1 : Int32))]))) (fun t k => XS.iconst X63.here hx rfl (hb hby at_88) k) ?_
        refine ODH.go (B := (T63.setTop (mkF m 93 #[.val (.int p0), .val (.int p1), .val (.int p2), .val (.int v15_1), .val (.int (2 : Int32)), .val (.int u29_5), .val (.int u40_6), .val (.int u51_7), .val (.ref b62), .unset, .unset, .unset, .unset, .unset] [(.int (1 : Int32))]))) (fun t k => XS.goto X63.here hx rfl (pc0 := 89) (pc' := 93) rfl (hb hby at_89) (by decide) (by decide) k) ?_
        rw [if_neg c74_67] at hv93_64
        rw [hv93_64] at J93_65
        exact J93_65 _ ⟨X63, e63⟩
    rintro T66 ⟨XT66, eT66⟩
    show ODH _ _ _ _ _ _ _ _ _ (T66.setTop (mkF m 93 #[.val (.int p0), .val (.int p1), .val (.int p2), .val (.int v15_1), .val (.int (2 : Int32)), .val (.int u29_5), .val (.int u40_6), .val (.int u51_7), .val (.ref b62), .unset, .unset, .unset, .unset, .unset] [(.int v93_64)]))
    refine ODH.go (B := (T66.setTop (mkF m 95 #[.val (.int p0), .val (.int p1), .val (.int p2), .val (.int v15_1), .val (.int (2 : Int32)), .val (.int u29_5), .val (.int u40_6), .val (.int u51_7), .val (.ref b62), .val (.int v93_64), .unset, .unset, .unset, .unset] []))) (fun t k => XS.istore XT66.here hx rfl (hb hby at_93) rfl (l' := #[.val (.int p0), .val (.int p1), .val (.int p2), .val (.int v15_1), .val (.int (2 : Int32)), .val (.int u29_5), .val (.int u40_6), .val (.int u51_7), .val (.ref b62), .val (.int v93_64), .unset, .unset, .unset, .unset]) rfl k) ?_
    refine ODH.go (B := (T66.setTop (mkF m 96 #[.val (.int p0), .val (.int p1), .val (.int p2), .val (.int v15_1), .val (.int (2 : Int32)), .val (.int u29_5), .val (.int u40_6), .val (.int u51_7), .val (.ref b62), .val (.int v93_64), .unset, .unset, .unset, .unset] [(.int v15_1)]))) (fun t k => XS.iloadN XT66.here hx rfl (hb hby at_95) rfl k) ?_
    refine ODH.go (B := (T66.setTop (mkF m 98 #[.val (.int p0), .val (.int p1), .val (.int p2), .val (.int v15_1), .val (.int (2 : Int32)), .val (.int u29_5), .val (.int u40_6), .val (.int u51_7), .val (.ref b62), .val (.int v93_64), .unset, .unset, .unset, .unset] [(.int (48 : Int32)), (.int v15_1)]))) (fun t k => XS.bipush XT66.here hx rfl (hb hby at_96) k) ?_
    refine ODH.go (B := (T66.setTop (mkF m 100 #[.val (.int p0), .val (.int p1), .val (.int p2), .val (.int v15_1), .val (.int (2 : Int32)), .val (.int u29_5), .val (.int u40_6), .val (.int u51_7), .val (.ref b62), .val (.int v93_64), .unset, .unset, .unset, .unset] [(.int (57 : Int32)), (.int (48 : Int32)), (.int v15_1)]))) (fun t k => XS.bipush XT66.here hx rfl (hb hby at_98) k) ?_
    obtain ⟨_, _, ⟨T70, L70, k70, n70⟩, -, X70, ⟨Lc70, hQ70, l70, y70, z70⟩, st70⟩ := Jvm.LawKit.callS XT66 hx (y := (⟨"com/example/triad/triad/rest/PercentEncodingIsKeptPinLaw", "between", "(III)Z"⟩ : MethodName)) hown (mvT hZ (Wd34 hw)) (mvT hZ (Wd35 hw)) (mvT hZ (Wd2 hw)) (mvT hZ (Wd36 hw)) (by decide) (backOf (W := 0) (rmB l Z a0 hw [] v15_1 (48 : Int32) (57 : Int32) T62.heap) hZ (Wd36 hw) (Wd2 hw) (by decide) (by decide)) (g := (mkF m 100 #[.val (.int p0), .val (.int p1), .val (.int p2), .val (.int v15_1), .val (.int (2 : Int32)), .val (.int u29_5), .val (.int u40_6), .val (.int u51_7), .val (.ref b62), .val (.int v93_64), .unset, .unset, .unset, .unset] [(.int (57 : Int32)), (.int (48 : Int32)), (.int v15_1)])) rfl (by rw [hml]; rfl) (argsL := [(.int v15_1), (.int (48 : Int32)), (.int (57 : Int32))]) (rest := []) (lenOf pd10 rfl) rfl (by show 2 * 0 + _ ≤ _; exact Nat.le_of_eq rfl) (hb hby at_100) (fun _ _ => ⟨rfl, eT66, (Nat.le_of_ble_eq_true rfl), (Nat.le_of_ble_eq_true rfl)⟩)
    dsimp only [Pt.U, Pt.locs, Pt.cells, Pt.slots] at X70 l70 y70 z70 st70 hQ70
    subst l70 y70 z70
    obtain ⟨rfl, rfl, e70⟩ := hQ70
    try rw [List.append_nil] at X70
    refine ODH.go (B := (T70.setTop (mkF m 103 #[.val (.int p0), .val (.int p1), .val (.int p2), .val (.int v15_1), .val (.int (2 : Int32)), .val (.int u29_5), .val (.int u40_6), .val (.int u51_7), .val (.ref b62), .val (.int v93_64), .unset, .unset, .unset, .unset] [(.int (own_btw v15_1 (48 : Int32) (57 : Int32)))]))) st70 ?_
    refine ODH.go (B := (T70.setTop (mkF m 105 #[.val (.int p0), .val (.int p1), .val (.int p2), .val (.int v15_1), .val (.int (2 : Int32)), .val (.int u29_5), .val (.int u40_6), .val (.int u51_7), .val (.ref b62), .val (.int v93_64), .val (.int (own_btw v15_1 (48 : Int32) (57 : Int32))), .unset, .unset, .unset] []))) (fun t k => XS.istore X70.here hx rfl (hb hby at_103) rfl (l' := #[.val (.int p0), .val (.int p1), .val (.int p2), .val (.int v15_1), .val (.int (2 : Int32)), .val (.int u29_5), .val (.int u40_6), .val (.int u51_7), .val (.ref b62), .val (.int v93_64), .val (.int (own_btw v15_1 (48 : Int32) (57 : Int32))), .unset, .unset, .unset]) rfl k) ?_
    generalize hu103_71 : (own_btw v15_1 (48 : Int32) (57 : Int32)) = u103_71
    refine ODH.go (B := (T70.setTop (mkF m 106 #[.val (.int p0), .val (.int p1), .val (.int p2), .val (.int v15_1), .val (.int (2 : Int32)), .val (.int u29_5), .val (.int u40_6), .val (.int u51_7), .val (.ref b62), .val (.int v93_64), .val (.int u103_71), .unset, .unset, .unset] [(.int v15_1)]))) (fun t k => XS.iloadN X70.here hx rfl (hb hby at_105) rfl k) ?_
    refine ODH.go (B := (T70.setTop (mkF m 108 #[.val (.int p0), .val (.int p1), .val (.int p2), .val (.int v15_1), .val (.int (2 : Int32)), .val (.int u29_5), .val (.int u40_6), .val (.int u51_7), .val (.ref b62), .val (.int v93_64), .val (.int u103_71), .unset, .unset, .unset] [(.int (45 : Int32)), (.int v15_1)]))) (fun t k => XS.bipush X70.here hx rfl (hb hby at_106) k) ?_
    obtain ⟨v134_72, hv134_72⟩ : ∃ z : Int32, z = (if v15_1 = (45 : Int32) then (1 : Int32) else (if v15_1 = (46 : Int32) then (1 : Int32) else (if v15_1 = (95 : Int32) then (1 : Int32) else (if v15_1 = (126 : Int32) then (1 : Int32) else (0 : Int32))))) := ⟨_, rfl⟩
    refine ODH.cut (B := (T70.setTop (mkF m 134 #[.val (.int p0), .val (.int p1), .val (.int p2), .val (.int v15_1), .val (.int (2 : Int32)), .val (.int u29_5), .val (.int u40_6), .val (.int u51_7), .val (.ref b62), .val (.int v93_64), .val (.int u103_71), .unset, .unset, .unset] [(.int v134_72)]))) (fun J134_73 => ?_) ?_
    · skip
      by_cases c108_74 : v15_1 = (45 : Int32)
      · refine ODH.go (B := (T70.setTop (mkF m 129 #[.val (.int p0), .val (.int p1), .val (.int p2), .val (.int v15_1), .val (.int (2 : Int32)), .val (.int u29_5), .val (.int u40_6), .val (.int u51_7), .val (.ref b62), .val (.int v93_64), .val (.int u103_71), .unset, .unset, .unset] []))) (fun t k => XS.icmpYes X70.here hx rfl (pc0 := 108) (pc' := 129) rfl (hb hby at_108) rfl (teq c108_74).1 (by decide) (by decide) k) ?_
        refine ODH.go (B := (T70.setTop (mkF m 130 #[.val (.int p0), .val (.int p1), .val (.int p2), .val (.int v15_1), .val (.int (2 : Int32)), .val (.int u29_5), .val (.int u40_6), .val (.int u51_7), .val (.ref b62), .val (.int v93_64), .val (.int u103_71), .unset, .unset, .unset] [(.int (1 : Int32))]))) (fun t k => XS.iconst X70.here hx rfl (hb hby at_129) k) ?_
        refine ODH.go (B := (T70.setTop (mkF m 134 #[.val (.int p0), .val (.int p1), .val (.int p2), .val (.int v15_1), .val (.int (2 : Int32)), .val (.int u29_5), .val (.int u40_6), .val (.int u51_7), .val (.ref b62), .val (.int v93_64), .val (.int u103_71), .unset, .unset, .unset] [(.int (1 : Int32))]))) (fun t k => XS.goto X70.here hx rfl (pc0 := 130) (pc' := 134) rfl (hb hby at_130) (by decide) (by decide) k) ?_
        rw [if_pos c108_74] at hv134_72
        rw [hv134_72] at J134_73
        exact J134_73
      · refine ODH.go (B := (T70.setTop (mkF m 111 #[.val (.int p0), .val (.int p1), .val (.int p2), .val (.int v15_1), .val (.int (2 : Int32)), .val (.int u29_5), .val (.int u40_6), .val (.int u51_7), .val (.ref b62), .val (.int v93_64), .val (.int u103_71), .unset, .unset, .unset] []))) (fun t k => XS.icmpNo X70.here hx rfl (hb hby at_108) rfl (feq c108_74).1 k) ?_
        refine ODH.go (B := (T70.setTop (mkF m 112 #[.val (.int p0), .val (.int p1), .val (.int p2), .val (.int v15_1), .val (.int (2 : Int32)), .val (.int u29_5), .val (.int u40_6), .val (.int u51_7), .val (.ref b62), .val (.int v93_64), .val (.int u103_71), .unset, .unset, .unset] [(.int v15_1)]))) (fun t k => XS.iloadN X70.here hx rfl (hb hby at_111) rfl k) ?_
        refine ODH.go (B := (T70.setTop (mkF m 114 #[.val (.int p0), .val (.int p1), .val (.int p2), .val (.int v15_1), .val (.int (2 : Int32)), .val (.int u29_5), .val (.int u40_6), .val (.int u51_7), .val (.ref b62), .val (.int v93_64), .val (.int u103_71), .unset, .unset, .unset] [(.int (46 : Int32)), (.int v15_1)]))) (fun t k => XS.bipush X70.here hx rfl (hb hby at_112) k) ?_
        by_cases c114_75 : v15_1 = (46 : Int32)
        · refine ODH.go (B := (T70.setTop (mkF m 129 #[.val (.int p0), .val (.int p1), .val (.int p2), .val (.int v15_1), .val (.int (2 : Int32)), .val (.int u29_5), .val (.int u40_6), .val (.int u51_7), .val (.ref b62), .val (.int v93_64), .val (.int u103_71), .unset, .unset, .unset] []))) (fun t k => XS.icmpYes X70.here hx rfl (pc0 := 114) (pc' := 129) rfl (hb hby at_114) rfl (teq c114_75).1 (by decide) (by decide) k) ?_
          refine ODH.go (B := (T70.setTop (mkF m 130 #[.val (.int p0), .val (.int p1), .val (.int p2), .val (.int v15_1), .val (.int (2 : Int32)), .val (.int u29_5), .val (.int u40_6), .val (.int u51_7), .val (.ref b62), .val (.int v93_64), .val (.int u103_71), .unset, .unset, .unset] [(.int (1 : Int32))]))) (fun t k => XS.iconst X70.here hx rfl (hb hby at_129) k) ?_
          refine ODH.go (B := (T70.setTop (mkF m 134 #[.val (.int p0), .val (.int p1), .val (.int p2), .val (.int v15_1), .val (.int (2 : Int32)), .val (.int u29_5), .val (.int u40_6), .val (.int u51_7), .val (.ref b62), .val (.int v93_64), .val (.int u103_71), .unset, .unset, .unset] [(.int (1 : Int32))]))) (fun t k => XS.goto X70.here hx rfl (pc0 := 130) (pc' := 134) rfl (hb hby at_130) (by decide) (by decide) k) ?_
          rw [if_neg c108_74, if_pos c114_75] at hv134_72
          rw [hv134_72] at J134_73
          exact J134_73
        · refine ODH.go (B := (T70.setTop (mkF m 117 #[.val (.int p0), .val (.int p1), .val (.int p2), .val (.int v15_1), .val (.int (2 : Int32)), .val (.int u29_5), .val (.int u40_6), .val (.int u51_7), .val (.ref b62), .val (.int v93_64), .val (.int u103_71), .unset, .unset, .unset] []))) (fun t k => XS.icmpNo X70.here hx rfl (hb hby at_114) rfl (feq c114_75).1 k) ?_
          refine ODH.go (B := (T70.setTop (mkF m 118 #[.val (.int p0), .val (.int p1), .val (.int p2), .val (.int v15_1), .val (.int (2 : Int32)), .val (.int u29_5), .val (.int u40_6), .val (.int u51_7), .val (.ref b62), .val (.int v93_64), .val (.int u103_71), .unset, .unset, .unset] [(.int v15_1)]))) (fun t k => XS.iloadN X70.here hx rfl (hb hby at_117) rfl k) ?_
          refine ODH.go (B := (T70.setTop (mkF m 120 #[.val (.int p0), .val (.int p1), .val (.int p2), .val (.int v15_1), .val (.int (2 : Int32)), .val (.int u29_5), .val (.int u40_6), .val (.int u51_7), .val (.ref b62), .val (.int v93_64), .val (.int u103_71), .unset, .unset, .unset] [(.int (95 : Int32)), (.int v15_1)]))) (fun t k => XS.bipush X70.here hx rfl (hb hby at_118) k) ?_
          by_cases c120_76 : v15_1 = (95 : Int32)
          · refine ODH.go (B := (T70.setTop (mkF m 129 #[.val (.int p0), .val (.int p1), .val (.int p2), .val (.int v15_1), .val (.int (2 : Int32)), .val (.int u29_5), .val (.int u40_6), .val (.int u51_7), .val (.ref b62), .val (.int v93_64), .val (.int u103_71), .unset, .unset, .unset] []))) (fun t k => XS.icmpYes X70.here hx rfl (pc0 := 120) (pc' := 129) rfl (hb hby at_120) rfl (teq c120_76).1 (by decide) (by decide) k) ?_
            refine ODH.go (B := (T70.setTop (mkF m 130 #[.val (.int p0), .val (.int p1), .val (.int p2), .val (.int v15_1), .val (.int (2 : Int32)), .val (.int u29_5), .val (.int u40_6), .val (.int u51_7), .val (.ref b62), .val (.int v93_64), .val (.int u103_71), .unset, .unset, .unset] [(.int (1 : Int32))]))) (fun t k => XS.iconst X70.here hx rfl (hb hby at_129) k) ?_
            refine ODH.go (B := (T70.setTop (mkF m 134 #[.val (.int p0), .val (.int p1), .val (.int p2), .val (.int v15_1), .val (.int (2 : Int32)), .val (.int u29_5), .val (.int u40_6), .val (.int u51_7), .val (.ref b62), .val (.int v93_64), .val (.int u103_71), .unset, .unset, .unset] [(.int (1 : Int32))]))) (fun t k => XS.goto X70.here hx rfl (pc0 := 130) (pc' := 134) rfl (hb hby at_130) (by decide) (by decide) k) ?_
            rw [if_neg c108_74, if_neg c114_75, if_pos c120_76] at hv134_72
            rw [hv134_72] at J134_73
            exact J134_73
          · refine ODH.go (B := (T70.setTop (mkF m 123 #[.val (.int p0), .val (.int p1), .val (.int p2), .val (.int v15_1), .val (.int (2 : Int32)), .val (.int u29_5), .val (.int u40_6), .val (.int u51_7), .val (.ref b62), .val (.int v93_64), .val (.int u103_71), .unset, .unset, .unset] []))) (fun t k => XS.icmpNo X70.here hx rfl (hb hby at_120) rfl (feq c120_76).1 k) ?_
            refine ODH.go (B := (T70.setTop (mkF m 124 #[.val (.int p0), .val (.int p1), .val (.int p2), .val (.int v15_1), .val (.int (2 : Int32)), .val (.int u29_5), .val (.int u40_6), .val (.int u51_7), .val (.ref b62), .val (.int v93_64), .val (.int u103_71), .unset, .unset, .unset] [(.int v15_1)]))) (fun t k => XS.iloadN X70.here hx rfl (hb hby at_123) rfl k) ?_
            refine ODH.go (B := (T70.setTop (mkF m 126 #[.val (.int p0), .val (.int p1), .val (.int p2), .val (.int v15_1), .val (.int (2 : Int32)), .val (.int u29_5), .val (.int u40_6), .val (.int u51_7), .val (.ref b62), .val (.int v93_64), .val (.int u103_71), .unset, .unset, .unset] [(.int (126 : Int32)), (.int v15_1)]))) (fun t k => XS.bipush X70.here hx rfl (hb hby at_124) k) ?_
            by_cases c126_77 : v15_1 = (126 : Int32)
            · refine ODH.go (B := (T70.setTop (mkF m 129 #[.val (.int p0), .val (.int p1), .val (.int p2), .val (.int v15_1), .val (.int (2 : Int32)), .val (.int u29_5), .val (.int u40_6), .val (.int u51_7), .val (.ref b62), .val (.int v93_64), .val (.int u103_71), .unset, .unset, .unset] []))) (fun t k => XS.icmpNo X70.here hx rfl (hb hby at_126) rfl (teq c126_77).2 k) ?_
              refine ODH.go (B := (T70.setTop (mkF m 130 #[.val (.int p0), .val (.int p1), .val (.int p2), .val (.int v15_1), .val (.int (2 : Int32)), .val (.int u29_5), .val (.int u40_6), .val (.int u51_7), .val (.ref b62), .val (.int v93_64), .val (.int u103_71), .unset, .unset, .unset] [(.int (1 : Int32))]))) (fun t k => XS.iconst X70.here hx rfl (hb hby at_129) k) ?_
              refine ODH.go (B := (T70.setTop (mkF m 134 #[.val (.int p0), .val (.int p1), .val (.int p2), .val (.int v15_1), .val (.int (2 : Int32)), .val (.int u29_5), .val (.int u40_6), .val (.int u51_7), .val (.ref b62), .val (.int v93_64), .val (.int u103_71), .unset, .unset, .unset] [(.int (1 : Int32))]))) (fun t k => XS.goto X70.here hx rfl (pc0 := 130) (pc' := 134) rfl (hb hby at_130) (by decide) (by decide) k) ?_
              rw [if_neg c108_74, if_neg c114_75, if_neg c120_76, if_pos c126_77] at hv134_72
              rw [hv134_72] at J134_73
              exact J134_73
            · refine ODH.go (B := (T70.setTop (mkF m 133 #[.val (.int p0), .val (.int p1), .val (.int p2), .val (.int v15_1), .val (.int (2 : Int32)), .val (.int u29_5), .val (.int u40_6), .val (.int u51_7), .val (.ref b62), .val (.int v93_64), .val (.int u103_71), .unset, .unset, .unset] []))) (fun t k => XS.icmpYes X70.here hx rfl (pc0 := 126) (pc' := 133) rfl (hb hby at_126) rfl (feq c126_77).2 (by decide) (by decide) k) ?_
              refine ODH.go (B := (T70.setTop (mkF m 134 #[.val (.int p0), .val (.int p1), .val (.int p2), .val (.int v15_1), .val (.int (2 : Int32)), .val (.int u29_5), .val (.int u40_6), .val (.int u51_7), .val (.ref b62), .val (.int v93_64), .val (.int u103_71), .unset, .unset, .unset] [(.int (0 : Int32))]))) (fun t k => XS.iconst X70.here hx rfl (hb hby at_133) k) ?_
              rw [if_neg c108_74, if_neg c114_75, if_neg c120_76, if_neg c126_77] at hv134_72
              rw [hv134_72] at J134_73
              exact J134_73
    refine ODH.go (B := (T70.setTop (mkF m 136 #[.val (.int p0), .val (.int p1), .val (.int p2), .val (.int v15_1), .val (.int (2 : Int32)), .val (.int u29_5), .val (.int u40_6), .val (.int u51_7), .val (.ref b62), .val (.int v93_64), .val (.int u103_71), .val (.int v134_72), .unset, .unset] []))) (fun t k => XS.istore X70.here hx rfl (hb hby at_134) rfl (l' := #[.val (.int p0), .val (.int p1), .val (.int p2), .val (.int v15_1), .val (.int (2 : Int32)), .val (.int u29_5), .val (.int u40_6), .val (.int u51_7), .val (.ref b62), .val (.int v93_64), .val (.int u103_71), .val (.int v134_72), .unset, .unset]) rfl k) ?_
    refine ODH.go (B := (T70.setTop (mkF m 138 #[.val (.int p0), .val (.int p1), .val (.int p2), .val (.int v15_1), .val (.int (2 : Int32)), .val (.int u29_5), .val (.int u40_6), .val (.int u51_7), .val (.ref b62), .val (.int v93_64), .val (.int u103_71), .val (.int v134_72), .unset, .unset] [(.int (2 : Int32))]))) (fun t k => XS.iload X70.here hx rfl (hb hby at_136) rfl k) ?_
    refine ODH.go (B := (T70.setTop (mkF m 139 #[.val (.int p0), .val (.int p1), .val (.int p2), .val (.int v15_1), .val (.int (2 : Int32)), .val (.int u29_5), .val (.int u40_6), .val (.int u51_7), .val (.ref b62), .val (.int v93_64), .val (.int u103_71), .val (.int v134_72), .unset, .unset] [(.int (1 : Int32)), (.int (2 : Int32))]))) (fun t k => XS.iconst X70.here hx rfl (hb hby at_138) k) ?_
    refine ODH.go (B := (T70.setTop (mkF m 142 #[.val (.int p0), .val (.int p1), .val (.int p2), .val (.int v15_1), .val (.int (2 : Int32)), .val (.int u29_5), .val (.int u40_6), .val (.int u51_7), .val (.ref b62), .val (.int v93_64), .val (.int u103_71), .val (.int v134_72), .unset, .unset] []))) (fun t k => XS.icmpNo X70.here hx rfl (hb hby at_139) rfl (flt (by decide : ¬ (2 : Int32) < (1 : Int32))).1 k) ?_
    refine ODH.go (B := (T70.setTop (mkF m 143 #[.val (.int p0), .val (.int p1), .val (.int p2), .val (.int v15_1), .val (.int (2 : Int32)), .val (.int u29_5), .val (.int u40_6), .val (.int u51_7), .val (.ref b62), .val (.int v93_64), .val (.int u103_71), .val (.int v134_72), .unset, .unset] [(.int v15_1)]))) (fun t k => XS.iloadN X70.here hx rfl (hb hby at_142) rfl k) ?_
    refine ODH.go (B := (T70.setTop (mkF m 145 #[.val (.int p0), .val (.int p1), .val (.int p2), .val (.int v15_1), .val (.int (2 : Int32)), .val (.int u29_5), .val (.int u40_6), .val (.int u51_7), .val (.ref b62), .val (.int v93_64), .val (.int u103_71), .val (.int v134_72), .unset, .unset] [(.int u29_5), (.int v15_1)]))) (fun t k => XS.iload X70.here hx rfl (hb hby at_143) rfl k) ?_
    obtain ⟨v177_78, hv177_78⟩ : ∃ z : Int32, z = (if v15_1 = u29_5 then (1 : Int32) else (if v15_1 = u40_6 then (1 : Int32) else (0 : Int32))) := ⟨_, rfl⟩
    refine ODH.cut (B := (T70.setTop (mkF m 177 #[.val (.int p0), .val (.int p1), .val (.int p2), .val (.int v15_1), .val (.int (2 : Int32)), .val (.int u29_5), .val (.int u40_6), .val (.int u51_7), .val (.ref b62), .val (.int v93_64), .val (.int u103_71), .val (.int v134_72), .unset, .unset] [(.int v177_78)]))) (fun J177_79 => ?_) ?_
    · skip
      by_cases c145_80 : v15_1 = u29_5
      · refine ODH.go (B := (T70.setTop (mkF m 172 #[.val (.int p0), .val (.int p1), .val (.int p2), .val (.int v15_1), .val (.int (2 : Int32)), .val (.int u29_5), .val (.int u40_6), .val (.int u51_7), .val (.ref b62), .val (.int v93_64), .val (.int u103_71), .val (.int v134_72), .unset, .unset] []))) (fun t k => XS.icmpYes X70.here hx rfl (pc0 := 145) (pc' := 172) rfl (hb hby at_145) rfl (teq c145_80).1 (by decide) (by decide) k) ?_
        refine ODH.go (B := (T70.setTop (mkF m 173 #[.val (.int p0), .val (.int p1), .val (.int p2), .val (.int v15_1), .val (.int (2 : Int32)), .val (.int u29_5), .val (.int u40_6), .val (.int u51_7), .val (.ref b62), .val (.int v93_64), .val (.int u103_71), .val (.int v134_72), .unset, .unset] [(.int (1 : Int32))]))) (fun t k => XS.iconst X70.here hx rfl (hb hby at_172) k) ?_
        refine ODH.go (B := (T70.setTop (mkF m 177 #[.val (.int p0), .val (.int p1), .val (.int p2), .val (.int v15_1), .val (.int (2 : Int32)), .val (.int u29_5), .val (.int u40_6), .val (.int u51_7), .val (.ref b62), .val (.int v93_64), .val (.int u103_71), .val (.int v134_72), .unset, .unset] [(.int (1 : Int32))]))) (fun t k => XS.goto X70.here hx rfl (pc0 := 173) (pc' := 177) rfl (hb hby at_173) (by decide) (by decide) k) ?_
        rw [if_pos c145_80] at hv177_78
        rw [hv177_78] at J177_79
        exact J177_79
      · refine ODH.go (B := (T70.setTop (mkF m 148 #[.val (.int p0), .val (.int p1), .val (.int p2), .val (.int v15_1), .val (.int (2 : Int32)), .val (.int u29_5), .val (.int u40_6), .val (.int u51_7), .val (.ref b62), .val (.int v93_64), .val (.int u103_71), .val (.int v134_72), .unset, .unset] []))) (fun t k => XS.icmpNo X70.here hx rfl (hb hby at_145) rfl (feq c145_80).1 k) ?_
        refine ODH.go (B := (T70.setTop (mkF m 150 #[.val (.int p0), .val (.int p1), .val (.int p2), .val (.int v15_1), .val (.int (2 : Int32)), .val (.int u29_5), .val (.int u40_6), .val (.int u51_7), .val (.ref b62), .val (.int v93_64), .val (.int u103_71), .val (.int v134_72), .unset, .unset] [(.int (2 : Int32))]))) (fun t k => XS.iload X70.here hx rfl (hb hby at_148) rfl k) ?_
        refine ODH.go (B := (T70.setTop (mkF m 151 #[.val (.int p0), .val (.int p1), .val (.int p2), .val (.int v15_1), .val (.int (2 : Int32)), .val (.int u29_5), .val (.int u40_6), .val (.int u51_7), .val (.ref b62), .val (.int v93_64), .val (.int u103_71), .val (.int v134_72), .unset, .unset] [(.int (2 : Int32)), (.int (2 : Int32))]))) (fun t k => XS.iconst X70.here hx rfl (hb hby at_150) k) ?_
        refine ODH.go (B := (T70.setTop (mkF m 154 #[.val (.int p0), .val (.int p1), .val (.int p2), .val (.int v15_1), .val (.int (2 : Int32)), .val (.int u29_5), .val (.int u40_6), .val (.int u51_7), .val (.ref b62), .val (.int v93_64), .val (.int u103_71), .val (.int v134_72), .unset, .unset] []))) (fun t k => XS.icmpNo X70.here hx rfl (hb hby at_151) rfl (flt (by decide : ¬ (2 : Int32) < (2 : Int32))).1 k) ?_
        refine ODH.go (B := (T70.setTop (mkF m 155 #[.val (.int p0), .val (.int p1), .val (.int p2), .val (.int v15_1), .val (.int (2 : Int32)), .val (.int u29_5), .val (.int u40_6), .val (.int u51_7), .val (.ref b62), .val (.int v93_64), .val (.int u103_71), .val (.int v134_72), .unset, .unset] [(.int v15_1)]))) (fun t k => XS.iloadN X70.here hx rfl (hb hby at_154) rfl k) ?_
        refine ODH.go (B := (T70.setTop (mkF m 157 #[.val (.int p0), .val (.int p1), .val (.int p2), .val (.int v15_1), .val (.int (2 : Int32)), .val (.int u29_5), .val (.int u40_6), .val (.int u51_7), .val (.ref b62), .val (.int v93_64), .val (.int u103_71), .val (.int v134_72), .unset, .unset] [(.int u40_6), (.int v15_1)]))) (fun t k => XS.iload X70.here hx rfl (hb hby at_155) rfl k) ?_
        by_cases c157_81 : v15_1 = u40_6
        · refine ODH.go (B := (T70.setTop (mkF m 172 #[.val (.int p0), .val (.int p1), .val (.int p2), .val (.int v15_1), .val (.int (2 : Int32)), .val (.int u29_5), .val (.int u40_6), .val (.int u51_7), .val (.ref b62), .val (.int v93_64), .val (.int u103_71), .val (.int v134_72), .unset, .unset] []))) (fun t k => XS.icmpYes X70.here hx rfl (pc0 := 157) (pc' := 172) rfl (hb hby at_157) rfl (teq c157_81).1 (by decide) (by decide) k) ?_
          refine ODH.go (B := (T70.setTop (mkF m 173 #[.val (.int p0), .val (.int p1), .val (.int p2), .val (.int v15_1), .val (.int (2 : Int32)), .val (.int u29_5), .val (.int u40_6), .val (.int u51_7), .val (.ref b62), .val (.int v93_64), .val (.int u103_71), .val (.int v134_72), .unset, .unset] [(.int (1 : Int32))]))) (fun t k => XS.iconst X70.here hx rfl (hb hby at_172) k) ?_
          refine ODH.go (B := (T70.setTop (mkF m 177 #[.val (.int p0), .val (.int p1), .val (.int p2), .val (.int v15_1), .val (.int (2 : Int32)), .val (.int u29_5), .val (.int u40_6), .val (.int u51_7), .val (.ref b62), .val (.int v93_64), .val (.int u103_71), .val (.int v134_72), .unset, .unset] [(.int (1 : Int32))]))) (fun t k => XS.goto X70.here hx rfl (pc0 := 173) (pc' := 177) rfl (hb hby at_173) (by decide) (by decide) k) ?_
          rw [if_neg c145_80, if_pos c157_81] at hv177_78
          rw [hv177_78] at J177_79
          exact J177_79
        · refine ODH.go (B := (T70.setTop (mkF m 160 #[.val (.int p0), .val (.int p1), .val (.int p2), .val (.int v15_1), .val (.int (2 : Int32)), .val (.int u29_5), .val (.int u40_6), .val (.int u51_7), .val (.ref b62), .val (.int v93_64), .val (.int u103_71), .val (.int v134_72), .unset, .unset] []))) (fun t k => XS.icmpNo X70.here hx rfl (hb hby at_157) rfl (feq c157_81).1 k) ?_
          refine ODH.go (B := (T70.setTop (mkF m 162 #[.val (.int p0), .val (.int p1), .val (.int p2), .val (.int v15_1), .val (.int (2 : Int32)), .val (.int u29_5), .val (.int u40_6), .val (.int u51_7), .val (.ref b62), .val (.int v93_64), .val (.int u103_71), .val (.int v134_72), .unset, .unset] [(.int (2 : Int32))]))) (fun t k => XS.iload X70.here hx rfl (hb hby at_160) rfl k) ?_
          refine ODH.go (B := (T70.setTop (mkF m 163 #[.val (.int p0), .val (.int p1), .val (.int p2), .val (.int v15_1), .val (.int (2 : Int32)), .val (.int u29_5), .val (.int u40_6), .val (.int u51_7), .val (.ref b62), .val (.int v93_64), .val (.int u103_71), .val (.int v134_72), .unset, .unset] [(.int (3 : Int32)), (.int (2 : Int32))]))) (fun t k => XS.iconst X70.here hx rfl (hb hby at_162) k) ?_
          refine ODH.go (B := (T70.setTop (mkF m 176 #[.val (.int p0), .val (.int p1), .val (.int p2), .val (.int v15_1), .val (.int (2 : Int32)), .val (.int u29_5), .val (.int u40_6), .val (.int u51_7), .val (.ref b62), .val (.int v93_64), .val (.int u103_71), .val (.int v134_72), .unset, .unset] []))) (fun t k => XS.icmpYes X70.here hx rfl (pc0 := 163) (pc' := 176) rfl (hb hby at_163) rfl (tlt (by decide : (2 : Int32) < (3 : Int32))).1 (by decide) (by decide) k) ?_
          refine ODH.go (B := (T70.setTop (mkF m 177 #[.val (.int p0), .val (.int p1), .val (.int p2), .val (.int v15_1), .val (.int (2 : Int32)), .val (.int u29_5), .val (.int u40_6), .val (.int u51_7), .val (.ref b62), .val (.int v93_64), .val (.int u103_71), .val (.int v134_72), .unset, .unset] [(.int (0 : Int32))]))) (fun t k => XS.iconst X70.here hx rfl (hb hby at_176) k) ?_
          rw [if_neg c145_80, if_neg c157_81] at hv177_78
          rw [hv177_78] at J177_79
          exact J177_79
    refine ODH.go (B := (T70.setTop (mkF m 179 #[.val (.int p0), .val (.int p1), .val (.int p2), .val (.int v15_1), .val (.int (2 : Int32)), .val (.int u29_5), .val (.int u40_6), .val (.int u51_7), .val (.ref b62), .val (.int v93_64), .val (.int u103_71), .val (.int v134_72), .val (.int v177_78), .unset] []))) (fun t k => XS.istore X70.here hx rfl (hb hby at_177) rfl (l' := #[.val (.int p0), .val (.int p1), .val (.int p2), .val (.int v15_1), .val (.int (2 : Int32)), .val (.int u29_5), .val (.int u40_6), .val (.int u51_7), .val (.ref b62), .val (.int v93_64), .val (.int u103_71), .val (.int v134_72), .val (.int v177_78), .unset]) rfl k) ?_
    refine ODH.go (B := (T70.setTop (mkF m 181 #[.val (.int p0), .val (.int p1), .val (.int p2), .val (.int v15_1), .val (.int (2 : Int32)), .val (.int u29_5), .val (.int u40_6), .val (.int u51_7), .val (.ref b62), .val (.int v93_64), .val (.int u103_71), .val (.int v134_72), .val (.int v177_78), .unset] [(.int v93_64)]))) (fun t k => XS.iload X70.here hx rfl (hb hby at_179) rfl k) ?_
    obtain ⟨v204_82, hv204_82⟩ : ∃ z : Int32, z = (if v93_64 = (0 : Int32) then (if u103_71 = (0 : Int32) then (if v134_72 = (0 : Int32) then (if v177_78 = (0 : Int32) then (0 : Int32) else (1 : Int32)) else (1 : Int32)) else (1 : Int32)) else (1 : Int32)) := ⟨_, rfl⟩
    refine ODH.cut (B := (T70.setTop (mkF m 204 #[.val (.int p0), .val (.int p1), .val (.int p2), .val (.int v15_1), .val (.int (2 : Int32)), .val (.int u29_5), .val (.int u40_6), .val (.int u51_7), .val (.ref b62), .val (.int v93_64), .val (.int u103_71), .val (.int v134_72), .val (.int v177_78), .unset] [(.int v204_82)]))) (fun J204_83 => ?_) ?_
    · skip
      by_cases c181_84 : v93_64 = (0 : Int32)
      · refine ODH.go (B := (T70.setTop (mkF m 184 #[.val (.int p0), .val (.int p1), .val (.int p2), .val (.int v15_1), .val (.int (2 : Int32)), .val (.int u29_5), .val (.int u40_6), .val (.int u51_7), .val (.ref b62), .val (.int v93_64), .val (.int u103_71), .val (.int v134_72), .val (.int v177_78), .unset] []))) (fun t k => XS.ifNo X70.here hx rfl (hb hby at_181) rfl (by rw [if0]; exact (teq c181_84).2) k) ?_
        refine ODH.go (B := (T70.setTop (mkF m 186 #[.val (.int p0), .val (.int p1), .val (.int p2), .val (.int v15_1), .val (.int (2 : Int32)), .val (.int u29_5), .val (.int u40_6), .val (.int u51_7), .val (.ref b62), .val (.int v93_64), .val (.int u103_71), .val (.int v134_72), .val (.int v177_78), .unset] [(.int u103_71)]))) (fun t k => XS.iload X70.here hx rfl (hb hby at_184) rfl k) ?_
        by_cases c186_85 : u103_71 = (0 : Int32)
        · refine ODH.go (B := (T70.setTop (mkF m 189 #[.val (.int p0), .val (.int p1), .val (.int p2), .val (.int v15_1), .val (.int (2 : Int32)), .val (.int u29_5), .val (.int u40_6), .val (.int u51_7), .val (.ref b62), .val (.int v93_64), .val (.int u103_71), .val (.int v134_72), .val (.int v177_78), .unset] []))) (fun t k => XS.ifNo X70.here hx rfl (hb hby at_186) rfl (by rw [if0]; exact (teq c186_85).2) k) ?_
          refine ODH.go (B := (T70.setTop (mkF m 191 #[.val (.int p0), .val (.int p1), .val (.int p2), .val (.int v15_1), .val (.int (2 : Int32)), .val (.int u29_5), .val (.int u40_6), .val (.int u51_7), .val (.ref b62), .val (.int v93_64), .val (.int u103_71), .val (.int v134_72), .val (.int v177_78), .unset] [(.int v134_72)]))) (fun t k => XS.iload X70.here hx rfl (hb hby at_189) rfl k) ?_
          by_cases c191_86 : v134_72 = (0 : Int32)
          · refine ODH.go (B := (T70.setTop (mkF m 194 #[.val (.int p0), .val (.int p1), .val (.int p2), .val (.int v15_1), .val (.int (2 : Int32)), .val (.int u29_5), .val (.int u40_6), .val (.int u51_7), .val (.ref b62), .val (.int v93_64), .val (.int u103_71), .val (.int v134_72), .val (.int v177_78), .unset] []))) (fun t k => XS.ifNo X70.here hx rfl (hb hby at_191) rfl (by rw [if0]; exact (teq c191_86).2) k) ?_
            refine ODH.go (B := (T70.setTop (mkF m 196 #[.val (.int p0), .val (.int p1), .val (.int p2), .val (.int v15_1), .val (.int (2 : Int32)), .val (.int u29_5), .val (.int u40_6), .val (.int u51_7), .val (.ref b62), .val (.int v93_64), .val (.int u103_71), .val (.int v134_72), .val (.int v177_78), .unset] [(.int v177_78)]))) (fun t k => XS.iload X70.here hx rfl (hb hby at_194) rfl k) ?_
            by_cases c196_87 : v177_78 = (0 : Int32)
            · refine ODH.go (B := (T70.setTop (mkF m 203 #[.val (.int p0), .val (.int p1), .val (.int p2), .val (.int v15_1), .val (.int (2 : Int32)), .val (.int u29_5), .val (.int u40_6), .val (.int u51_7), .val (.ref b62), .val (.int v93_64), .val (.int u103_71), .val (.int v134_72), .val (.int v177_78), .unset] []))) (fun t k => XS.ifYes X70.here hx rfl (pc0 := 196) (pc' := 203) rfl (hb hby at_196) rfl (by rw [if0]; exact (teq c196_87).1) (by decide) (by decide) k) ?_
              refine ODH.go (B := (T70.setTop (mkF m 204 #[.val (.int p0), .val (.int p1), .val (.int p2), .val (.int v15_1), .val (.int (2 : Int32)), .val (.int u29_5), .val (.int u40_6), .val (.int u51_7), .val (.ref b62), .val (.int v93_64), .val (.int u103_71), .val (.int v134_72), .val (.int v177_78), .unset] [(.int (0 : Int32))]))) (fun t k => XS.iconst X70.here hx rfl (hb hby at_203) k) ?_
              rw [if_pos c181_84, if_pos c186_85, if_pos c191_86, if_pos c196_87] at hv204_82
              rw [hv204_82] at J204_83
              exact J204_83
            · refine ODH.go (B := (T70.setTop (mkF m 199 #[.val (.int p0), .val (.int p1), .val (.int p2), .val (.int v15_1), .val (.int (2 : Int32)), .val (.int u29_5), .val (.int u40_6), .val (.int u51_7), .val (.ref b62), .val (.int v93_64), .val (.int u103_71), .val (.int v134_72), .val (.int v177_78), .unset] []))) (fun t k => XS.ifNo X70.here hx rfl (hb hby at_196) rfl (by rw [if0]; exact (feq c196_87).1) k) ?_
              refine ODH.go (B := (T70.setTop (mkF m 200 #[.val (.int p0), .val (.int p1), .val (.int p2), .val (.int v15_1), .val (.int (2 : Int32)), .val (.int u29_5), .val (.int u40_6), .val (.int u51_7), .val (.ref b62), .val (.int v93_64), .val (.int u103_71), .val (.int v134_72), .val (.int v177_78), .unset] [(.int (1 : Int32))]))) (fun t k => XS.iconst X70.here hx rfl (hb hby at_199) k) ?_
              refine ODH.go (B := (T70.setTop (mkF m 204 #[.val (.int p0), .val (.int p1), .val (.int p2), .val (.int v15_1), .val (.int (2 : Int32)), .val (.int u29_5), .val (.int u40_6), .val (.int u51_7), .val (.ref b62), .val (.int v93_64), .val (.int u103_71), .val (.int v134_72), .val (.int v177_78), .unset] [(.int (1 : Int32))]))) (fun t k => XS.goto X70.here hx rfl (pc0 := 200) (pc' := 204) rfl (hb hby at_200) (by decide) (by decide) k) ?_
              rw [if_pos c181_84, if_pos c186_85, if_pos c191_86, if_neg c196_87] at hv204_82
              rw [hv204_82] at J204_83
              exact J204_83
          · refine ODH.go (B := (T70.setTop (mkF m 199 #[.val (.int p0), .val (.int p1), .val (.int p2), .val (.int v15_1), .val (.int (2 : Int32)), .val (.int u29_5), .val (.int u40_6), .val (.int u51_7), .val (.ref b62), .val (.int v93_64), .val (.int u103_71), .val (.int v134_72), .val (.int v177_78), .unset] []))) (fun t k => XS.ifYes X70.here hx rfl (pc0 := 191) (pc' := 199) rfl (hb hby at_191) rfl (by rw [if0]; exact (feq c191_86).2) (by decide) (by decide) k) ?_
            refine ODH.go (B := (T70.setTop (mkF m 200 #[.val (.int p0), .val (.int p1), .val (.int p2), .val (.int v15_1), .val (.int (2 : Int32)), .val (.int u29_5), .val (.int u40_6), .val (.int u51_7), .val (.ref b62), .val (.int v93_64), .val (.int u103_71), .val (.int v134_72), .val (.int v177_78), .unset] [(.int (1 : Int32))]))) (fun t k => XS.iconst X70.here hx rfl (hb hby at_199) k) ?_
            refine ODH.go (B := (T70.setTop (mkF m 204 #[.val (.int p0), .val (.int p1), .val (.int p2), .val (.int v15_1), .val (.int (2 : Int32)), .val (.int u29_5), .val (.int u40_6), .val (.int u51_7), .val (.ref b62), .val (.int v93_64), .val (.int u103_71), .val (.int v134_72), .val (.int v177_78), .unset] [(.int (1 : Int32))]))) (fun t k => XS.goto X70.here hx rfl (pc0 := 200) (pc' := 204) rfl (hb hby at_200) (by decide) (by decide) k) ?_
            rw [if_pos c181_84, if_pos c186_85, if_neg c191_86] at hv204_82
            rw [hv204_82] at J204_83
            exact J204_83
        · refine ODH.go (B := (T70.setTop (mkF m 199 #[.val (.int p0), .val (.int p1), .val (.int p2), .val (.int v15_1), .val (.int (2 : Int32)), .val (.int u29_5), .val (.int u40_6), .val (.int u51_7), .val (.ref b62), .val (.int v93_64), .val (.int u103_71), .val (.int v134_72), .val (.int v177_78), .unset] []))) (fun t k => XS.ifYes X70.here hx rfl (pc0 := 186) (pc' := 199) rfl (hb hby at_186) rfl (by rw [if0]; exact (feq c186_85).2) (by decide) (by decide) k) ?_
          refine ODH.go (B := (T70.setTop (mkF m 200 #[.val (.int p0), .val (.int p1), .val (.int p2), .val (.int v15_1), .val (.int (2 : Int32)), .val (.int u29_5), .val (.int u40_6), .val (.int u51_7), .val (.ref b62), .val (.int v93_64), .val (.int u103_71), .val (.int v134_72), .val (.int v177_78), .unset] [(.int (1 : Int32))]))) (fun t k => XS.iconst X70.here hx rfl (hb hby at_199) k) ?_
          refine ODH.go (B := (T70.setTop (mkF m 204 #[.val (.int p0), .val (.int p1), .val (.int p2), .val (.int v15_1), .val (.int (2 : Int32)), .val (.int u29_5), .val (.int u40_6), .val (.int u51_7), .val (.ref b62), .val (.int v93_64), .val (.int u103_71), .val (.int v134_72), .val (.int v177_78), .unset] [(.int (1 : Int32))]))) (fun t k => XS.goto X70.here hx rfl (pc0 := 200) (pc' := 204) rfl (hb hby at_200) (by decide) (by decide) k) ?_
          rw [if_pos c181_84, if_neg c186_85] at hv204_82
          rw [hv204_82] at J204_83
          exact J204_83
      · refine ODH.go (B := (T70.setTop (mkF m 199 #[.val (.int p0), .val (.int p1), .val (.int p2), .val (.int v15_1), .val (.int (2 : Int32)), .val (.int u29_5), .val (.int u40_6), .val (.int u51_7), .val (.ref b62), .val (.int v93_64), .val (.int u103_71), .val (.int v134_72), .val (.int v177_78), .unset] []))) (fun t k => XS.ifYes X70.here hx rfl (pc0 := 181) (pc' := 199) rfl (hb hby at_181) rfl (by rw [if0]; exact (feq c181_84).2) (by decide) (by decide) k) ?_
        refine ODH.go (B := (T70.setTop (mkF m 200 #[.val (.int p0), .val (.int p1), .val (.int p2), .val (.int v15_1), .val (.int (2 : Int32)), .val (.int u29_5), .val (.int u40_6), .val (.int u51_7), .val (.ref b62), .val (.int v93_64), .val (.int u103_71), .val (.int v134_72), .val (.int v177_78), .unset] [(.int (1 : Int32))]))) (fun t k => XS.iconst X70.here hx rfl (hb hby at_199) k) ?_
        refine ODH.go (B := (T70.setTop (mkF m 204 #[.val (.int p0), .val (.int p1), .val (.int p2), .val (.int v15_1), .val (.int (2 : Int32)), .val (.int u29_5), .val (.int u40_6), .val (.int u51_7), .val (.ref b62), .val (.int v93_64), .val (.int u103_71), .val (.int v134_72), .val (.int v177_78), .unset] [(.int (1 : Int32))]))) (fun t k => XS.goto X70.here hx rfl (pc0 := 200) (pc' := 204) rfl (hb hby at_200) (by decide) (by decide) k) ?_
        rw [if_neg c181_84] at hv204_82
        rw [hv204_82] at J204_83
        exact J204_83
    refine ODH.go (B := (T70.setTop (mkF m 206 #[.val (.int p0), .val (.int p1), .val (.int p2), .val (.int v15_1), .val (.int (2 : Int32)), .val (.int u29_5), .val (.int u40_6), .val (.int u51_7), .val (.ref b62), .val (.int v93_64), .val (.int u103_71), .val (.int v134_72), .val (.int v177_78), .val (.int v204_82)] []))) (fun t k => XS.istore X70.here hx rfl (hb hby at_204) rfl (l' := #[.val (.int p0), .val (.int p1), .val (.int p2), .val (.int v15_1), .val (.int (2 : Int32)), .val (.int u29_5), .val (.int u40_6), .val (.int u51_7), .val (.ref b62), .val (.int v93_64), .val (.int u103_71), .val (.int v134_72), .val (.int v177_78), .val (.int v204_82)]) rfl k) ?_
    refine ODH.go (B := (T70.setTop (mkF m 207 #[.val (.int p0), .val (.int p1), .val (.int p2), .val (.int v15_1), .val (.int (2 : Int32)), .val (.int u29_5), .val (.int u40_6), .val (.int u51_7), .val (.ref b62), .val (.int v93_64), .val (.int u103_71), .val (.int v134_72), .val (.int v177_78), .val (.int v204_82)] [(.int v15_1)]))) (fun t k => XS.iloadN X70.here hx rfl (hb hby at_206) rfl k) ?_
    refine ODH.go (B := (T70.setTop (mkF m 209 #[.val (.int p0), .val (.int p1), .val (.int p2), .val (.int v15_1), .val (.int (2 : Int32)), .val (.int u29_5), .val (.int u40_6), .val (.int u51_7), .val (.ref b62), .val (.int v93_64), .val (.int u103_71), .val (.int v134_72), .val (.int v177_78), .val (.int v204_82)] [(.ref b62), (.int v15_1)]))) (fun t k => XS.aload X70.here hx rfl (hb hby at_207) rfl rfl k) ?_
    obtain ⟨_, _, ⟨T88, L88, k88, n88⟩, -, X88, hs88, gr88, ⟨Lc88, hQ88, l88, y88, z88, cr88⟩, st88⟩ := callSS X70 hx (y := (⟨"com/example/triad/triad/rest/PercentEncoding", "isKept", "(ILjava/lang/String;)Z"⟩ : MethodName)) hown (mvT hZ (Wd37 hw)) (mvT hZ (Wd38 hw)) (mvT hZ (Wd39 hw)) (mvT hZ (Wd40 hw)) (by decide) (backOfSH (W := 0) (rmK2 l Z a0 hw [] v15_1 b62 T62.heap E62 C62 t62 kb62 V62 (u29_5.toInt8.toInt32) (u40_6.toInt8.toInt32) A62 h0.size (X00.keep K62 all0) (Nat.le_trans (Nat.le_refl _) K62.1) zc O2 P5) hZ (Wd40 hw) (Wd39 hw) (by decide) (by decide) (EL_in hw) ch62.1) (g := (mkF m 209 #[.val (.int p0), .val (.int p1), .val (.int p2), .val (.int v15_1), .val (.int (2 : Int32)), .val (.int u29_5), .val (.int u40_6), .val (.int u51_7), .val (.ref b62), .val (.int v93_64), .val (.int u103_71), .val (.int v134_72), .val (.int v177_78), .val (.int v204_82)] [(.ref b62), (.int v15_1)])) rfl (by rw [hml]; rfl) (argsL := [(.int v15_1), (.ref b62)]) (rest := []) (lenOf pd11 rfl) rfl (by show 2 * 0 + _ ≤ _; exact Nat.le_of_eq rfl) (hb hby at_209) (fun _ _ => ⟨rfl, e70, (Nat.le_of_ble_eq_true rfl), (Nat.le_of_ble_eq_true rfl)⟩)
    dsimp only [Pt.U, Pt.locs, Pt.cells, Pt.slots] at X88 l88 y88 z88 st88 hQ88 hs88 gr88 cr88
    subst l88 y88 z88
    have X88 : Stand p l e _ (s.setVm T88.vm) m _ below meth c T88 _ _ _ := X88
    have hZ : Z.Warmed39 (s.setVm T88.vm).vm := State.Warmed39.trans (t := (s.setVm T62.vm)) hZ hs88.1
    have hown : (s.setVm T88.vm).vm.findClass "com/example/triad/triad/rest/PercentEncodingIsKeptPinLaw" = some m.cls := by rw [show (s.setVm T88.vm).vm = T88.vm from rfl, hs88.1.alike.findClass]; exact hown
    have hS88 : s.Since T88.vm T88.heap.size := hS62.trans hs88 (Nat.le_trans (by rw [e70]; exact hk62) gr88)
    have hk88 : T88.heap.size ≤ T88.heap.size := Nat.le_refl _
    have ch88 := ch62.trans cr88
    obtain ⟨rfl, Nq88, K88⟩ := hQ88
    have N88 := Fr.app N62 Nq88
    refine ODH.via (B := (T88.setTop (mkF m 212 #[.val (.int p0), .val (.int p1), .val (.int p2), .val (.int v15_1), .val (.int (2 : Int32)), .val (.int u29_5), .val (.int u40_6), .val (.int u51_7), .val (.ref b62), .val (.int v93_64), .val (.int u103_71), .val (.int v134_72), .val (.int v177_78), .val (.int v204_82)] [(.int (own_kept (own_al v15_1) (own_li4 (45 : Int32) (46 : Int32) (95 : Int32) (126 : Int32) v15_1) (own_li2 (u29_5.toInt8.toInt32) (u40_6.toInt8.toInt32) v15_1)))]))) st88 ?_
    refine ODH.go (B := (T88.setTop (mkF m 214 #[.val (.int p0), .val (.int p1), .val (.int p2), .val (.int v15_1), .val (.int (2 : Int32)), .val (.int u29_5), .val (.int u40_6), .val (.int u51_7), .val (.ref b62), .val (.int v93_64), .val (.int u103_71), .val (.int v134_72), .val (.int v177_78), .val (.int v204_82)] [(.int v204_82), (.int (own_kept (own_al v15_1) (own_li4 (45 : Int32) (46 : Int32) (95 : Int32) (126 : Int32) v15_1) (own_li2 (u29_5.toInt8.toInt32) (u40_6.toInt8.toInt32) v15_1)))]))) (fun t k => XS.iload X88.here hx rfl (hb hby at_212) rfl k) ?_
    obtain ⟨v222_89, hv222_89⟩ : ∃ z : Int32, z = (if (own_kept (own_al v15_1) (own_li4 (45 : Int32) (46 : Int32) (95 : Int32) (126 : Int32) v15_1) (own_li2 (u29_5.toInt8.toInt32) (u40_6.toInt8.toInt32) v15_1)) = v204_82 then (1 : Int32) else (0 : Int32)) := ⟨_, rfl⟩
    refine ODH.cut (B := (T88.setTop (mkF m 222 #[.val (.int p0), .val (.int p1), .val (.int p2), .val (.int v15_1), .val (.int (2 : Int32)), .val (.int u29_5), .val (.int u40_6), .val (.int u51_7), .val (.ref b62), .val (.int v93_64), .val (.int u103_71), .val (.int v134_72), .val (.int v177_78), .val (.int v204_82)] [(.int v222_89)]))) (fun J222_90 => ?_) ?_
    · skip
      by_cases c214_91 : (own_kept (own_al v15_1) (own_li4 (45 : Int32) (46 : Int32) (95 : Int32) (126 : Int32) v15_1) (own_li2 (u29_5.toInt8.toInt32) (u40_6.toInt8.toInt32) v15_1)) = v204_82
      · refine ODH.go (B := (T88.setTop (mkF m 217 #[.val (.int p0), .val (.int p1), .val (.int p2), .val (.int v15_1), .val (.int (2 : Int32)), .val (.int u29_5), .val (.int u40_6), .val (.int u51_7), .val (.ref b62), .val (.int v93_64), .val (.int u103_71), .val (.int v134_72), .val (.int v177_78), .val (.int v204_82)] []))) (fun t k => XS.icmpNo X88.here hx rfl (hb hby at_214) rfl (teq c214_91).2 k) ?_
        refine ODH.go (B := (T88.setTop (mkF m 218 #[.val (.int p0), .val (.int p1), .val (.int p2), .val (.int v15_1), .val (.int (2 : Int32)), .val (.int u29_5), .val (.int u40_6), .val (.int u51_7), .val (.ref b62), .val (.int v93_64), .val (.int u103_71), .val (.int v134_72), .val (.int v177_78), .val (.int v204_82)] [(.int (1 : Int32))]))) (fun t k => XS.iconst X88.here hx rfl (hb hby at_217) k) ?_
        refine ODH.go (B := (T88.setTop (mkF m 222 #[.val (.int p0), .val (.int p1), .val (.int p2), .val (.int v15_1), .val (.int (2 : Int32)), .val (.int u29_5), .val (.int u40_6), .val (.int u51_7), .val (.ref b62), .val (.int v93_64), .val (.int u103_71), .val (.int v134_72), .val (.int v177_78), .val (.int v204_82)] [(.int (1 : Int32))]))) (fun t k => XS.goto X88.here hx rfl (pc0 := 218) (pc' := 222) rfl (hb hby at_218) (by decide) (by decide) k) ?_
        rw [if_pos c214_91] at hv222_89
        rw [hv222_89] at J222_90
        exact J222_90
      · refine ODH.go (B := (T88.setTop (mkF m 221 #[.val (.int p0), .val (.int p1), .val (.int p2), .val (.int v15_1), .val (.int (2 : Int32)), .val (.int u29_5), .val (.int u40_6), .val (.int u51_7), .val (.ref b62), .val (.int v93_64), .val (.int u103_71), .val (.int v134_72), .val (.int v177_78), .val (.int v204_82)] []))) (fun t k => XS.icmpYes X88.here hx rfl (pc0 := 214) (pc' := 221) rfl (hb hby at_214) rfl (feq c214_91).2 (by decide) (by decide) k) ?_
        refine ODH.go (B := (T88.setTop (mkF m 222 #[.val (.int p0), .val (.int p1), .val (.int p2), .val (.int v15_1), .val (.int (2 : Int32)), .val (.int u29_5), .val (.int u40_6), .val (.int u51_7), .val (.ref b62), .val (.int v93_64), .val (.int u103_71), .val (.int v134_72), .val (.int v177_78), .val (.int v204_82)] [(.int (0 : Int32))]))) (fun t k => XS.iconst X88.here hx rfl (hb hby at_221) k) ?_
        rw [if_neg c214_91] at hv222_89
        rw [hv222_89] at J222_90
        exact J222_90
    have fin : v222_89 = 1 := own_fin2 r0 r1 r2 hv93_64 hv134_72 hv177_78 hv204_82 hv222_89 hu103_71
    rw [fin]
    exact ODH.ret X88 hx hlk hS88 hk88 (ch88.trans (CHv.at X88 hZ (EL_in hw) ch88.1)) (t := .boolean) Bd.returns rfl (Or.inl ⟨rfl, Or.inr (Or.inl rfl), _, rfl⟩) (hb hby at_222) (Nat.le_of_ble_eq_true rfl) (Nat.le_of_ble_eq_true rfl) ⟨rfl, N88⟩
  · subst q53
    refine ODH.go (B := (s₁.setTop (mkF m 55 #[.val (.int p0), .val (.int p1), .val (.int p2), .val (.int v15_1), .val (.int (3 : Int32)), .val (.int u29_5), .val (.int u40_6), .val (.int u51_7), .unset, .unset, .unset, .unset, .unset, .unset] [(.int (3 : Int32))]))) (fun t k => XS.iload X0.here hx rfl (hb hby at_53) rfl k) ?_
    refine ODH.go (B := (s₁.setTop (mkF m 57 #[.val (.int p0), .val (.int p1), .val (.int p2), .val (.int v15_1), .val (.int (3 : Int32)), .val (.int u29_5), .val (.int u40_6), .val (.int u51_7), .unset, .unset, .unset, .unset, .unset, .unset] [(.int u29_5), (.int (3 : Int32))]))) (fun t k => XS.iload X0.here hx rfl (hb hby at_55) rfl k) ?_
    refine ODH.go (B := (s₁.setTop (mkF m 59 #[.val (.int p0), .val (.int p1), .val (.int p2), .val (.int v15_1), .val (.int (3 : Int32)), .val (.int u29_5), .val (.int u40_6), .val (.int u51_7), .unset, .unset, .unset, .unset, .unset, .unset] [(.int u40_6), (.int u29_5), (.int (3 : Int32))]))) (fun t k => XS.iload X0.here hx rfl (hb hby at_57) rfl k) ?_
    refine ODH.go (B := (s₁.setTop (mkF m 61 #[.val (.int p0), .val (.int p1), .val (.int p2), .val (.int v15_1), .val (.int (3 : Int32)), .val (.int u29_5), .val (.int u40_6), .val (.int u51_7), .unset, .unset, .unset, .unset, .unset, .unset] [(.int u51_7), (.int u40_6), (.int u29_5), (.int (3 : Int32))]))) (fun t k => XS.iload X0.here hx rfl (hb hby at_59) rfl k) ?_
    obtain ⟨_, _, ⟨T92, L92, k92, n92⟩, -, X92, hs92, gr92, ⟨Lc92, hQ92, l92, y92, z92, cr92⟩, st92⟩ := callSS X0 hx (y := (⟨"com/example/triad/triad/rest/PercentEncodingIsKeptPinLaw", "keptOf", "(ICCC)Ljava/lang/String;"⟩ : MethodName)) hown (mvT hZ (Wd0 hw)) (mvT hZ (Wd1 hw)) (mvT hZ (Wd2 hw)) (mvT hZ (Wd3 hw)) (by decide) (backOfSH (W := 0) (rmKO3 l Z a0 hw [] u29_5 u40_6 u51_7 h0 h0.size (Nat.le_refl _) X00 r0 r1 r2 zc O2 P5) hZ (Wd3 hw) (Wd2 hw) (by decide) (by decide) (EL_in hw) ch0.1) (g := (mkF m 61 #[.val (.int p0), .val (.int p1), .val (.int p2), .val (.int v15_1), .val (.int (3 : Int32)), .val (.int u29_5), .val (.int u40_6), .val (.int u51_7), .unset, .unset, .unset, .unset, .unset, .unset] [(.int u51_7), (.int u40_6), (.int u29_5), (.int (3 : Int32))])) rfl (by rw [hml]; rfl) (argsL := [(.int (3 : Int32)), (.int u29_5), (.int u40_6), (.int u51_7)]) (rest := []) (lenOf pd9 rfl) rfl (by show 2 * 0 + _ ≤ _; exact Nat.le_of_eq rfl) (hb hby at_61) (fun _ _ => ⟨rfl, e0, (Nat.le_of_ble_eq_true rfl), (Nat.le_of_ble_eq_true rfl)⟩)
    dsimp only [Pt.U, Pt.locs, Pt.cells, Pt.slots] at X92 l92 y92 z92 st92 hQ92 hs92 gr92 cr92
    subst l92 y92 z92
    have X92 : Stand p l e _ (s.setVm T92.vm) m _ below meth c T92 _ _ _ := X92
    have hZ : Z.Warmed39 (s.setVm T92.vm).vm := State.Warmed39.trans (t := (s.setVm s.vm)) hZ hs92.1
    have hown : (s.setVm T92.vm).vm.findClass "com/example/triad/triad/rest/PercentEncodingIsKeptPinLaw" = some m.cls := by rw [show (s.setVm T92.vm).vm = T92.vm from rfl, hs92.1.alike.findClass]; exact hown
    have hS92 : s.Since T92.vm T92.heap.size := hS0.trans hs92 (Nat.le_trans (by rw [e0]; exact hk0) gr92)
    have hk92 : T92.heap.size ≤ T92.heap.size := Nat.le_refl _
    have ch92 := ch0.trans cr92
    obtain ⟨b92, t92, kb92, rfl, Nq92, K92, nt92, E92, C92, V92, A92⟩ := hQ92
    have N92 := Fr.app N0 Nq92
    refine ODH.via (B := (T92.setTop (mkF m 64 #[.val (.int p0), .val (.int p1), .val (.int p2), .val (.int v15_1), .val (.int (3 : Int32)), .val (.int u29_5), .val (.int u40_6), .val (.int u51_7), .unset, .unset, .unset, .unset, .unset, .unset] [(.ref b92)]))) st92 ?_
    refine ODH.go (B := (T92.setTop (mkF m 66 #[.val (.int p0), .val (.int p1), .val (.int p2), .val (.int v15_1), .val (.int (3 : Int32)), .val (.int u29_5), .val (.int u40_6), .val (.int u51_7), .val (.ref b92), .unset, .unset, .unset, .unset, .unset] []))) (fun t k => XS.astore X92.here hx rfl (hb hby at_64) rfl rfl (l' := #[.val (.int p0), .val (.int p1), .val (.int p2), .val (.int v15_1), .val (.int (3 : Int32)), .val (.int u29_5), .val (.int u40_6), .val (.int u51_7), .val (.ref b92), .unset, .unset, .unset, .unset, .unset]) rfl k) ?_
    refine ODH.go (B := (T92.setTop (mkF m 67 #[.val (.int p0), .val (.int p1), .val (.int p2), .val (.int v15_1), .val (.int (3 : Int32)), .val (.int u29_5), .val (.int u40_6), .val (.int u51_7), .val (.ref b92), .unset, .unset, .unset, .unset, .unset] [(.int v15_1)]))) (fun t k => XS.iloadN X92.here hx rfl (hb hby at_66) rfl k) ?_
    refine ODH.go (B := (T92.setTop (mkF m 69 #[.val (.int p0), .val (.int p1), .val (.int p2), .val (.int v15_1), .val (.int (3 : Int32)), .val (.int u29_5), .val (.int u40_6), .val (.int u51_7), .val (.ref b92), .unset, .unset, .unset, .unset, .unset] [(.int (97 : Int32)), (.int v15_1)]))) (fun t k => XS.bipush X92.here hx rfl (hb hby at_67) k) ?_
    refine ODH.go (B := (T92.setTop (mkF m 71 #[.val (.int p0), .val (.int p1), .val (.int p2), .val (.int v15_1), .val (.int (3 : Int32)), .val (.int u29_5), .val (.int u40_6), .val (.int u51_7), .val (.ref b92), .unset, .unset, .unset, .unset, .unset] [(.int (122 : Int32)), (.int (97 : Int32)), (.int v15_1)]))) (fun t k => XS.bipush X92.here hx rfl (hb hby at_69) k) ?_
    obtain ⟨_, _, ⟨T93, L93, k93, n93⟩, -, X93, ⟨Lc93, hQ93, l93, y93, z93⟩, st93⟩ := Jvm.LawKit.callS X92 hx (y := (⟨"com/example/triad/triad/rest/PercentEncodingIsKeptPinLaw", "between", "(III)Z"⟩ : MethodName)) hown (mvT hZ (Wd34 hw)) (mvT hZ (Wd35 hw)) (mvT hZ (Wd2 hw)) (mvT hZ (Wd36 hw)) (by decide) (backOf (W := 0) (rmB l Z a0 hw [] v15_1 (97 : Int32) (122 : Int32) T92.heap) hZ (Wd36 hw) (Wd2 hw) (by decide) (by decide)) (g := (mkF m 71 #[.val (.int p0), .val (.int p1), .val (.int p2), .val (.int v15_1), .val (.int (3 : Int32)), .val (.int u29_5), .val (.int u40_6), .val (.int u51_7), .val (.ref b92), .unset, .unset, .unset, .unset, .unset] [(.int (122 : Int32)), (.int (97 : Int32)), (.int v15_1)])) rfl (by rw [hml]; rfl) (argsL := [(.int v15_1), (.int (97 : Int32)), (.int (122 : Int32))]) (rest := []) (lenOf pd10 rfl) rfl (by show 2 * 0 + _ ≤ _; exact Nat.le_of_eq rfl) (hb hby at_71) (fun _ _ => ⟨rfl, rfl, (Nat.le_of_ble_eq_true rfl), (Nat.le_of_ble_eq_true rfl)⟩)
    dsimp only [Pt.U, Pt.locs, Pt.cells, Pt.slots] at X93 l93 y93 z93 st93 hQ93
    subst l93 y93 z93
    obtain ⟨rfl, rfl, e93⟩ := hQ93
    try rw [List.append_nil] at X93
    refine ODH.go (B := (T93.setTop (mkF m 74 #[.val (.int p0), .val (.int p1), .val (.int p2), .val (.int v15_1), .val (.int (3 : Int32)), .val (.int u29_5), .val (.int u40_6), .val (.int u51_7), .val (.ref b92), .unset, .unset, .unset, .unset, .unset] [(.int (own_btw v15_1 (97 : Int32) (122 : Int32)))]))) st93 ?_
    obtain ⟨v93_94, hv93_94⟩ : ∃ z : Int32, z = (if (own_btw v15_1 (97 : Int32) (122 : Int32)) = (0 : Int32) then (if (own_btw v15_1 (65 : Int32) (90 : Int32)) = (0 : Int32) then (0 : Int32) else (1 : Int32)) else (1 : Int32)) := ⟨_, rfl⟩
    refine ODH.cutX X93 (h := T92.heap) (B := fun T96 => (T96.setTop (mkF m 93 #[.val (.int p0), .val (.int p1), .val (.int p2), .val (.int v15_1), .val (.int (3 : Int32)), .val (.int u29_5), .val (.int u40_6), .val (.int u51_7), .val (.ref b92), .unset, .unset, .unset, .unset, .unset] [(.int v93_94)]))) (fun J93_95 => ?_) ?_
    · skip
      by_cases c74_97 : (own_btw v15_1 (97 : Int32) (122 : Int32)) = (0 : Int32)
      · refine ODH.go (B := (T93.setTop (mkF m 77 #[.val (.int p0), .val (.int p1), .val (.int p2), .val (.int v15_1), .val (.int (3 : Int32)), .val (.int u29_5), .val (.int u40_6), .val (.int u51_7), .val (.ref b92), .unset, .unset, .unset, .unset, .unset] []))) (fun t k => XS.ifNo X93.here hx rfl (hb hby at_74) rfl (by rw [if0]; exact (teq c74_97).2) k) ?_
        refine ODH.go (B := (T93.setTop (mkF m 78 #[.val (.int p0), .val (.int p1), .val (.int p2), .val (.int v15_1), .val (.int (3 : Int32)), .val (.int u29_5), .val (.int u40_6), .val (.int u51_7), .val (.ref b92), .unset, .unset, .unset, .unset, .unset] [(.int v15_1)]))) (fun t k => XS.iloadN X93.here hx rfl (hb hby at_77) rfl k) ?_
        refine ODH.go (B := (T93.setTop (mkF m 80 #[.val (.int p0), .val (.int p1), .val (.int p2), .val (.int v15_1), .val (.int (3 : Int32)), .val (.int u29_5), .val (.int u40_6), .val (.int u51_7), .val (.ref b92), .unset, .unset, .unset, .unset, .unset] [(.int (65 : Int32)), (.int v15_1)]))) (fun t k => XS.bipush X93.here hx rfl (hb hby at_78) k) ?_
        refine ODH.go (B := (T93.setTop (mkF m 82 #[.val (.int p0), .val (.int p1), .val (.int p2), .val (.int v15_1), .val (.int (3 : Int32)), .val (.int u29_5), .val (.int u40_6), .val (.int u51_7), .val (.ref b92), .unset, .unset, .unset, .unset, .unset] [(.int (90 : Int32)), (.int (65 : Int32)), (.int v15_1)]))) (fun t k => XS.bipush X93.here hx rfl (hb hby at_80) k) ?_
        obtain ⟨_, _, ⟨T98, L98, k98, n98⟩, -, X98, ⟨Lc98, hQ98, l98, y98, z98⟩, st98⟩ := Jvm.LawKit.callS X93 hx (y := (⟨"com/example/triad/triad/rest/PercentEncodingIsKeptPinLaw", "between", "(III)Z"⟩ : MethodName)) hown (mvT hZ (Wd34 hw)) (mvT hZ (Wd35 hw)) (mvT hZ (Wd2 hw)) (mvT hZ (Wd36 hw)) (by decide) (backOf (W := 0) (rmB l Z a0 hw [] v15_1 (65 : Int32) (90 : Int32) T92.heap) hZ (Wd36 hw) (Wd2 hw) (by decide) (by decide)) (g := (mkF m 82 #[.val (.int p0), .val (.int p1), .val (.int p2), .val (.int v15_1), .val (.int (3 : Int32)), .val (.int u29_5), .val (.int u40_6), .val (.int u51_7), .val (.ref b92), .unset, .unset, .unset, .unset, .unset] [(.int (90 : Int32)), (.int (65 : Int32)), (.int v15_1)])) rfl (by rw [hml]; rfl) (argsL := [(.int v15_1), (.int (65 : Int32)), (.int (90 : Int32))]) (rest := []) (lenOf pd10 rfl) rfl (by show 2 * 0 + _ ≤ _; exact Nat.le_of_eq rfl) (hb hby at_82) (fun _ _ => ⟨rfl, e93, (Nat.le_of_ble_eq_true rfl), (Nat.le_of_ble_eq_true rfl)⟩)
        dsimp only [Pt.U, Pt.locs, Pt.cells, Pt.slots] at X98 l98 y98 z98 st98 hQ98
        subst l98 y98 z98
        obtain ⟨rfl, rfl, e98⟩ := hQ98
        try rw [List.append_nil] at X98
        refine ODH.go (B := (T98.setTop (mkF m 85 #[.val (.int p0), .val (.int p1), .val (.int p2), .val (.int v15_1), .val (.int (3 : Int32)), .val (.int u29_5), .val (.int u40_6), .val (.int u51_7), .val (.ref b92), .unset, .unset, .unset, .unset, .unset] [(.int (own_btw v15_1 (65 : Int32) (90 : Int32)))]))) st98 ?_
        by_cases c85_99 : (own_btw v15_1 (65 : Int32) (90 : Int32)) = (0 : Int32)
        · refine ODH.go (B := (T98.setTop (mkF m 92 #[.val (.int p0), .val (.int p1), .val (.int p2), .val (.int v15_1), .val (.int (3 : Int32)), .val (.int u29_5), .val (.int u40_6), .val (.int u51_7), .val (.ref b92), .unset, .unset, .unset, .unset, .unset] []))) (fun t k => XS.ifYes X98.here hx rfl (pc0 := 85) (pc' := 92) rfl (hb hby at_85) rfl (by rw [if0]; exact (teq c85_99).1) (by decide) (by decide) k) ?_
          refine ODH.go (B := (T98.setTop (mkF m 93 #[.val (.int p0), .val (.int p1), .val (.int p2), .val (.int v15_1), .val (.int (3 : Int32)), .val (.int u29_5), .val (.int u40_6), .val (.int u51_7), .val (.ref b92), .unset, .unset, .unset, .unset, .unset] [(.int (0 : Int32))]))) (fun t k => XS.iconst X98.here hx rfl (hb hby at_92) k) ?_
          rw [if_pos c74_97, if_pos c85_99] at hv93_94
          rw [hv93_94] at J93_95
          exact J93_95 _ ⟨X98, e98⟩
        · refine ODH.go (B := (T98.setTop (mkF m 88 #[.val (.int p0), .val (.int p1), .val (.int p2), .val (.int v15_1), .val (.int (3 : Int32)), .val (.int u29_5), .val (.int u40_6), .val (.int u51_7), .val (.ref b92), .unset, .unset, .unset, .unset, .unset] []))) (fun t k => XS.ifNo X98.here hx rfl (hb hby at_85) rfl (by rw [if0]; exact (feq c85_99).1) k) ?_
          refine ODH.go (B := (T98.setTop (mkF m 89 #[.val (.int p0), .val (.int p1), .val (.int p2), .val (.int v15_1), .val (.int (3 : Int32)), .val (.int u29_5), .val (.int u40_6), .val (.int u51_7), .val (.ref b92), .unset, .unset, .unset, .unset, .unset] [(.int (1 : Int32))]))) (fun t k => XS.iconst X98.here hx rfl (hb hby at_88) k) ?_
          refine ODH.go (B := (T98.setTop (mkF m 93 #[.val (.int p0), .val (.int p1), .val (.int p2), .val (.int v15_1), .val (.int (3 : Int32)), .val (.int u29_5), .val (.int u40_6), .val (.int u51_7), .val (.ref b92), .unset, .unset, .unset, .unset, .unset] [(.int (1 : Int32))]))) (fun t k => XS.goto X98.here hx rfl (pc0 := 89) (pc' := 93) rfl (hb hby at_89) (by decide) (by decide) k) ?_
          rw [if_pos c74_97, if_neg c85_99] at hv93_94
          rw [hv93_94] at J93_95
          exact J93_95 _ ⟨X98, e98⟩
      · refine ODH.go (B := (T93.setTop (mkF m 88 #[.val (.int p0), .val (.int p1), .val (.int p2), .val (.int v15_1), .val (.int (3 : Int32)), .val (.int u29_5), .val (.int u40_6), .val (.int u51_7), .val (.ref b92), .unset, .unset, .unset, .unset, .unset] []))) (fun t k => XS.ifYes X93.here hx rfl (pc0 := 74) (pc' := 88) rfl (hb hby at_74) rfl (by rw [if0]; exact (feq c74_97).2) (by decide) (by decide) k) ?_
        refine ODH.go (B := (T93.setTop (mkF m 89 #[.val (.int p0), .val (.int p1), .val (.int p2), .val (.int v15_1), .val (.int (3 : Int32)), .val (.int u29_5), .val (.int u40_6), .val (.int u51_7), .val (.ref b92), .unset, .unset, .unset, .unset, .unset] [(.int (1 : Int32))]))) (fun t k => XS.iconst X93.here hx rfl (hb hby at_88) k) ?_
        refine ODH.go (B := (T93.setTop (mkF m 93 #[.val (.int p0), .val (.int p1), .val (.int p2), .val (.int v15_1), .val (.int (3 : Int32)), .val (.int u29_5), .val (.int u40_6), .val (.int u51_7), .val (.ref b92), .unset, .unset, .unset, .unset, .unset] [(.int (1 : Int32))]))) (fun t k => XS.goto X93.here hx rfl (pc0 := 89) (pc' := 93) rfl (hb hby at_89) (by decide) (by decide) k) ?_
        rw [if_neg c74_97] at hv93_94
        rw [hv93_94] at J93_95
        exact J93_95 _ ⟨X93, e93⟩
    rintro T96 ⟨XT96, eT96⟩
    show ODH _ _ _ _ _ _ _ _ _ (T96.setTop (mkF m 93 #[.val (.int p0), .val (.int p1), .val (.int p2), .val (.int v15_1), .val (.int (3 : Int32)), .val (.int u29_5), .val (.int u40_6), .val (.int u51_7), .val (.ref b92), .unset, .unset, .unset, .unset, .unset] [(.int v93_94)]))
    refine ODH.go (B := (T96.setTop (mkF m 95 #[.val (.int p0), .val (.int p1), .val (.int p2), .val (.int v15_1), .val (.int (3 : Int32)), .val (.int u29_5), .val (.int u40_6), .val (.int u51_7), .val (.ref b92), .val (.int v93_94), .unset, .unset, .unset, .unset] []))) (fun t k => XS.istore XT96.here hx rfl (hb hby at_93) rfl (l' := #[.val (.int p0), .val (.int p1), .val (.int p2), .val (.int v15_1), .val (.int (3 : Int32)), .val (.int u29_5), .val (.int u40_6), .val (.int u51_7), .val (.ref b92), .val (.int v93_94), .unset, .unset, .unset, .unset]) rfl k) ?_
    refine ODH.go (B := (T96.setTop (mkF m 96 #[.val (.int p0), .val (.int p1), .val (.int p2), .val (.int v15_1), .val (.int (3 : Int32)), .val (.int u29_5), .val (.int u40_6), .val (.int u51_7), .val (.ref b92), .val (.int v93_94), .unset, .unset, .unset, .unset] [(.int v15_1)]))) (fun t k => XS.iloadN XT96.here hx rfl (hb hby at_95) rfl k) ?_
    refine ODH.go (B := (T96.setTop (mkF m 98 #[.val (.int p0), .val (.int p1), .val (.int p2), .val (.int v15_1), .val (.int (3 : Int32)), .val (.int u29_5), .val (.int u40_6), .val (.int u51_7), .val (.ref b92), .val (.int v93_94), .unset, .unset, .unset, .unset] [(.int (48 : Int32)), (.int v15_1)]))) (fun t k => XS.bipush XT96.here hx rfl (hb hby at_96) k) ?_
    refine ODH.go (B := (T96.setTop (mkF m 100 #[.val (.int p0), .val (.int p1), .val (.int p2), .val (.int v15_1), .val (.int (3 : Int32)), .val (.int u29_5), .val (.int u40_6), .val (.int u51_7), .val (.ref b92), .val (.int v93_94), .unset, .unset, .unset, .unset] [(.int (57 : Int32)), (.int (48 : Int32)), (.int v15_1)]))) (fun t k => XS.bipush XT96.here hx rfl (hb hby at_98) k) ?_
    obtain ⟨_, _, ⟨T100, L100, k100, n100⟩, -, X100, ⟨Lc100, hQ100, l100, y100, z100⟩, st100⟩ := Jvm.LawKit.callS XT96 hx (y := (⟨"com/example/triad/triad/rest/PercentEncodingIsKeptPinLaw", "between", "(III)Z"⟩ : MethodName)) hown (mvT hZ (Wd34 hw)) (mvT hZ (Wd35 hw)) (mvT hZ (Wd2 hw)) (mvT hZ (Wd36 hw)) (by decide) (backOf (W := 0) (rmB l Z a0 hw [] v15_1 (48 : Int32) (57 : Int32) T92.heap) hZ (Wd36 hw) (Wd2 hw) (by decide) (by decide)) (g := (mkF m 100 #[.val (.int p0), .val (.int p1), .val (.int p2), .val (.int v15_1), .val (.int (3 : Int32)), .val (.int u29_5), .val (.int u40_6), .val (.int u51_7), .val (.ref b92), .val (.int v93_94), .unset, .unset, .unset, .unset] [(.int (57 : Int32)), (.int (48 : Int32)), (.int v15_1)])) rfl (by rw [hml]; rfl) (argsL := [(.int v15_1), (.int (48 : Int32)), (.int (57 : Int32))]) (rest := []) (lenOf pd10 rfl) rfl (by show 2 * 0 + _ ≤ _; exact Nat.le_of_eq rfl) (hb hby at_100) (fun _ _ => ⟨rfl, eT96, (Nat.le_of_ble_eq_true rfl), (Nat.le_of_ble_eq_true rfl)⟩)
    dsimp only [Pt.U, Pt.locs, Pt.cells, Pt.slots] at X100 l100 y100 z100 st100 hQ100
    subst l100 y100 z100
    obtain ⟨rfl, rfl, e100⟩ := hQ100
    try rw [List.append_nil] at X100
    refine ODH.go (B := (T100.setTop (mkF m 103 #[.val (.int p0), .val (.int p1), .val (.int p2), .val (.int v15_1), .val (.int (3 : Int32)), .val (.int u29_5), .val (.int u40_6), .val (.int u51_7), .val (.ref b92), .val (.int v93_94), .unset, .unset, .unset, .unset] [(.int (own_btw v15_1 (48 : Int32) (57 : Int32)))]))) st100 ?_
    refine ODH.go (B := (T100.setTop (mkF m 105 #[.val (.int p0), .val (.int p1), .val (.int p2), .val (.int v15_1), .val (.int (3 : Int32)), .val (.int u29_5), .val (.int u40_6), .val (.int u51_7), .val (.ref b92), .val (.int v93_94), .val (.int (own_btw v15_1 (48 : Int32) (57 : Int32))), .unset, .unset, .unset] []))) (fun t k => XS.istore X100.here hx rfl (hb hby at_103) rfl (l' := #[.val (.int p0), .val (.int p1), .val (.int p2), .val (.int v15_1), .val (.int (3 : Int32)), .val (.int u29_5), .val (.int u40_6), .val (.int u51_7), .val (.ref b92), .val (.int v93_94), .val (.int (own_btw v15_1 (48 : Int32) (57 : Int32))), .unset, .unset, .unset]) rfl k) ?_
    generalize hu103_101 : (own_btw v15_1 (48 : Int32) (57 : Int32)) = u103_101
    refine ODH.go (B := (T100.setTop (mkF m 106 #[.val (.int p0), .val (.int p1), .val (.int p2), .val (.int v15_1), .val (.int (3 : Int32)), .val (.int u29_5), .val (.int u40_6), .val (.int u51_7), .val (.ref b92), .val (.int v93_94), .val (.int u103_101), .unset, .unset, .unset] [(.int v15_1)]))) (fun t k => XS.iloadN X100.here hx rfl (hb hby at_105) rfl k) ?_
    refine ODH.go (B := (T100.setTop (mkF m 108 #[.val (.int p0), .val (.int p1), .val (.int p2), .val (.int v15_1), .val (.int (3 : Int32)), .val (.int u29_5), .val (.int u40_6), .val (.int u51_7), .val (.ref b92), .val (.int v93_94), .val (.int u103_101), .unset, .unset, .unset] [(.int (45 : Int32)), (.int v15_1)]))) (fun t k => XS.bipush X100.here hx rfl (hb hby at_106) k) ?_
    obtain ⟨v134_102, hv134_102⟩ : ∃ z : Int32, z = (if v15_1 = (45 : Int32) then (1 : Int32) else (if v15_1 = (46 : Int32) then (1 : Int32) else (if v15_1 = (95 : Int32) then (1 : Int32) else (if v15_1 = (126 : Int32) then (1 : Int32) else (0 : Int32))))) := ⟨_, rfl⟩
    refine ODH.cut (B := (T100.setTop (mkF m 134 #[.val (.int p0), .val (.int p1), .val (.int p2), .val (.int v15_1), .val (.int (3 : Int32)), .val (.int u29_5), .val (.int u40_6), .val (.int u51_7), .val (.ref b92), .val (.int v93_94), .val (.int u103_101), .unset, .unset, .unset] [(.int v134_102)]))) (fun J134_103 => ?_) ?_
    · skip
      by_cases c108_104 : v15_1 = (45 : Int32)
      · refine ODH.go (B := (T100.setTop (mkF m 129 #[.val (.int p0), .val (.int p1), .val (.int p2), .val (.int v15_1), .val (.int (3 : Int32)), .val (.int u29_5), .val (.int u40_6), .val (.int u51_7), .val (.ref b92), .val (.int v93_94), .val (.int u103_101), .unset, .unset, .unset] []))) (fun t k => XS.icmpYes X100.here hx rfl (pc0 := 108) (pc' := 129) rfl (hb hby at_108) rfl (teq c108_104).1 (by decide) (by decide) k) ?_
        refine ODH.go (B := (T100.setTop (mkF m 130 #[.val (.int p0), .val (.int p1), .val (.int p2), .val (.int v15_1), .val (.int (3 : Int32)), .val (.int u29_5), .val (.int u40_6), .val (.int u51_7), .val (.ref b92), .val (.int v93_94), .val (.int u103_101), .unset, .unset, .unset] [(.int (1 : Int32))]))) (fun t k => XS.iconst X100.here hx rfl (hb hby at_129) k) ?_
        refine ODH.go (B := (T100.setTop (mkF m 134 #[.val (.int p0), .val (.int p1), .val (.int p2), .val (.int v15_1), .val (.int (3 : Int32)), .val (.int u29_5), .val (.int u40_6), .val (.int u51_7), .val (.ref b92), .val (.int v93_94), .val (.int u103_101), .unset, .unset, .unset] [(.int (1 : Int32))]))) (fun t k => XS.goto X100.here hx rfl (pc0 := 130) (pc' := 134) rfl (hb hby at_130) (by decide) (by decide) k) ?_
        rw [if_pos c108_104] at hv134_102
        rw [hv134_102] at J134_103
        exact J134_103
      · refine ODH.go (B := (T100.setTop (mkF m 111 #[.val (.int p0), .val (.int p1), .val (.int p2), .val (.int v15_1), .val (.int (3 : Int32)), .val (.int u29_5), .val (.int u40_6), .val (.int u51_7), .val (.ref b92), .val (.int v93_94), .val (.int u103_101), .unset, .unset, .unset] []))) (fun t k => XS.icmpNo X100.here hx rfl (hb hby at_108) rfl (feq c108_104).1 k) ?_
        refine ODH.go (B := (T100.setTop (mkF m 112 #[.val (.int p0), .val (.int p1), .val (.int p2), .val (.int v15_1), .val (.int (3 : Int32)), .val (.int u29_5), .val (.int u40_6), .val (.int u51_7), .val (.ref b92), .val (.int v93_94), .val (.int u103_101), .unset, .unset, .unset] [(.int v15_1)]))) (fun t k => XS.iloadN X100.here hx rfl (hb hby at_111) rfl k) ?_
        refine ODH.go (B := (T100.setTop (mkF m 114 #[.val (.int p0), .val (.int p1), .val (.int p2), .val (.int v15_1), .val (.int (3 : Int32)), .val (.int u29_5), .val (.int u40_6), .val (.int u51_7), .val (.ref b92), .val (.int v93_94), .val (.int u103_101), .unset, .unset, .unset] [(.int (46 : Int32)), (.int v15_1)]))) (fun t k => XS.bipush X100.here hx rfl (hb hby at_112) k) ?_
        by_cases c114_105 : v15_1 = (46 : Int32)
        · refine ODH.go (B := (T100.setTop (mkF m 129 #[.val (.int p0), .val (.int p1), .val (.int p2), .val (.int v15_1), .val (.int (3 : Int32)), .val (.int u29_5), .val (.int u40_6), .val (.int u51_7), .val (.ref b92), .val (.int v93_94), .val (.int u103_101), .unset, .unset, .unset] []))) (fun t k => XS.icmpYes X100.here hx rfl (pc0 := 114) (pc' := 129) rfl (hb hby at_114) rfl (teq c114_105).1 (by decide) (by decide) k) ?_
          refine ODH.go (B := (T100.setTop (mkF m 130 #[.val (.int p0), .val (.int p1), .val (.int p2), .val (.int v15_1), .val (.int (3 : Int32)), .val (.int u29_5), .val (.int u40_6), .val (.int u51_7), .val (.ref b92), .val (.int v93_94), .val (.int u103_101), .unset, .unset, .unset] [(.int (1 : Int32))]))) (fun t k => XS.iconst X100.here hx rfl (hb hby at_129) k) ?_
          refine ODH.go (B := (T100.setTop (mkF m 134 #[.val (.int p0), .val (.int p1), .val (.int p2), .val (.int v15_1), .val (.int (3 : Int32)), .val (.int u29_5), .val (.int u40_6), .val (.int u51_7), .val (.ref b92), .val (.int v93_94), .val (.int u103_101), .unset, .unset, .unset] [(.int (1 : Int32))]))) (fun t k => XS.goto X100.here hx rfl (pc0 := 130) (pc' := 134) rfl (hb hby at_130) (by decide) (by decide) k) ?_
          rw [if_neg c108_104, if_pos c114_105] at hv134_102
          rw [hv134_102] at J134_103
          exact J134_103
        · refine ODH.go (B := (T100.setTop (mkF m 117 #[.val (.int p0), .val (.int p1), .val (.int p2), .val (.int v15_1), .val (.int (3 : Int32)), .val (.int u29_5), .val (.int u40_6), .val (.int u51_7), .val (.ref b92), .val (.int v93_94), .val (.int u103_101), .unset, .unset, .unset] []))) (fun t k => XS.icmpNo X100.here hx rfl (hb hby at_114) rfl (feq c114_105).1 k) ?_
          refine ODH.go (B := (T100.setTop (mkF m 118 #[.val (.int p0), .val (.int p1), .val (.int p2), .val (.int v15_1), .val (.int (3 : Int32)), .val (.int u29_5), .val (.int u40_6), .val (.int u51_7), .val (.ref b92), .val (.int v93_94), .val (.int u103_101), .unset, .unset, .unset] [(.int v15_1)]))) (fun t k => XS.iloadN X100.here hx rfl (hb hby at_117) rfl k) ?_
          refine ODH.go (B := (T100.setTop (mkF m 120 #[.val (.int p0), .val (.int p1), .val (.int p2), .val (.int v15_1), .val (.int (3 : Int32)), .val (.int u29_5), .val (.int u40_6), .val (.int u51_7), .val (.ref b92), .val (.int v93_94), .val (.int u103_101), .unset, .unset, .unset] [(.int (95 : Int32)), (.int v15_1)]))) (fun t k => XS.bipush X100.here hx rfl (hb hby at_118) k) ?_
          by_cases c120_106 : v15_1 = (95 : Int32)
          · refine ODH.go (B := (T100.setTop (mkF m 129 #[.val (.int p0), .val (.int p1), .val (.int p2), .val (.int v15_1), .val (.int (3 : Int32)), .val (.int u29_5), .val (.int u40_6), .val (.int u51_7), .val (.ref b92), .val (.int v93_94), .val (.int u103_101), .unset, .unset, .unset] []))) (fun t k => XS.icmpYes X100.here hx rfl (pc0 := 120) (pc' := 129) rfl (hb hby at_120) rfl (teq c120_106).1 (by decide) (by decide) k) ?_
            refine ODH.go (B := (T100.setTop (mkF m 130 #[.val (.int p0), .val (.int p1), .val (.int p2), .val (.int v15_1), .val (.int (3 : Int32)), .val (.int u29_5), .val (.int u40_6), .val (.int u51_7), .val (.ref b92), .val (.int v93_94), .val (.int u103_101), .unset, .unset, .unset] [(.int (1 : Int32))]))) (fun t k => XS.iconst X100.here hx rfl (hb hby at_129) k) ?_
            refine ODH.go (B := (T100.setTop (mkF m 134 #[.val (.int p0), .val (.int p1), .val (.int p2), .val (.int v15_1), .val (.int (3 : Int32)), .val (.int u29_5), .val (.int u40_6), .val (.int u51_7), .val (.ref b92), .val (.int v93_94), .val (.int u103_101), .unset, .unset, .unset] [(.int (1 : Int32))]))) (fun t k => XS.goto X100.here hx rfl (pc0 := 130) (pc' := 134) rfl (hb hby at_130) (by decide) (by decide) k) ?_
            rw [if_neg c108_104, if_neg c114_105, if_pos c120_106] at hv134_102
            rw [hv134_102] at J134_103
            exact J134_103
          · refine ODH.go (B := (T100.setTop (mkF m 123 #[.val (.int p0), .val (.int p1), .val (.int p2), .val (.int v15_1), .val (.int (3 : Int32)), .val (.int u29_5), .val (.int u40_6), .val (.int u51_7), .val (.ref b92), .val (.int v93_94), .val (.int u103_101), .unset, .unset, .unset] []))) (fun t k => XS.icmpNo X100.here hx rfl (hb hby at_120) rfl (feq c120_106).1 k) ?_
            refine ODH.go (B := (T100.setTop (mkF m 124 #[.val (.int p0), .val (.int p1), .val (.int p2), .val (.int v15_1), .val (.int (3 : Int32)), .val (.int u29_5), .val (.int u40_6), .val (.int u51_7), .val (.ref b92), .val (.int v93_94), .val (.int u103_101), .unset, .unset, .unset] [(.int v15_1)]))) (fun t k => XS.iloadN X100.here hx rfl (hb hby at_123) rfl k) ?_
            refine ODH.go (B := (T100.setTop (mkF m 126 #[.val (.int p0), .val (.int p1), .val (.int p2), .val (.int v15_1), .val (.int (3 : Int32)), .val (.int u29_5), .val (.int u40_6), .val (.int u51_7), .val (.ref b92), .val (.int v93_94), .val (.int u103_101), .unset, .unset, .unset] [(.int (126 : Int32)), (.int v15_1)]))) (fun t k => XS.bipush X100.here hx rfl (hb hby at_124) k) ?_
            by_cases c126_107 : v15_1 = (126 : Int32)
            · refine ODH.go (B := (T100.setTop (mkF m 129 #[.val (.int p0), .val (.int p1), .val (.int p2), .val (.int v15_1), .val (.int (3 : Int32)), .val (.int u29_5), .val (.int u40_6), .val (.int u51_7), .val (.ref b92), .val (.int v93_94), .val (.int u103_101), .unset, .unset, .unset] []))) (fun t k => XS.icmpNo X100.here hx rfl (hb hby at_126) rfl (teq c126_107).2 k) ?_
              refine ODH.go (B := (T100.setTop (mkF m 130 #[.val (.int p0), .val (.int p1), .val (.int p2), .val (.int v15_1), .val (.int (3 : Int32)), .val (.int u29_5), .val (.int u40_6), .val (.int u51_7), .val (.ref b92), .val (.int v93_94), .val (.int u103_101), .unset, .unset, .unset] [(.int (1 : Int32))]))) (fun t k => XS.iconst X100.here hx rfl (hb hby at_129) k) ?_
              refine ODH.go (B := (T100.setTop (mkF m 134 #[.val (.int p0), .val (.int p1), .val (.int p2), .val (.int v15_1), .val (.int (3 : Int32)), .val (.int u29_5), .val (.int u40_6), .val (.int u51_7), .val (.ref b92), .val (.int v93_94), .val (.int u103_101), .unset, .unset, .unset] [(.int (1 : Int32))]))) (fun t k => XS.goto X100.here hx rfl (pc0 := 130) (pc' := 134) rfl (hb hby at_130) (by decide) (by decide) k) ?_
              rw [if_neg c108_104, if_neg c114_105, if_neg c120_106, if_pos c126_107] at hv134_102
              rw [hv134_102] at J134_103
              exact J134_103
            · refine ODH.go (B := (T100.setTop (mkF m 133 #[.val (.int p0), .val (.int p1), .val (.int p2), .val (.int v15_1), .val (.int (3 : Int32)), .val (.int u29_5), .val (.int u40_6), .val (.int u51_7), .val (.ref b92), .val (.int v93_94), .val (.int u103_101), .unset, .unset, .unset] []))) (fun t k => XS.icmpYes X100.here hx rfl (pc0 := 126) (pc' := 133) rfl (hb hby at_126) rfl (feq c126_107).2 (by decide) (by decide) k) ?_
              refine ODH.go (B := (T100.setTop (mkF m 134 #[.val (.int p0), .val (.int p1), .val (.int p2), .val (.int v15_1), .val (.int (3 : Int32)), .val (.int u29_5), .val (.int u40_6), .val (.int u51_7), .val (.ref b92), .val (.int v93_94), .val (.int u103_101), .unset, .unset, .unset] [(.int (0 : Int32))]))) (fun t k => XS.iconst X100.here hx rfl (hb hby at_133) k) ?_
              rw [if_neg c108_104, if_neg c114_105, if_neg c120_106, if_neg c126_107] at hv134_102
              rw [hv134_102] at J134_103
              exact J134_103
    refine ODH.go (B := (T100.setTop (mkF m 136 #[.val (.int p0), .val (.int p1), .val (.int p2), .val (.int v15_1), .val (.int (3 : Int32)), .val (.int u29_5), .val (.int u40_6), .val (.int u51_7), .val (.ref b92), .val (.int v93_94), .val (.int u103_101), .val (.int v134_102), .unset, .unset] []))) (fun t k => XS.istore X100.here hx rfl (hb hby at_134) rfl (l' := #[.val (.int p0), .val (.int p1), .val (.int p2), .val (.int v15_1), .val (.int (3 : Int32)), .val (.int u29_5), .val (.int u40_6), .val (.int u51_7), .val (.ref b92), .val (.int v93_94), .val (.int u103_101), .val (.int v134_102), .unset, .unset]) rfl k) ?_
    refine ODH.go (B := (T100.setTop (mkF m 138 #[.val (.int p0), .val (.int p1), .val (.int p2), .val (.int v15_1), .val (.int (3 : Int32)), .val (.int u29_5), .val (.int u40_6), .val (.int u51_7), .val (.ref b92), .val (.int v93_94), .val (.int u103_101), .val (.int v134_102), .unset, .unset] [(.int (3 : Int32))]))) (fun t k => XS.iload X100.here hx rfl (hb hby at_136) rfl k) ?_
    refine ODH.go (B := (T100.setTop (mkF m 139 #[.val (.int p0), .val (.int p1), .val (.int p2), .val (.int v15_1), .val (.int (3 : Int32)), .val (.int u29_5), .val (.int u40_6), .val (.int u51_7), .val (.ref b92), .val (.int v93_94), .val (.int u103_101), .val (.int v134_102), .unset, .unset] [(.int (1 : Int32)), (.int (3 : Int32))]))) (fun t k => XS.iconst X100.here hx rfl (hb hby at_138) k) ?_
    refine ODH.go (B := (T100.setTop (mkF m 142 #[.val (.int p0), .val (.int p1), .val (.int p2), .val (.int v15_1), .val (.int (3 : Int32)), .val (.int u29_5), .val (.int u40_6), .val (.int u51_7), .val (.ref b92), .val (.int v93_94), .val (.int u103_101), .val (.int v134_102), .unset, .unset] []))) (fun t k => XS.icmpNo X100.here hx rfl (hb hby at_139) rfl (flt (by decide : ¬ (3 : Int32) < (1 : Int32))).1 k) ?_
    refine ODH.go (B := (T100.setTop (mkF m 143 #[.val (.int p0), .val (.int p1), .val (.int p2), .val (.int v15_1), .val (.int (3 : Int32)), .val (.int u29_5), .val (.int u40_6), .val (.int u51_7), .val (.ref b92), .val (.int v93_94), .val (.int u103_101), .val (.int v134_102), .unset, .unset] [(.int v15_1)]))) (fun t k => XS.iloadN X100.here hx rfl (hb hby at_142) rfl k) ?_
    refine ODH.go (B := (T100.setTop (mkF m 145 #[.val (.int p0), .val (.int p1), .val (.int p2), .val (.int v15_1), .val (.int (3 : Int32)), .val (.int u29_5), .val (.int u40_6), .val (.int u51_7), .val (.ref b92), .val (.int v93_94), .val (.int u103_101), .val (.int v134_102), .unset, .unset] [(.int u29_5), (.int v15_1)]))) (fun t k => XS.iload X100.here hx rfl (hb hby at_143) rfl k) ?_
    obtain ⟨v177_108, hv177_108⟩ : ∃ z : Int32, z = (if v15_1 = u29_5 then (1 : Int32) else (if v15_1 = u40_6 then (1 : Int32) else (if v15_1 = u51_7 then (1 : Int32) else (0 : Int32)))) := ⟨_, rfl⟩
    refine ODH.cut (B := (T100.setTop (mkF m 177 #[.val (.int p0), .val (.int p1), .val (.int p2), .val (.int v15_1), .val (.int (3 : Int32)), .val (.int u29_5), .val (.int u40_6), .val (.int u51_7), .val (.ref b92), .val (.int v93_94), .val (.int u103_101), .val (.int v134_102), .unset, .unset] [(.int v177_108)]))) (fun J177_109 => ?_) ?_
    · skip
      by_cases c145_110 : v15_1 = u29_5
      · refine ODH.go (B := (T100.setTop (mkF m 172 #[.val (.int p0), .val (.int p1), .val (.int p2), .val (.int v15_1), .val (.int (3 : Int32)), .val (.int u29_5), .val (.int u40_6), .val (.int u51_7), .val (.ref b92), .val (.int v93_94), .val (.int u103_101), .val (.int v134_102), .unset, .unset] []))) (fun t k => XS.icmpYes X100.here hx rfl (pc0 := 145) (pc' := 172) rfl (hb hby at_145) rfl (teq c145_110).1 (by decide) (by decide) k) ?_
        refine ODH.go (B := (T100.setTop (mkF m 173 #[.val (.int p0), .val (.int p1), .val (.int p2), .val (.int v15_1), .val (.int (3 : Int32)), .val (.int u29_5), .val (.int u40_6), .val (.int u51_7), .val (.ref b92), .val (.int v93_94), .val (.int u103_101), .val (.int v134_102), .unset, .unset] [(.int (1 : Int32))]))) (fun t k => XS.iconst X100.here hx rfl (hb hby at_172) k) ?_
        refine ODH.go (B := (T100.setTop (mkF m 177 #[.val (.int p0), .val (.int p1), .val (.int p2), .val (.int v15_1), .val (.int (3 : Int32)), .val (.int u29_5), .val (.int u40_6), .val (.int u51_7), .val (.ref b92), .val (.int v93_94), .val (.int u103_101), .val (.int v134_102), .unset, .unset] [(.int (1 : Int32))]))) (fun t k => XS.goto X100.here hx rfl (pc0 := 173) (pc' := 177) rfl (hb hby at_173) (by decide) (by decide) k) ?_
        rw [if_pos c145_110] at hv177_108
        rw [hv177_108] at J177_109
        exact J177_109
      · refine ODH.go (B := (T100.setTop (mkF m 148 #[.val (.int p0), .val (.int p1), .val (.int p2), .val (.int v15_1), .val (.int (3 : Int32)), .val (.int u29_5), .val (.int u40_6), .val (.int u51_7), .val (.ref b92), .val (.int v93_94), .val (.int u103_101), .val (.int v134_102), .unset, .unset] []))) (fun t k => XS.icmpNo X100.here hx rfl (hb hby at_145) rfl (feq c145_110).1 k) ?_
        refine ODH.go (B := (T100.setTop (mkF m 150 #[.val (.int p0), .val (.int p1), .val (.int p2), .val (.int v15_1), .val (.int (3 : Int32)), .val (.int u29_5), .val (.int u40_6), .val (.int u51_7), .val (.ref b92), .val (.int v93_94), .val (.int u103_101), .val (.int v134_102), .unset, .unset] [(.int (3 : Int32))]))) (fun t k => XS.iload X100.here hx rfl (hb hby at_148) rfl k) ?_
        refine ODH.go (B := (T100.setTop (mkF m 151 #[.val (.int p0), .val (.int p1), .val (.int p2), .val (.int v15_1), .val (.int (3 : Int32)), .val (.int u29_5), .val (.int u40_6), .val (.int u51_7), .val (.ref b92), .val (.int v93_94), .val (.int u103_101), .val (.int v134_102), .unset, .unset] [(.int (2 : Int32)), (.int (3 : Int32))]))) (fun t k => XS.iconst X100.here hx rfl (hb hby at_150) k) ?_
        refine ODH.go (B := (T100.setTop (mkF m 154 #[.val (.int p0), .val (.int p1), .val (.int p2), .val (.int v15_1), .val (.int (3 : Int32)), .val (.int u29_5), .val (.int u40_6), .val (.int u51_7), .val (.ref b92), .val (.int v93_94), .val (.int u103_101), .val (.int v134_102), .unset, .unset] []))) (fun t k => XS.icmpNo X100.here hx rfl (hb hby at_151) rfl (flt (by decide : ¬ (3 : Int32) < (2 : Int32))).1 k) ?_
        refine ODH.go (B := (T100.setTop (mkF m 155 #[.val (.int p0), .val (.int p1), .val (.int p2), .val (.int v15_1), .val (.int (3 : Int32)), .val (.int u29_5), .val (.int u40_6), .val (.int u51_7), .val (.ref b92), .val (.int v93_94), .val (.int u103_101), .val (.int v134_102), .unset, .unset] [(.int v15_1)]))) (fun t k => XS.iloadN X100.here hx rfl (hb hby at_154) rfl k) ?_
        refine ODH.go (B := (T100.setTop (mkF m 157 #[.val (.int p0), .val (.int p1), .val (.int p2), .val (.int v15_1), .val (.int (3 : Int32)), .val (.int u29_5), .val (.int u40_6), .val (.int u51_7), .val (.ref b92), .val (.int v93_94), .val (.int u103_101), .val (.int v134_102), .unset, .unset] [(.int u40_6), (.int v15_1)]))) (fun t k => XS.iload X100.here hx rfl (hb hby at_155) rfl k) ?_
        by_cases c157_111 : v15_1 = u40_6
        · refine ODH.go (B := (T100.setTop (mkF m 172 #[.val (.int p0), .val (.int p1), .val (.int p2), .val (.int v15_1), .val (.int (3 : Int32)), .val (.int u29_5), .val (.int u40_6), .val (.int u51_7), .val (.ref b92), .val (.int v93_94), .val (.int u103_101), .val (.int v134_102), .unset, .unset] []))) (fun t k => XS.icmpYes X100.here hx rfl (pc0 := 157) (pc' := 172) rfl (hb hby at_157) rfl (teq c157_111).1 (by decide) (by decide) k) ?_
          refine ODH.go (B := (T100.setTop (mkF m 173 #[.val (.int p0), .val (.int p1), .val (.int p2), .val (.int v15_1), .val (.int (3 : Int32)), .val (.int u29_5), .val (.int u40_6), .val (.int u51_7), .val (.ref b92), .val (.int v93_94), .val (.int u103_101), .val (.int v134_102), .unset, .unset] [(.int (1 : Int32))]))) (fun t k => XS.iconst X100.here hx rfl (hb hby at_172) k) ?_
          refine ODH.go (B := (T100.setTop (mkF m 177 #[.val (.int p0), .val (.int p1), .val (.int p2), .val (.int v15_1), .val (.int (3 : Int32)), .val (.int u29_5), .val (.int u40_6), .val (.int u51_7), .val (.ref b92), .val (.int v93_94), .val (.int u103_101), .val (.int v134_102), .unset, .unset] [(.int (1 : Int32))]))) (fun t k => XS.goto X100.here hx rfl (pc0 := 173) (pc' := 177) rfl (hb hby at_173) (by decide) (by decide) k) ?_
          rw [if_neg c145_110, if_pos c157_111] at hv177_108
          rw [hv177_108] at J177_109
          exact J177_109
        · refine ODH.go (B := (T100.setTop (mkF m 160 #[.val (.int p0), .val (.int p1), .val (.int p2), .val (.int v15_1), .val (.int (3 : Int32)), .val (.int u29_5), .val (.int u40_6), .val (.int u51_7), .val (.ref b92), .val (.int v93_94), .val (.int u103_101), .val (.int v134_102), .unset, .unset] []))) (fun t k => XS.icmpNo X100.here hx rfl (hb hby at_157) rfl (feq c157_111).1 k) ?_
          refine ODH.go (B := (T100.setTop (mkF m 162 #[.val (.int p0), .val (.int p1), .val (.int p2), .val (.int v15_1), .val (.int (3 : Int32)), .val (.int u29_5), .val (.int u40_6), .val (.int u51_7), .val (.ref b92), .val (.int v93_94), .val (.int u103_101), .val (.int v134_102), .unset, .unset] [(.int (3 : Int32))]))) (fun t k => XS.iload X100.here hx rfl (hb hby at_160) rfl k) ?_
          refine ODH.go (B := (T100.setTop (mkF m 163 #[.val (.int p0), .val (.int p1), .val (.int p2), .val (.int v15_1), .val (.int (3 : Int32)), .val (.int u29_5), .val (.int u40_6), .val (.int u51_7), .val (.ref b92), .val (.int v93_94), .val (.int u103_101), .val (.int v134_102), .unset, .unset] [(.int (3 : Int32)), (.int (3 : Int32))]))) (fun t k => XS.iconst X100.here hx rfl (hb hby at_162) k) ?_
          refine ODH.go (B := (T100.setTop (mkF m 166 #[.val (.int p0), .val (.int p1), .val (.int p2), .val (.int v15_1), .val (.int (3 : Int32)), .val (.int u29_5), .val (.int u40_6), .val (.int u51_7), .val (.ref b92), .val (.int v93_94), .val (.int u103_101), .val (.int v134_102), .unset, .unset] []))) (fun t k => XS.icmpNo X100.here hx rfl (hb hby at_163) rfl (flt (by decide : ¬ (3 : Int32) < (3 : Int32))).1 k) ?_
          refine ODH.go (B := (T100.setTop (mkF m 167 #[.val (.int p0), .val (.int p1), .val (.int p2), .val (.int v15_1), .val (.int (3 : Int32)), .val (.int u29_5), .val (.int u40_6), .val (.int u51_7), .val (.ref b92), .val (.int v93_94), .val (.int u103_101), .val (.int v134_102), .unset, .unset] [(.int v15_1)]))) (fun t k => XS.iloadN X100.here hx rfl (hb hby at_166) rfl k) ?_
          refine ODH.go (B := (T100.setTop (mkF m 169 #[.val (.int p0), .val (.int p1), .val (.int p2), .val (.int v15_1), .val (.int (3 : Int32)), .val (.int u29_5), .val (.int u40_6), .val (.int u51_7), .val (.ref b92), .val (.int v93_94), .val (.int u103_101), .val (.int v134_102), .unset, .unset] [(.int u51_7), (.int v15_1)]))) (fun t k => XS.iload X100.here hx rfl (hb hby at_167) rfl k) ?_
          by_cases c169_112 : v15_1 = u51_7
          · refine ODH.go (B := (T100.setTop (mkF m 172 #[.val (.int p0), .val (.int p1), .val (.int p2), .val (.int v15_1), .val (.int (3 : Int32)), .val (.int u29_5), .val (.int u40_6), .val (.int u51_7), .val (.ref b92), .val (.int v93_94), .val (.int u103_101), .val (.int v134_102), .unset, .unset] []))) (fun t k => XS.icmpNo X100.here hx rfl (hb hby at_169) rfl (teq c169_112).2 k) ?_
            refine ODH.go (B := (T100.setTop (mkF m 173 #[.val (.int p0), .val (.int p1), .val (.int p2), .val (.int v15_1), .val (.int (3 : Int32)), .val (.int u29_5), .val (.int u40_6), .val (.int u51_7), .val (.ref b92), .val (.int v93_94), .val (.int u103_101), .val (.int v134_102), .unset, .unset] [(.int (1 : Int32))]))) (fun t k => XS.iconst X100.here hx rfl (hb hby at_172) k) ?_
            refine ODH.go (B := (T100.setTop (mkF m 177 #[.val (.int p0), .val (.int p1), .val (.int p2), .val (.int v15_1), .val (.int (3 : Int32)), .val (.int u29_5), .val (.int u40_6), .val (.int u51_7), .val (.ref b92), .val (.int v93_94), .val (.int u103_101), .val (.int v134_102), .unset, .unset] [(.int (1 : Int32))]))) (fun t k => XS.goto X100.here hx rfl (pc0 := 173) (pc' := 177) rfl (hb hby at_173) (by decide) (by decide) k) ?_
            rw [if_neg c145_110, if_neg c157_111, if_pos c169_112] at hv177_108
            rw [hv177_108] at J177_109
            exact J177_109
          · refine ODH.go (B := (T100.setTop (mkF m 176 #[.val (.int p0), .val (.int p1), .val (.int p2), .val (.int v15_1), .val (.int (3 : Int32)), .val (.int u29_5), .val (.int u40_6), .val (.int u51_7), .val (.ref b92), .val (.int v93_94), .val (.int u103_101), .val (.int v134_102), .unset, .unset] []))) (fun t k => XS.icmpYes X100.here hx rfl (pc0 := 169) (pc' := 176) rfl (hb hby at_169) rfl (feq c169_112).2 (by decide) (by decide) k) ?_
            refine ODH.go (B := (T100.setTop (mkF m 177 #[.val (.int p0), .val (.int p1), .val (.int p2), .val (.int v15_1), .val (.int (3 : Int32)), .val (.int u29_5), .val (.int u40_6), .val (.int u51_7), .val (.ref b92), .val (.int v93_94), .val (.int u103_101), .val (.int v134_102), .unset, .unset] [(.int (0 : Int32))]))) (fun t k => XS.iconst X100.here hx rfl (hb hby at_176) k) ?_
            rw [if_neg c145_110, if_neg c157_111, if_neg c169_112] at hv177_108
            rw [hv177_108] at J177_109
            exact J177_109
    refine ODH.go (B := (T100.setTop (mkF m 179 #[.val (.int p0), .val (.int p1), .val (.int p2), .val (.int v15_1), .val (.int (3 : Int32)), .val (.int u29_5), .val (.int u40_6), .val (.int u51_7), .val (.ref b92), .val (.int v93_94), .val (.int u103_101), .val (.int v134_102), .val (.int v177_108), .unset] []))) (fun t k => XS.istore X100.here hx rfl (hb hby at_177) rfl (l' := #[.val (.int p0), .val (.int p1), .val (.int p2), .val (.int v15_1), .val (.int (3 : Int32)), .val (.int u29_5), .val (.int u40_6), .val (.int u51_7), .val (.ref b92), .val (.int v93_94), .val (.int u103_101), .val (.int v134_102), .val (.int v177_108), .unset]) rfl k) ?_
    refine ODH.go (B := (T100.setTop (mkF m 181 #[.val (.int p0), .val (.int p1), .val (.int p2), .val (.int v15_1), .val (.int (3 : Int32)), .val (.int u29_5), .val (.int u40_6), .val (.int u51_7), .val (.ref b92), .val (.int v93_94), .val (.int u103_101), .val (.int v134_102), .val (.int v177_108), .unset] [(.int v93_94)]))) (fun t k => XS.iload X100.here hx rfl (hb hby at_179) rfl k) ?_
    obtain ⟨v204_113, hv204_113⟩ : ∃ z : Int32, z = (if v93_94 = (0 : Int32) then (if u103_101 = (0 : Int32) then (if v134_102 = (0 : Int32) then (if v177_108 = (0 : Int32) then (0 : Int32) else (1 : Int32)) else (1 : Int32)) else (1 : Int32)) else (1 : Int32)) := ⟨_, rfl⟩
    refine ODH.cut (B := (T100.setTop (mkF m 204 #[.val (.int p0), .val (.int p1), .val (.int p2), .val (.int v15_1), .val (.int (3 : Int32)), .val (.int u29_5), .val (.int u40_6), .val (.int u51_7), .val (.ref b92), .val (.int v93_94), .val (.int u103_101), .val (.int v134_102), .val (.int v177_108), .unset] [(.int v204_113)]))) (fun J204_114 => ?_) ?_
    · skip
      by_cases c181_115 : v93_94 = (0 : Int32)
      · refine ODH.go (B := (T100.setTop (mkF m 184 #[.val (.int p0), .val (.int p1), .val (.int p2), .val (.int v15_1), .val (.int (3 : Int32)), .val (.int u29_5), .val (.int u40_6), .val (.int u51_7), .val (.ref b92), .val (.int v93_94), .val (.int u103_101), .val (.int v134_102), .val (.int v177_108), .unset] []))) (fun t k => XS.ifNo X100.here hx rfl (hb hby at_181) rfl (by rw [if0]; exact (teq c181_115).2) k) ?_
        refine ODH.go (B := (T100.setTop (mkF m 186 #[.val (.int p0), .val (.int p1), .val (.int p2), .val (.int v15_1), .val (.int (3 : Int32)), .val (.int u29_5), .val (.int u40_6), .val (.int u51_7), .val (.ref b92), .val (.int v93_94), .val (.int u103_101), .val (.int v134_102), .val (.int v177_108), .unset] [(.int u103_101)]))) (fun t k => XS.iload X100.here hx rfl (hb hby at_184) rfl k) ?_
        by_cases c186_116 : u103_101 = (0 : Int32)
        · refine ODH.go (B := (T100.setTop (mkF m 189 #[.val (.int p0), .val (.int p1), .val (.int p2), .val (.int v15_1), .val (.int (3 : Int32)), .val (.int u29_5), .val (.int u40_6), .val (.int u51_7), .val (.ref b92), .val (.int v93_94), .val (.int u103_101), .val (.int v134_102), .val (.int v177_108), .unset] []))) (fun t k => XS.ifNo X100.here hx rfl (hb hby at_186) rfl (by rw [if0]; exact (teq c186_116).2) k) ?_
          refine ODH.go (B := (T100.setTop (mkF m 191 #[.val (.int p0), .val (.int p1), .val (.int p2), .val (.int v15_1), .val (.int (3 : Int32)), .val (.int u29_5), .val (.int u40_6), .val (.int u51_7), .val (.ref b92), .val (.int v93_94), .val (.int u103_101), .val (.int v134_102), .val (.int v177_108), .unset] [(.int v134_102)]))) (fun t k => XS.iload X100.here hx rfl (hb hby at_189) rfl k) ?_
          by_cases c191_117 : v134_102 = (0 : Int32)
          · refine ODH.go (B := (T100.setTop (mkF m 194 #[.val (.int p0), .val (.int p1), .val (.int p2), .val (.int v15_1), .val (.int (3 : Int32)), .val (.int u29_5), .val (.int u40_6), .val (.int u51_7), .val (.ref b92), .val (.int v93_94), .val (.int u103_101), .val (.int v134_102), .val (.int v177_108), .unset] []))) (fun t k => XS.ifNo X100.here hx rfl (hb hby at_191) rfl (by rw [if0]; exact (teq c191_117).2) k) ?_
            refine ODH.go (B := (T100.setTop (mkF m 196 #[.val (.int p0), .val (.int p1), .val (.int p2), .val (.int v15_1), .val (.int (3 : Int32)), .val (.int u29_5), .val (.int u40_6), .val (.int u51_7), .val (.ref b92), .val (.int v93_94), .val (.int u103_101), .val (.int v134_102), .val (.int v177_108), .unset] [(.int v177_108)]))) (fun t k => XS.iload X100.here hx rfl (hb hby at_194) rfl k) ?_
            by_cases c196_118 : v177_108 = (0 : Int32)
            · refine ODH.go (B := (T100.setTop (mkF m 203 #[.val (.int p0), .val (.int p1), .val (.int p2), .val (.int v15_1), .val (.int (3 : Int32)), .val (.int u29_5), .val (.int u40_6), .val (.int u51_7), .val (.ref b92), .val (.int v93_94), .val (.int u103_101), .val (.int v134_102), .val (.int v177_108), .unset] []))) (fun t k => XS.ifYes X100.here hx rfl (pc0 := 196) (pc' := 203) rfl (hb hby at_196) rfl (by rw [if0]; exact (teq c196_118).1) (by decide) (by decide) k) ?_
              refine ODH.go (B := (T100.setTop (mkF m 204 #[.val (.int p0), .val (.int p1), .val (.int p2), .val (.int v15_1), .val (.int (3 : Int32)), .val (.int u29_5), .val (.int u40_6), .val (.int u51_7), .val (.ref b92), .val (.int v93_94), .val (.int u103_101), .val (.int v134_102), .val (.int v177_108), .unset] [(.int (0 : Int32))]))) (fun t k => XS.iconst X100.here hx rfl (hb hby at_203) k) ?_
              rw [if_pos c181_115, if_pos c186_116, if_pos c191_117, if_pos c196_118] at hv204_113
              rw [hv204_113] at J204_114
              exact J204_114
            · refine ODH.go (B := (T100.setTop (mkF m 199 #[.val (.int p0), .val (.int p1), .val (.int p2), .val (.int v15_1), .val (.int (3 : Int32)), .val (.int u29_5), .val (.int u40_6), .val (.int u51_7), .val (.ref b92), .val (.int v93_94), .val (.int u103_101), .val (.int v134_102), .val (.int v177_108), .unset] []))) (fun t k => XS.ifNo X100.here hx rfl (hb hby at_196) rfl (by rw [if0]; exact (feq c196_118).1) k) ?_
              refine ODH.go (B := (T100.setTop (mkF m 200 #[.val (.int p0), .val (.int p1), .val (.int p2), .val (.int v15_1), .val (.int (3 : Int32)), .val (.int u29_5), .val (.int u40_6), .val (.int u51_7), .val (.ref b92), .val (.int v93_94), .val (.int u103_101), .val (.int v134_102), .val (.int v177_108), .unset] [(.int (1 : Int32))]))) (fun t k => XS.iconst X100.here hx rfl (hb hby at_199) k) ?_
              refine ODH.go (B := (T100.setTop (mkF m 204 #[.val (.int p0), .val (.int p1), .val (.int p2), .val (.int v15_1), .val (.int (3 : Int32)), .val (.int u29_5), .val (.int u40_6), .val (.int u51_7), .val (.ref b92), .val (.int v93_94), .val (.int u103_101), .val (.int v134_102), .val (.int v177_108), .unset] [(.int (1 : Int32))]))) (fun t k => XS.goto X100.here hx rfl (pc0 := 200) (pc' := 204) rfl (hb hby at_200) (by decide) (by decide) k) ?_
              rw [if_pos c181_115, if_pos c186_116, if_pos c191_117, if_neg c196_118] at hv204_113
              rw [hv204_113] at J204_114
              exact J204_114
          · refine ODH.go (B := (T100.setTop (mkF m 199 #[.val (.int p0), .val (.int p1), .val (.int p2), .val (.int v15_1), .val (.int (3 : Int32)), .val (.int u29_5), .val (.int u40_6), .val (.int u51_7), .val (.ref b92), .val (.int v93_94), .val (.int u103_101), .val (.int v134_102), .val (.int v177_108), .unset] []))) (fun t k => XS.ifYes X100.here hx rfl (pc0 := 191) (pc' := 199) rfl (hb hby at_191) rfl (by rw [if0]; exact (feq c191_117).2) (by decide) (by decide) k) ?_
            refine ODH.go (B := (T100.setTop (mkF m 200 #[.val (.int p0), .val (.int p1), .val (.int p2), .val (.int v15_1), .val (.int (3 : Int32)), .val (.int u29_5), .val (.int u40_6), .val (.int u51_7), .val (.ref b92), .val (.int v93_94), .val (.int u103_101), .val (.int v134_102), .val (.int v177_108), .unset] [(.int (1 : Int32))]))) (fun t k => XS.iconst X100.here hx rfl (hb hby at_199) k) ?_
            refine ODH.go (B := (T100.setTop (mkF m 204 #[.val (.int p0), .val (.int p1), .val (.int p2), .val (.int v15_1), .val (.int (3 : Int32)), .val (.int u29_5), .val (.int u40_6), .val (.int u51_7), .val (.ref b92), .val (.int v93_94), .val (.int u103_101), .val (.int v134_102), .val (.int v177_108), .unset] [(.int (1 : Int32))]))) (fun t k => XS.goto X100.here hx rfl (pc0 := 200) (pc' := 204) rfl (hb hby at_200) (by decide) (by decide) k) ?_
            rw [if_pos c181_115, if_pos c186_116, if_neg c191_117] at hv204_113
            rw [hv204_113] at J204_114
            exact J204_114
        · refine ODH.go (B := (T100.setTop (mkF m 199 #[.val (.int p0), .val (.int p1), .val (.int p2), .val (.int v15_1), .val (.int (3 : Int32)), .val (.int u29_5), .val (.int u40_6), .val (.int u51_7), .val (.ref b92), .val (.int v93_94), .val (.int u103_101), .val (.int v134_102), .val (.int v177_108), .unset] []))) (fun t k => XS.ifYes X100.here hx rfl (pc0 := 186) (pc' := 199) rfl (hb hby at_186) rfl (by rw [if0]; exact (feq c186_116).2) (by decide) (by decide) k) ?_
          refine ODH.go (B := (T100.setTop (mkF m 200 #[.val (.int p0), .val (.int p1), .val (.int p2), .val (.int v15_1), .val (.int (3 : Int32)), .val (.int u29_5), .val (.int u40_6), .val (.int u51_7), .val (.ref b92), .val (.int v93_94), .val (.int u103_101), .val (.int v134_102), .val (.int v177_108), .unset] [(.int (1 : Int32))]))) (fun t k => XS.iconst X100.here hx rfl (hb hby at_199) k) ?_
          refine ODH.go (B := (T100.setTop (mkF m 204 #[.val (.int p0), .val (.int p1), .val (.int p2), .val (.int v15_1), .val (.int (3 : Int32)), .val (.int u29_5), .val (.int u40_6), .val (.int u51_7), .val (.ref b92), .val (.int v93_94), .val (.int u103_101), .val (.int v134_102), .val (.int v177_108), .unset] [(.int (1 : Int32))]))) (fun t k => XS.goto X100.here hx rfl (pc0 := 200) (pc' := 204) rfl (hb hby at_200) (by decide) (by decide) k) ?_
          rw [if_pos c181_115, if_neg c186_116] at hv204_113
          rw [hv204_113] at J204_114
          exact J204_114
      · refine ODH.go (B := (T100.setTop (mkF m 199 #[.val (.int p0), .val (.int p1), .val (.int p2), .val (.int v15_1), .val (.int (3 : Int32)), .val (.int u29_5), .val (.int u40_6), .val (.int u51_7), .val (.ref b92), .val (.int v93_94), .val (.int u103_101), .val (.int v134_102), .val (.int v177_108), .unset] []))) (fun t k => XS.ifYes X100.here hx rfl (pc0 := 181) (pc' := 199) rfl (hb hby at_181) rfl (by rw [if0]; exact (feq c181_115).2) (by decide) (by decide) k) ?_
        refine ODH.go (B := (T100.setTop (mkF m 200 #[.val (.int p0), .val (.int p1), .val (.int p2), .val (.int v15_1), .val (.int (3 : Int32)), .val (.int u29_5), .val (.int u40_6), .val (.int u51_7), .val (.ref b92), .val (.int v93_94), .val (.int u103_101), .val (.int v134_102), .val (.int v177_108), .unset] [(.int (1 : Int32))]))) (fun t k => XS.iconst X100.here hx rfl (hb hby at_199) k) ?_
        refine ODH.go (B := (T100.setTop (mkF m 204 #[.val (.int p0), .val (.int p1), .val (.int p2), .val (.int v15_1), .val (.int (3 : Int32)), .val (.int u29_5), .val (.int u40_6), .val (.int u51_7), .val (.ref b92), .val (.int v93_94), .val (.int u103_101), .val (.int v134_102), .val (.int v177_108), .unset] [(.int (1 : Int32))]))) (fun t k => XS.goto X100.here hx rfl (pc0 := 200) (pc' := 204) rfl (hb hby at_200) (by decide) (by decide) k) ?_
        rw [if_neg c181_115] at hv204_113
        rw [hv204_113] at J204_114
        exact J204_114
    refine ODH.go (B := (T100.setTop (mkF m 206 #[.val (.int p0), .val (.int p1), .val (.int p2), .val (.int v15_1), .val (.int (3 : Int32)), .val (.int u29_5), .val (.int u40_6), .val (.int u51_7), .val (.ref b92), .val (.int v93_94), .val (.int u103_101), .val (.int v134_102), .val (.int v177_108), .val (.int v204_113)] []))) (fun t k => XS.istore X100.here hx rfl (hb hby at_204) rfl (l' := #[.val (.int p0), .val (.int p1), .val (.int p2), .val (.int v15_1), .val (.int (3 : Int32)), .val (.int u29_5), .val (.int u40_6), .val (.int u51_7), .val (.ref b92), .val (.int v93_94), .val (.int u103_101), .val (.int v134_102), .val (.int v177_108), .val (.int v204_113)]) rfl k) ?_
    refine ODH.go (B := (T100.setTop (mkF m 207 #[.val (.int p0), .val (.int p1), .val (.int p2), .val (.int v15_1), .val (.int (3 : Int32)), .val (.int u29_5), .val (.int u40_6), .val (.int u51_7), .val (.ref b92), .val (.int v93_94), .val (.int u103_101), .val (.int v134_102), .val (.int v177_108), .val (.int v204_113)] [(.int v15_1)]))) (fun t k => XS.iloadN X100.here hx rfl (hb hby at_206) rfl k) ?_
    refine ODH.go (B := (T100.setTop (mkF m 209 #[.val (.int p0), .val (.int p1), .val (.int p2), .val (.int v15_1), .val (.int (3 : Int32)), .val (.int u29_5), .val (.int u40_6), .val (.int u51_7), .val (.ref b92), .val (.int v93_94), .val (.int u103_101), .val (.int v134_102), .val (.int v177_108), .val (.int v204_113)] [(.ref b92), (.int v15_1)]))) (fun t k => XS.aload X100.here hx rfl (hb hby at_207) rfl rfl k) ?_
    obtain ⟨_, _, ⟨T119, L119, k119, n119⟩, -, X119, hs119, gr119, ⟨Lc119, hQ119, l119, y119, z119, cr119⟩, st119⟩ := callSS X100 hx (y := (⟨"com/example/triad/triad/rest/PercentEncoding", "isKept", "(ILjava/lang/String;)Z"⟩ : MethodName)) hown (mvT hZ (Wd37 hw)) (mvT hZ (Wd38 hw)) (mvT hZ (Wd39 hw)) (mvT hZ (Wd40 hw)) (by decide) (backOfSH (W := 0) (rmK3 l Z a0 hw [] v15_1 b92 T92.heap E92 C92 t92 kb92 V92 (u29_5.toInt8.toInt32) (u40_6.toInt8.toInt32) (u51_7.toInt8.toInt32) A92 h0.size (X00.keep K92 all0) (Nat.le_trans (Nat.le_refl _) K92.1) zc O2 P5) hZ (Wd40 hw) (Wd39 hw) (by decide) (by decide) (EL_in hw) ch92.1) (g := (mkF m 209 #[.val (.int p0), .val (.int p1), .val (.int p2), .val (.int v15_1), .val (.int (3 : Int32)), .val (.int u29_5), .val (.int u40_6), .val (.int u51_7), .val (.ref b92), .val (.int v93_94), .val (.int u103_101), .val (.int v134_102), .val (.int v177_108), .val (.int v204_113)] [(.ref b92), (.int v15_1)])) rfl (by rw [hml]; rfl) (argsL := [(.int v15_1), (.ref b92)]) (rest := []) (lenOf pd11 rfl) rfl (by show 2 * 0 + _ ≤ _; exact Nat.le_of_eq rfl) (hb hby at_209) (fun _ _ => ⟨rfl, e100, (Nat.le_of_ble_eq_true rfl), (Nat.le_of_ble_eq_true rfl)⟩)
    dsimp only [Pt.U, Pt.locs, Pt.cells, Pt.slots] at X119 l119 y119 z119 st119 hQ119 hs119 gr119 cr119
    subst l119 y119 z119
    have X119 : Stand p l e _ (s.setVm T119.vm) m _ below meth c T119 _ _ _ := X119
    have hZ : Z.Warmed39 (s.setVm T119.vm).vm := State.Warmed39.trans (t := (s.setVm T92.vm)) hZ hs119.1
    have hown : (s.setVm T119.vm).vm.findClass "com/example/triad/triad/rest/PercentEncodingIsKeptPinLaw" = some m.cls := by rw [show (s.setVm T119.vm).vm = T119.vm from rfl, hs119.1.alike.findClass]; exact hown
    have hS119 : s.Since T119.vm T119.heap.size := hS92.trans hs119 (Nat.le_trans (by rw [e100]; exact hk92) gr119)
    have hk119 : T119.heap.size ≤ T119.heap.size := Nat.le_refl _
    have ch119 := ch92.trans cr119
    obtain ⟨rfl, Nq119, K119⟩ := hQ119
    have N119 := Fr.app N92 Nq119
    refine ODH.via (B := (T119.setTop (mkF m 212 #[.val (.int p0), .val (.int p1), .val (.int p2), .val (.int v15_1), .val (.int (3 : Int32)), .val (.int u29_5), .val (.int u40_6), .val (.int u51_7), .val (.ref b92), .val (.int v93_94), .val (.int u103_101), .val (.int v134_102), .val (.int v177_108), .val (.int v204_113)] [(.int (own_kept (own_al v15_1) (own_li4 (45 : Int32) (46 : Int32) (95 : Int32) (126 : Int32) v15_1) (own_li3 (u29_5.toInt8.toInt32) (u40_6.toInt8.toInt32) (u51_7.toInt8.toInt32) v15_1)))]))) st119 ?_
    refine ODH.go (B := (T119.setTop (mkF m 214 #[.val (.int p0), .val (.int p1), .val (.int p2), .val (.int v15_1), .val (.int (3 : Int32)), .val (.int u29_5), .val (.int u40_6), .val (.int u51_7), .val (.ref b92), .val (.int v93_94), .val (.int u103_101), .val (.int v134_102), .val (.int v177_108), .val (.int v204_113)] [(.int v204_113), (.int (own_kept (own_al v15_1) (own_li4 (45 : Int32) (46 : Int32) (95 : Int32) (126 : Int32) v15_1) (own_li3 (u29_5.toInt8.toInt32) (u40_6.toInt8.toInt32) (u51_7.toInt8.toInt32) v15_1)))]))) (fun t k => XS.iload X119.here hx rfl (hb hby at_212) rfl k) ?_
    obtain ⟨v222_120, hv222_120⟩ : ∃ z : Int32, z = (if (own_kept (own_al v15_1) (own_li4 (45 : Int32) (46 : Int32) (95 : Int32) (126 : Int32) v15_1) (own_li3 (u29_5.toInt8.toInt32) (u40_6.toInt8.toInt32) (u51_7.toInt8.toInt32) v15_1)) = v204_113 then (1 : Int32) else (0 : Int32)) := ⟨_, rfl⟩
    refine ODH.cut (B := (T119.setTop (mkF m 222 #[.val (.int p0), .val (.int p1), .val (.int p2), .val (.int v15_1), .val (.int (3 : Int32)), .val (.int u29_5), .val (.int u40_6), .val (.int u51_7), .val (.ref b92), .val (.int v93_94), .val (.int u103_101), .val (.int v134_102), .val (.int v177_108), .val (.int v204_113)] [(.int v222_120)]))) (fun J222_121 => ?_) ?_
    · skip
      by_cases c214_122 : (own_kept (own_al v15_1) (own_li4 (45 : Int32) (46 : Int32) (95 : Int32) (126 : Int32) v15_1) (own_li3 (u29_5.toInt8.toInt32) (u40_6.toInt8.toInt32) (u51_7.toInt8.toInt32) v15_1)) = v204_113
      · refine ODH.go (B := (T119.setTop (mkF m 217 #[.val (.int p0), .val (.int p1), .val (.int p2), .val (.int v15_1), .val (.int (3 : Int32)), .val (.int u29_5), .val (.int u40_6), .val (.int u51_7), .val (.ref b92), .val (.int v93_94), .val (.int u103_101), .val (.int v134_102), .val (.int v177_108), .val (.int v204_113)] []))) (fun t k => XS.icmpNo X119.here hx rfl (hb hby at_214) rfl (teq c214_122).2 k) ?_
        refine ODH.go (B := (T119.setTop (mkF m 218 #[.val (.int p0), .val (.int p1), .val (.int p2), .val (.int v15_1), .val (.int (3 : Int32)), .val (.int u29_5), .val (.int u40_6), .val (.int u51_7), .val (.ref b92), .val (.int v93_94), .val (.int u103_101), .val (.int v134_102), .val (.int v177_108), .val (.int v204_113)] [(.int (1 : Int32))]))) (fun t k => XS.iconst X119.here hx rfl (hb hby at_217) k) ?_
        refine ODH.go (B := (T119.setTop (mkF m 222 #[.val (.int p0), .val (.int p1), .val (.int p2), .val (.int v15_1), .val (.int (3 : Int32)), .val (.int u29_5), .val (.int u40_6), .val (.int u51_7), .val (.ref b92), .val (.int v93_94), .val (.int u103_101), .val (.int v134_102), .val (.int v177_108), .val (.int v204_113)] [(.int (1 : Int32))]))) (fun t k => XS.goto X119.here hx rfl (pc0 := 218) (pc' := 222) rfl (hb hby at_218) (by decide) (by decide) k) ?_
        rw [if_pos c214_122] at hv222_120
        rw [hv222_120] at J222_121
        exact J222_121
      · refine ODH.go (B := (T119.setTop (mkF m 221 #[.val (.int p0), .val (.int p1), .val (.int p2), .val (.int v15_1), .val (.int (3 : Int32)), .val (.int u29_5), .val (.int u40_6), .val (.int u51_7), .val (.ref b92), .val (.int v93_94), .val (.int u103_101), .val (.int v134_102), .val (.int v177_108), .val (.int v204_113)] []))) (fun t k => XS.icmpYes X119.here hx rfl (pc0 := 214) (pc' := 221) rfl (hb hby at_214) rfl (feq c214_122).2 (by decide) (by decide) k) ?_
        refine ODH.go (B := (T119.setTop (mkF m 222 #[.val (.int p0), .val (.int p1), .val (.int p2), .val (.int v15_1), .val (.int (3 : Int32)), .val (.int u29_5), .val (.int u40_6), .val (.int u51_7), .val (.ref b92), .val (.int v93_94), .val (.int u103_101), .val (.int v134_102), .val (.int v177_108), .val (.int v204_113)] [(.int (0 : Int32))]))) (fun t k => XS.iconst X119.here hx rfl (hb hby at_221) k) ?_
        rw [if_neg c214_122] at hv222_120
        rw [hv222_120] at J222_121
        exact J222_121
    have fin : v222_120 = 1 := own_fin3 r0 r1 r2 hv93_94 hv134_102 hv177_108 hv204_113 hv222_120 hu103_101
    rw [fin]
    exact ODH.ret X119 hx hlk hS119 hk119 (ch119.trans (CHv.at X119 hZ (EL_in hw) ch119.1)) (t := .boolean) Bd.returns rfl (Or.inl ⟨rfl, Or.inr (Or.inl rfl), _, rfl⟩) (hb hby at_222) (Nat.le_of_ble_eq_true rfl) (Nat.le_of_ble_eq_true rfl) ⟨rfl, N119⟩
set_option maxRecDepth 65536 in
set_option maxHeartbeats 40000000 in
theorem comes_1 {Post : Tables → Env → Array Value → State → Outcome → State → Prop} (hpost : ∀ tb e args s v u, (limb_1_1.after args s (.returned v) u = true ∧ limb_1_2.after args s (.returned v) u = true ∧ True) → ReturnedEndW s (.returned v) u (Jvm.fieldLocs frame_1_writes args s ++ Jvm.arrayLocs frame_1_arrays args s ++ Jvm.staticLocs frame_1_statics s) 24 2176 → Post tb e args s (.returned v) u) :
    ArmFor flags0 classFile x code maxLocals ret World_1 tables_1 room_1 Calls_1 rest_1 Pre_1 Post := by
  intro l hfl _ _ p e ha hc hk s m args below hf hA hF happ hP
  obtain ⟨hcalls, hrest, hpre⟩ := hP
  obtain ⟨-, -, -, hnamed, -, -, -, hat⟩ := (Spec.applies_iff hf).mp happ
  obtain ⟨hg, hn⟩ := and_e (Cond.before_iff.mp (show (Jvm.Cond.and given_1 narrow_1).before args s = true from hpre))
  obtain ⟨hg0, hr0⟩ := and_e hg
  obtain ⟨hg1, hr1⟩ := and_e hr0
  obtain ⟨hg2, hr2⟩ := and_e hr1
  obtain ⟨w0, w1, w2, rfl⟩ : ∃ w0 w1 w2 : Value, args = #[w0, w1, w2] := by
    have hs : args.size = 3 := by simpa [Cond.value, given_1] using hg0
    obtain ⟨L⟩ := args
    match L, hs with
    | [w0, w1, w2], _ => exact ⟨w0, w1, w2, rfl⟩
  have hw := fun d (hd : d ∈ tables_1) => atoms_spec (ws := Jvm.Cond.code x code maxLocals ret :: tables_1) hat d (List.mem_cons_of_mem _ hd)
  obtain ⟨i0, ei0⟩ := is_v hg1
  obtain rfl : w0 = (.int i0) := Option.some.inj ei0
  obtain ⟨i1, ei1⟩ := is_v hg2
  obtain rfl : w1 = (.int i1) := Option.some.inj ei1
  obtain ⟨i2, ei2⟩ := is_v hr2
  obtain rfl : w2 = (.int i2) := Option.some.inj ei2
  obtain ⟨hsets, hown0⟩ := atoms_of _ (rest_1_c_eq ▸ (show rest_1_c.before _ s = true from hrest))
  have n5 := not_v (Cond.before_iff.mp (hsets _ (List.mem_of_getElem? (i := 2) rfl)))
  obtain ⟨zc, e10⟩ := is_v (Cond.before_iff.mp (hsets _ (List.mem_of_getElem? (i := 1) rfl)))
  have S12 : Sta s s.heap "java/lang/String" "COMPACT_STRINGS" "Z" (.int zc) := Sta.start e10 (Or.inl (hsets _ (List.mem_of_getElem? (i := 0) rfl)))
  have c17 : ¬ (zc = (0 : Int32)) := gotF (Cond.eq_ints e10 (Term.int_eval (0))) n5
  have hCH : CHv s own_EL s.vm s.heap := CHv.start (EL_in hw) (fun p hp => hcalls.1 p hp) (hsets _ (List.mem_of_getElem? (i := 2) rfl)) (wS_in hw _ (by decide +kernel)) (wS_in hw _ (by decide +kernel))
  obtain ⟨n, o, h1, h2, h3, _, L, rfl, ⟨rfl, N⟩, -, hq⟩ := rm0 l s _ hw tables_1 i0 i1 i2 s.heap (Old.start s) zc S12 c17 p e ha hc hk s m _ below hf ((Spec.applies_iff_loose hf).mp happ).1 ⟨rfl, State.Warmed39.refl s, rfl, hCH⟩ trivial
  refine ⟨n, _, h1, h2, h3, hpost _ _ _ _ _ _ ⟨Cond.after_iff.mpr rfl, Cond.after_iff.mpr (eq_i res_at (Term.int_eval (1)) rfl), trivial⟩ ⟨hq.1, hq.2.1, hq.2.2.1, (hq.2.2.2.sift fun y hy => Or.inr (N y hy)).mono (by decide) (by decide)⟩⟩
theorem main_1_1 : Claimed_1_1 := comes_1 fun _ _ _ _ _ _ h hF => ⟨h.1, hF⟩
theorem main_1_2 : Claimed_1_2 := comes_1 fun _ _ _ _ _ _ h hF => ⟨h.2.1, hF⟩
end Jvm.Pilot.@@N@@
namespace Jvm.Pilot.@@N@@
open Jvm Jvm.ClassFile Sem Op Lib Jvm.Free Jvm.Stand Jvm.Pilot.@@N@@.Jvm.D
/-! MADE BY PROGRAM (witnessworld.py) out of the Statement's table words and the real class files: 21 classes; the members and pool entries that the words name. The judged class is class 1, her method 3. -/
namespace start1
open Jvm.ClassFile
def u (s : String) : CpInfo := .utf8 (stringToUtf16 s)
/-- a pool by its gaps: so many unusable entries, then the entry; so many at the end -/
def gap : Nat → List CpInfo → List CpInfo
  | 0, r => r
  | n + 1, r => .unusable :: gap n r
def poolList (es : List (Nat × CpInfo)) (last : Nat) : List CpInfo := es.foldr (fun e r => gap e.1 (e.2 :: r)) (gap last [])
def pool (es : List (Nat × CpInfo)) (last : Nat) : Array CpInfo := ⟨poolList es last⟩
def fileOf (pool : Array CpInfo) (this : Nat) (attrs : Array Attribute := #[]) (ms : Array MethodInfo := #[]) (fl : Nat := 33) (sup : Nat := 0) (ifs : Array Nat := #[]) (fds : Array FieldInfo := #[]) : ClassFile where
  minorVersion := 0
  majorVersion := 65
  constantPool := pool
  accessFlags := fl
  thisClass := this
  superClass := sup
  interfaces := ifs
  fields := fds
  methods := ms
  attributes := attrs
def plain (name : String) (sup : Option ClassId) : Class where
  name := name
  kind := .ordinary
  loader := none
  accessFlags := 33
  super := sup
  interfaces := #[]
  cf := none
  fields := #[]
  methods := #[]
  instanceTypes := #[]
  staticTypes := #[]
  resolved := #[]
  callSites := []
  init := .initialized
  statics := none
  mirror := none

def pool0 : Array CpInfo := pool [(5, u "<init>"), (0, u "()V"), (1, .class_ 10), (1, u "java/lang/Object")] 113

def k0c0 : Code := { maxStack := 0, maxLocals := 1, code := object_method_1_code, exceptionTable := #[], attributes := #[] }
def k0m0 : Method := { name := "<init>", desc := "()V", sig := { parameters := [], returnType := none }, accessFlags := 1, code := some k0c0 }
/-- java/lang/Object -/
def k0 : Class := { plain "java/lang/Object" none with
  accessFlags := 33
  interfaces := #[]
  cf := some (fileOf pool0 8 #[] #[{ accessFlags := 1, nameIndex := 5, descriptorIndex := 6, attributes := #[] }] 33 0 #[] #[])
  fields := #[]
  methods := #[k0m0]
  instanceTypes := #[]
  staticTypes := #[]
  resolved := Array.replicate 124 none
  statics := none }

def pool1 : Array CpInfo := pool [(2, .class_ 4), (1, u "java/lang/Object"), (0, u "<init>"), (0, u "()V"), (0, .class_ 8), (0, u "java/lang/String"), (0, .methodref 7 10), (0, .nameAndType 5 11), (0, u "([C)V"), (0, .methodref 13 14), (0, .class_ 15), (0, .nameAndType 16 17), (0, u "com/example/triad/triad/rest/PercentEncodingIsKeptPinLaw"), (0, u "keptOf"), (0, u "(ICCC)Ljava/lang/String;"), (0, .methodref 13 19), (0, .nameAndType 20 21), (0, u "between"), (0, u "(III)Z"), (0, .methodref 23 24), (0, .class_ 25), (0, .nameAndType 26 27), (0, u "com/example/triad/triad/rest/PercentEncoding"), (0, u "isKept"), (0, u "(ILjava/lang/String;)Z"), (3, u "law")] 2

def k1m0 : Method := { name := "<init>", desc := "()V", sig := { parameters := [], returnType := none }, accessFlags := 1, code := none }
def k1c1 : Code := { maxStack := 2, maxLocals := 3, code := method_2_code, exceptionTable := #[], attributes := #[] }
def k1m1 : Method := { name := "between", desc := "(III)Z", sig := { parameters := [.int, .int, .int], returnType := some .boolean }, accessFlags := 10, code := some k1c1 }
def k1c2 : Code := { maxStack := 6, maxLocals := 4, code := method_3_code, exceptionTable := #[], attributes := #[] }
def k1m2 : Method := { name := "keptOf", desc := "(ICCC)Ljava/lang/String;", sig := { parameters := [.int, .char, .char, .char], returnType := some (.object "java/lang/String") }, accessFlags := 10, code := some k1c2 }
def k1c3 : Code := { maxStack := 4, maxLocals := 14, code := code, exceptionTable := #[], attributes := #[] }
def k1m3 : Method := { name := "law", desc := "(III)Z", sig := { parameters := [.int, .int, .int], returnType := some .boolean }, accessFlags := 9, code := some k1c3 }
/-- com/example/triad/triad/rest/PercentEncodingIsKeptPinLaw -/
def k1 : Class := { plain "com/example/triad/triad/rest/PercentEncodingIsKeptPinLaw" (some 0) with
  accessFlags := 49
  interfaces := #[]
  cf := some (fileOf pool1 13 #[] #[{ accessFlags := 1, nameIndex := 5, descriptorIndex := 6, attributes := #[] }, { accessFlags := 10, nameIndex := 20, descriptorIndex := 21, attributes := #[] }, { accessFlags := 10, nameIndex := 16, descriptorIndex := 17, attributes := #[] }, { accessFlags := 9, nameIndex := 31, descriptorIndex := 21, attributes := #[] }] 49 2 #[] #[])
  fields := #[]
  methods := #[k1m0, k1m1, k1m2, k1m3]
  instanceTypes := #[]
  staticTypes := #[]
  resolved := Array.replicate 34 none
  statics := none }

def pool2 : Array CpInfo := pool [(1, .class_ 2), (0, u "java/io/Serializable"), (0, .class_ 4), (0, u "java/lang/Object")] 2

/-- java/io/Serializable -/
def k2 : Class := { plain "java/io/Serializable" (some 0) with
  accessFlags := 1537
  interfaces := #[]
  cf := some (fileOf pool2 1 #[] #[] 1537 3 #[] #[])
  fields := #[]
  methods := #[]
  instanceTypes := #[]
  staticTypes := #[]
  resolved := Array.replicate 7 none
  statics := none }

def pool3 : Array CpInfo := pool [(1, .class_ 2), (0, u "java/lang/Comparable"), (0, .class_ 4), (0, u "java/lang/Object")] 7

/-- java/lang/Comparable -/
def k3 : Class := { plain "java/lang/Comparable" (some 0) with
  accessFlags := 1537
  interfaces := #[]
  cf := some (fileOf pool3 1 #[] #[] 1537 3 #[] #[])
  fields := #[]
  methods := #[]
  instanceTypes := #[]
  staticTypes := #[]
  resolved := Array.replicate 12 none
  statics := none }

def pool4 : Array CpInfo := pool [(2, .class_ 4), (1, u "java/lang/CharSequence"), (42, .class_ 48), (0, u "java/lang/CharSequence$1CodePointIterator"), (10, .class_ 60), (0, u "java/lang/CharSequence$1CharIterator"), (5, .class_ 67), (0, u "java/lang/Object")] 63

/-- java/lang/CharSequence -/
def k4 : Class := { plain "java/lang/CharSequence" (some 0) with
  accessFlags := 1537
  interfaces := #[]
  cf := some (fileOf pool4 2 #[.nestMembers #[47, 59]] #[] 1537 66 #[] #[])
  fields := #[]
  methods := #[]
  instanceTypes := #[]
  staticTypes := #[]
  resolved := Array.replicate 131 none
  statics := none }

def pool5 : Array CpInfo := pool [(1, .class_ 2), (0, u "java/lang/constant/Constable"), (0, .class_ 4), (0, u "java/lang/Object")] 6

/-- java/lang/constant/Constable -/
def k5 : Class := { plain "java/lang/constant/Constable" (some 0) with
  accessFlags := 1537
  interfaces := #[]
  cf := some (fileOf pool5 1 #[] #[] 1537 3 #[] #[])
  fields := #[]
  methods := #[]
  instanceTypes := #[]
  staticTypes := #[]
  resolved := Array.replicate 11 none
  statics := none }

def pool6 : Array CpInfo := pool [(1, .class_ 2), (0, u "java/lang/constant/ConstantDesc"), (0, .class_ 4), (0, u "java/lang/Object")] 32

/-- java/lang/constant/ConstantDesc -/
def k6 : Class := { plain "java/lang/constant/ConstantDesc" (some 0) with
  accessFlags := 1537
  interfaces := #[]
  cf := some (fileOf pool6 1 #[] #[] 1537 3 #[] #[])
  fields := #[]
  methods := #[]
  instanceTypes := #[]
  staticTypes := #[]
  resolved := Array.replicate 37 none
  statics := none }

def pool7 : Array CpInfo := pool [(1, .methodref 2 3), (0, .class_ 4), (0, .nameAndType 5 6), (0, u "java/lang/Object"), (0, u "<init>"), (0, u "()V"), (0, .string 8), (0, u ""), (0, .fieldref 10 11), (0, .class_ 12), (0, .nameAndType 13 14), (0, u "java/lang/String"), (0, u "value"), (0, u "[B"), (0, .fieldref 10 16), (0, .nameAndType 17 18), (0, u "coder"), (0, u "B"), (2, u "hash"), (0, u "I"), (2, u "hashIsZero"), (0, u "Z"), (0, .methodref 10 28), (0, .nameAndType 5 29), (0, u "([CIILjava/lang/Void;)V"), (8, .fieldref 10 39), (0, .nameAndType 40 26), (0, u "COMPACT_STRINGS"), (1, .class_ 44), (1, u "java/lang/StringUTF16"), (0, u "compress"), (1, .methodref 42 48), (0, .nameAndType 49 50), (0, u "coderFromArrayLen"), (0, u "([BI)B"), (56, .class_ 109), (1, u "java/lang/StringLatin1"), (32, u "()Z"), (34, .methodref 42 178), (0, .nameAndType 45 179), (0, u "([CII)[B"), (154, u "()I"), (0, .methodref 10 336), (0, .nameAndType 17 337), (0, u "()B"), (154, .methodref 10 493), (0, .nameAndType 494 142), (0, u "isLatin1"), (10, .methodref 10 506), (0, .nameAndType 507 334), (0, u "length"), (67, .class_ 576), (0, u "java/lang/CharSequence"), (22, u "CASE_INSENSITIVE_ORDER"), (0, u "Ljava/util/Comparator;"), (32, .methodref 10 634), (0, .nameAndType 635 636), (0, u "indexOf"), (0, u "(II)I"), (0, .methodref 107 638), (0, .nameAndType 635 639), (0, u "([BIII)I"), (125, u "(I)I"), (244, u "([C)V"), (90, u "serialPersistentFields"), (0, u "[Ljava/io/ObjectStreamField;"), (0, .class_ 1104), (0, u "java/lang/String$CaseInsensitiveComparator"), (1, .class_ 1107), (0, u "java/io/Serializable"), (0, .class_ 1109), (0, u "java/lang/Comparable"), (0, .class_ 1111), (0, u "java/lang/constant/Constable"), (0, .class_ 1113), (0, u "java/lang/constant/ConstantDesc"), (2, u "serialVersionUID"), (0, u "J"), (3, u "REPL"), (0, u "C"), (2, u "LATIN1"), (1, u "UTF16")] 323

def k7m0 : Method := { name := "<init>", desc := "()V", sig := { parameters := [], returnType := none }, accessFlags := 1, code := none }
def k7c1 : Code := { maxStack := 5, maxLocals := 2, code := jdk_42_method_3_code, exceptionTable := #[], attributes := #[] }
def k7m1 : Method := { name := "<init>", desc := "([C)V", sig := { parameters := [(.array .char)], returnType := none }, accessFlags := 1, code := some k7c1 }
def k7c2 : Code := { maxStack := 2, maxLocals := 1, code := jdk_42_method_54_code, exceptionTable := #[], attributes := #[] }
def k7m2 : Method := { name := "length", desc := "()I", sig := { parameters := [], returnType := some .int }, accessFlags := 1, code := some k7c2 }
def k7c3 : Code := { maxStack := 3, maxLocals := 2, code := jdk_42_method_79_code, exceptionTable := #[], attributes := #[] }
def k7m3 : Method := { name := "indexOf", desc := "(I)I", sig := { parameters := [.int], returnType := some .int }, accessFlags := 1, code := some k7c3 }
def k7c4 : Code := { maxStack := 4, maxLocals := 3, code := jdk_42_method_80_code, exceptionTable := #[], attributes := #[] }
def k7m4 : Method := { name := "indexOf", desc := "(II)I", sig := { parameters := [.int, .int], returnType := some .int }, accessFlags := 1, code := some k7c4 }
def k7c5 : Code := { maxStack := 4, maxLocals := 6, code := jdk_42_method_149_code, exceptionTable := #[], attributes := #[] }
def k7m5 : Method := { name := "<init>", desc := "([CIILjava/lang/Void;)V", sig := { parameters := [(.array .char), .int, .int, (.object "java/lang/Void")], returnType := none }, accessFlags := 2, code := some k7c5 }
def k7c6 : Code := { maxStack := 1, maxLocals := 1, code := jdk_42_method_152_code, exceptionTable := #[], attributes := #[] }
def k7m6 : Method := { name := "coder", desc := "()B", sig := { parameters := [], returnType := some .byte }, accessFlags := 0, code := some k7c6 }
def k7c7 : Code := { maxStack := 1, maxLocals := 1, code := jdk_42_method_154_code, exceptionTable := #[], attributes := #[] }
def k7m7 : Method := { name := "isLatin1", desc := "()Z", sig := { parameters := [], returnType := some .boolean }, accessFlags := 0, code := some k7c7 }
/-- java/lang/String -/
def k7 : Class := { plain "java/lang/String" (some 0) with
  accessFlags := 49
  interfaces := #[2, 3, 4, 5, 6]
  cf := some (fileOf pool7 10 #[.nestMembers #[1103]] #[{ accessFlags := 1, nameIndex := 5, descriptorIndex := 6, attributes := #[] }, { accessFlags := 1, nameIndex := 5, descriptorIndex := 1010, attributes := #[] }, { accessFlags := 1, nameIndex := 507, descriptorIndex := 334, attributes := #[] }, { accessFlags := 1, nameIndex := 635, descriptorIndex := 765, attributes := #[] }, { accessFlags := 1, nameIndex := 635, descriptorIndex := 636, attributes := #[] }, { accessFlags := 2, nameIndex := 5, descriptorIndex := 29, attributes := #[] }, { accessFlags := 0, nameIndex := 17, descriptorIndex := 337, attributes := #[] }, { accessFlags := 0, nameIndex := 494, descriptorIndex := 142, attributes := #[] }] 49 2 #[1106, 1108, 575, 1110, 1112] #[{ accessFlags := 18, nameIndex := 13, descriptorIndex := 14, attributes := #[] }, { accessFlags := 18, nameIndex := 17, descriptorIndex := 18, attributes := #[] }, { accessFlags := 2, nameIndex := 21, descriptorIndex := 22, attributes := #[] }, { accessFlags := 2, nameIndex := 25, descriptorIndex := 26, attributes := #[] }, { accessFlags := 26, nameIndex := 1116, descriptorIndex := 1117, attributes := #[] }, { accessFlags := 24, nameIndex := 40, descriptorIndex := 26, attributes := #[] }, { accessFlags := 26, nameIndex := 1101, descriptorIndex := 1102, attributes := #[] }, { accessFlags := 26, nameIndex := 1121, descriptorIndex := 1122, attributes := #[] }, { accessFlags := 25, nameIndex := 599, descriptorIndex := 600, attributes := #[] }, { accessFlags := 24, nameIndex := 1125, descriptorIndex := 18, attributes := #[] }, { accessFlags := 24, nameIndex := 1127, descriptorIndex := 18, attributes := #[] }])
  fields := #[{ name := "value", type := (.array .byte), accessFlags := 18, slot := 0, constantValue := 0 }, { name := "coder", type := .byte, accessFlags := 18, slot := 1, constantValue := 0 }, { name := "hash", type := .int, accessFlags := 2, slot := 2, constantValue := 0 }, { name := "hashIsZero", type := .boolean, accessFlags := 2, slot := 3, constantValue := 0 }, { name := "serialVersionUID", type := .long, accessFlags := 26, slot := 0, constantValue := 0 }, { name := "COMPACT_STRINGS", type := .boolean, accessFlags := 24, slot := 1, constantValue := 0 }, { name := "serialPersistentFields", type := (.array (.object "java/io/ObjectStreamField")), accessFlags := 26, slot := 2, constantValue := 0 }, { name := "REPL", type := .char, accessFlags := 26, slot := 3, constantValue := 0 }, { name := "CASE_INSENSITIVE_ORDER", type := (.object "java/util/Comparator"), accessFlags := 25, slot := 4, constantValue := 0 }, { name := "LATIN1", type := .byte, accessFlags := 24, slot := 5, constantValue := 0 }, { name := "UTF16", type := .byte, accessFlags := 24, slot := 6, constantValue := 0 }]
  methods := #[k7m0, k7m1, k7m2, k7m3, k7m4, k7m5, k7m6, k7m7]
  instanceTypes := #[(.array .byte), .byte, .int, .boolean]
  staticTypes := #[.long, .boolean, (.array (.object "java/io/ObjectStreamField")), .char, (.object "java/util/Comparator"), .byte, .byte]
  resolved := Array.replicate 1451 none
  statics := some 0 }

def pool8 : Array CpInfo := pool [(6, .class_ 8), (1, u "java/lang/Object"), (0, u "<init>"), (0, u "()V"), (1, .class_ 14), (1, u "java/lang/StringUTF16"), (31, u "$assertionsDisabled"), (0, u "Z"), (13, u "HI_BYTE_SHIFT"), (0, u "I"), (2, u "LO_BYTE_SHIFT"), (49, .methodref 12 116), (0, .nameAndType 117 118), (0, u "compress"), (0, u "([CI[BII)I"), (3, u "([CII)[B"), (138, u "coderFromArrayLen"), (0, u "([BI)B"), (106, .class_ 371), (1, u "java/lang/StringUTF16$LinesSpliterator"), (58, u "MAX_LENGTH"), (196, .class_ 628), (0, u "java/lang/StringUTF16$CodePointsSpliterator"), (0, .class_ 630), (0, u "java/lang/StringUTF16$CharsSpliterator")] 4

def k8m0 : Method := { name := "<init>", desc := "()V", sig := { parameters := [], returnType := none }, accessFlags := 0, code := none }
def k8c1 : Code := { maxStack := 2, maxLocals := 2, code := jdk_52_method_15_code, exceptionTable := #[], attributes := #[] }
def k8m1 : Method := { name := "coderFromArrayLen", desc := "([BI)B", sig := { parameters := [(.array .byte), .int], returnType := some .byte }, accessFlags := 8, code := some k8c1 }
def k8c2 : Code := { maxStack := 5, maxLocals := 6, code := jdk_52_method_16_code, exceptionTable := #[], attributes := #[] }
def k8m2 : Method := { name := "compress", desc := "([CII)[B", sig := { parameters := [(.array .char), .int, .int], returnType := some (.array .byte) }, accessFlags := 9, code := some k8c2 }
def k8c3 : Code := { maxStack := 3, maxLocals := 7, code := jdk_52_method_21_code, exceptionTable := #[], attributes := #[] }
def k8m3 : Method := { name := "compress", desc := "([CI[BII)I", sig := { parameters := [(.array .char), .int, (.array .byte), .int, .int], returnType := some .int }, accessFlags := 9, code := some k8c3 }
/-- java/lang/StringUTF16 -/
def k8 : Class := { plain "java/lang/StringUTF16" (some 0) with
  accessFlags := 48
  interfaces := #[]
  cf := some (fileOf pool8 12 #[.nestMembers #[627, 629, 369]] #[{ accessFlags := 0, nameIndex := 9, descriptorIndex := 10, attributes := #[] }, { accessFlags := 8, nameIndex := 261, descriptorIndex := 262, attributes := #[] }, { accessFlags := 9, nameIndex := 117, descriptorIndex := 122, attributes := #[] }, { accessFlags := 9, nameIndex := 117, descriptorIndex := 118, attributes := #[] }] 48 6 #[] #[{ accessFlags := 26, nameIndex := 61, descriptorIndex := 62, attributes := #[] }, { accessFlags := 26, nameIndex := 65, descriptorIndex := 62, attributes := #[] }, { accessFlags := 24, nameIndex := 430, descriptorIndex := 62, attributes := #[] }, { accessFlags := 4120, nameIndex := 46, descriptorIndex := 47, attributes := #[] }])
  fields := #[{ name := "HI_BYTE_SHIFT", type := .int, accessFlags := 26, slot := 0, constantValue := 0 }, { name := "LO_BYTE_SHIFT", type := .int, accessFlags := 26, slot := 1, constantValue := 0 }, { name := "MAX_LENGTH", type := .int, accessFlags := 24, slot := 2, constantValue := 0 }, { name := "$assertionsDisabled", type := .boolean, accessFlags := 4120, slot := 3, constantValue := 0 }]
  methods := #[k8m0, k8m1, k8m2, k8m3]
  instanceTypes := #[]
  staticTypes := #[.int, .int, .int, .boolean]
  resolved := Array.replicate 635 none
  statics := none }

def pool9 : Array CpInfo := pool [(2, .class_ 4), (1, u "java/lang/Object"), (0, u "<init>"), (0, u "()V"), (0, .class_ 8), (0, u "com/example/triad/triad/rest/PercentEncoding"), (0, .string 10), (0, u "-._~"), (0, .methodref 12 13), (0, .class_ 14), (0, .nameAndType 15 16), (0, u "java/lang/String"), (0, u "indexOf"), (0, u "(I)I"), (14, u "isKept"), (0, u "(ILjava/lang/String;)Z"), (40, u "HEX"), (0, u "[C"), (6, u "UNRESERVED_MARKS"), (0, u "Ljava/lang/String;")] 11

def k9m0 : Method := { name := "<init>", desc := "()V", sig := { parameters := [], returnType := none }, accessFlags := 2, code := none }
def k9c1 : Code := { maxStack := 2, maxLocals := 3, code := prog_9_method_2_code, exceptionTable := #[], attributes := #[] }
def k9m1 : Method := { name := "isKept", desc := "(ILjava/lang/String;)Z", sig := { parameters := [.int, (.object "java/lang/String")], returnType := some .boolean }, accessFlags := 9, code := some k9c1 }
/-- com/example/triad/triad/rest/PercentEncoding -/
def k9 : Class := { plain "com/example/triad/triad/rest/PercentEncoding" (some 0) with
  accessFlags := 49
  interfaces := #[]
  cf := some (fileOf pool9 7 #[] #[{ accessFlags := 2, nameIndex := 5, descriptorIndex := 6, attributes := #[] }, { accessFlags := 9, nameIndex := 31, descriptorIndex := 32, attributes := #[] }] 49 2 #[] #[{ accessFlags := 26, nameIndex := 81, descriptorIndex := 82, attributes := #[] }, { accessFlags := 26, nameIndex := 73, descriptorIndex := 74, attributes := #[] }])
  fields := #[{ name := "UNRESERVED_MARKS", type := (.object "java/lang/String"), accessFlags := 26, slot := 0, constantValue := 0 }, { name := "HEX", type := (.array .char), accessFlags := 26, slot := 1, constantValue := 0 }]
  methods := #[k9m0, k9m1]
  instanceTypes := #[]
  staticTypes := #[(.object "java/lang/String"), (.array .char)]
  resolved := Array.replicate 94 none
  statics := none }

def pool10 : Array CpInfo := pool [(4, .class_ 6), (1, u "java/lang/Object"), (0, u "<init>"), (0, u "()V"), (5, .class_ 16), (1, u "java/lang/StringLatin1"), (21, .methodref 39 40), (0, .class_ 41), (0, .nameAndType 42 43), (0, u "java/lang/Math"), (0, u "min"), (0, u "(II)I"), (44, .methodref 14 89), (0, .nameAndType 90 91), (0, u "canEncode"), (0, u "(I)Z"), (0, .methodref 39 93), (0, .nameAndType 94 43), (0, u "max"), (0, .methodref 14 96), (0, .nameAndType 97 98), (0, u "indexOfChar"), (0, u "([BIII)I"), (2, u "indexOf"), (19, u "$assertionsDisabled"), (0, u "Z"), (98, .class_ 223), (1, u "java/lang/StringLatin1$LinesSpliterator"), (166, .class_ 391), (0, u "java/lang/StringLatin1$CharsSpliterator")] 3

def k10m0 : Method := { name := "<init>", desc := "()V", sig := { parameters := [], returnType := none }, accessFlags := 0, code := none }
def k10c1 : Code := { maxStack := 2, maxLocals := 1, code := jdk_43_method_4_code, exceptionTable := #[], attributes := #[] }
def k10m1 : Method := { name := "canEncode", desc := "(I)Z", sig := { parameters := [.int], returnType := some .boolean }, accessFlags := 9, code := some k10c1 }
def k10c2 : Code := { maxStack := 4, maxLocals := 4, code := jdk_43_method_22_code, exceptionTable := #[], attributes := #[] }
def k10m2 : Method := { name := "indexOf", desc := "([BIII)I", sig := { parameters := [(.array .byte), .int, .int, .int], returnType := some .int }, accessFlags := 9, code := some k10c2 }
def k10c3 : Code := { maxStack := 2, maxLocals := 6, code := jdk_43_method_23_code, exceptionTable := #[], attributes := #[] }
def k10m3 : Method := { name := "indexOfChar", desc := "([BIII)I", sig := { parameters := [(.array .byte), .int, .int, .int], returnType := some .int }, accessFlags := 10, code := some k10c3 }
/-- java/lang/StringLatin1 -/
def k10 : Class := { plain "java/lang/StringLatin1" (some 0) with
  accessFlags := 48
  interfaces := #[]
  cf := some (fileOf pool10 14 #[.nestMembers #[390, 221]] #[{ accessFlags := 0, nameIndex := 7, descriptorIndex := 8, attributes := #[] }, { accessFlags := 9, nameIndex := 90, descriptorIndex := 91, attributes := #[] }, { accessFlags := 9, nameIndex := 101, descriptorIndex := 98, attributes := #[] }, { accessFlags := 10, nameIndex := 97, descriptorIndex := 98, attributes := #[] }] 48 4 #[] #[{ accessFlags := 4120, nameIndex := 121, descriptorIndex := 122, attributes := #[] }])
  fields := #[{ name := "$assertionsDisabled", type := .boolean, accessFlags := 4120, slot := 0, constantValue := 0 }]
  methods := #[k10m0, k10m1, k10m2, k10m3]
  instanceTypes := #[]
  staticTypes := #[.boolean]
  resolved := Array.replicate 395 none
  statics := none }

def pool11 : Array CpInfo := pool [(1, .class_ 2), (0, u "java/lang/Math"), (1, .class_ 6), (1, u "java/lang/Object"), (0, u "<init>"), (0, u "()V"), (89, .class_ 100), (1, u "java/lang/Math$RandomNumberGeneratorHolder"), (71, u "negativeZeroFloatBits"), (0, u "J"), (2, u "negativeZeroDoubleBits"), (21, u "max"), (2, u "min"), (43, u "$assertionsDisabled"), (0, u "Z"), (88, u "(II)I"), (2, u "twoToTheDoubleScaleDown"), (0, u "D"), (4, u "twoToTheDoubleScaleUp"), (9, u "E"), (3, u "PI"), (2, u "TAU"), (2, u "DEGREES_TO_RADIANS"), (0, u "RADIANS_TO_DEGREES")] 94

def k11m0 : Method := { name := "<init>", desc := "()V", sig := { parameters := [], returnType := none }, accessFlags := 2, code := none }
def k11c1 : Code := { maxStack := 2, maxLocals := 2, code := jdk_29_method_65_code, exceptionTable := #[], attributes := #[] }
def k11m1 : Method := { name := "max", desc := "(II)I", sig := { parameters := [.int, .int], returnType := some .int }, accessFlags := 9, code := some k11c1 }
def k11c2 : Code := { maxStack := 2, maxLocals := 2, code := jdk_29_method_69_code, exceptionTable := #[], attributes := #[] }
def k11m2 : Method := { name := "min", desc := "(II)I", sig := { parameters := [.int, .int], returnType := some .int }, accessFlags := 9, code := some k11c2 }
/-- java/lang/Math -/
def k11 : Class := { plain "java/lang/Math" (some 0) with
  accessFlags := 49
  interfaces := #[]
  cf := some (fileOf pool11 1 #[.nestMembers #[98]] #[{ accessFlags := 2, nameIndex := 7, descriptorIndex := 8, attributes := #[] }, { accessFlags := 9, nameIndex := 198, descriptorIndex := 335, attributes := #[] }, { accessFlags := 9, nameIndex := 201, descriptorIndex := 335, attributes := #[] }] 49 4 #[] #[{ accessFlags := 25, nameIndex := 354, descriptorIndex := 339, attributes := #[] }, { accessFlags := 25, nameIndex := 358, descriptorIndex := 339, attributes := #[] }, { accessFlags := 25, nameIndex := 361, descriptorIndex := 339, attributes := #[] }, { accessFlags := 26, nameIndex := 364, descriptorIndex := 339, attributes := #[] }, { accessFlags := 26, nameIndex := 365, descriptorIndex := 339, attributes := #[] }, { accessFlags := 26, nameIndex := 172, descriptorIndex := 173, attributes := #[] }, { accessFlags := 26, nameIndex := 176, descriptorIndex := 173, attributes := #[] }, { accessFlags := 8, nameIndex := 344, descriptorIndex := 339, attributes := #[] }, { accessFlags := 8, nameIndex := 338, descriptorIndex := 339, attributes := #[] }, { accessFlags := 4120, nameIndex := 245, descriptorIndex := 246, attributes := #[] }])
  fields := #[{ name := "E", type := .double, accessFlags := 25, slot := 0, constantValue := 0 }, { name := "PI", type := .double, accessFlags := 25, slot := 1, constantValue := 0 }, { name := "TAU", type := .double, accessFlags := 25, slot := 2, constantValue := 0 }, { name := "DEGREES_TO_RADIANS", type := .double, accessFlags := 26, slot := 3, constantValue := 0 }, { name := "RADIANS_TO_DEGREES", type := .double, accessFlags := 26, slot := 4, constantValue := 0 }, { name := "negativeZeroFloatBits", type := .long, accessFlags := 26, slot := 5, constantValue := 0 }, { name := "negativeZeroDoubleBits", type := .long, accessFlags := 26, slot := 6, constantValue := 0 }, { name := "twoToTheDoubleScaleUp", type := .double, accessFlags := 8, slot := 7, constantValue := 0 }, { name := "twoToTheDoubleScaleDown", type := .double, accessFlags := 8, slot := 8, constantValue := 0 }, { name := "$assertionsDisabled", type := .boolean, accessFlags := 4120, slot := 9, constantValue := 0 }]
  methods := #[k11m0, k11m1, k11m2]
  instanceTypes := #[]
  staticTypes := #[.double, .double, .double, .double, .double, .long, .long, .double, .double, .boolean]
  resolved := Array.replicate 460 none
  statics := none }

def pool12 : Array CpInfo := pool [(2, .class_ 4), (1, u "java/lang/Object"), (0, u "<init>"), (0, u "()V"), (17, .class_ 26), (1, u "jdk/internal/util/Preconditions"), (28, .class_ 56), (0, u "jdk/internal/util/Preconditions$4"), (57, .class_ 115), (0, u "jdk/internal/util/Preconditions$1"), (7, u "SIOOBE_FORMATTER"), (0, u "Ljava/util/function/BiFunction;"), (0, .class_ 126), (0, u "jdk/internal/util/Preconditions$2"), (3, u "AIOOBE_FORMATTER"), (0, .class_ 132), (0, u "jdk/internal/util/Preconditions$3"), (3, u "IOOBE_FORMATTER")] 57

def k12m0 : Method := { name := "<init>", desc := "()V", sig := { parameters := [], returnType := none }, accessFlags := 1, code := none }
/-- jdk/internal/util/Preconditions -/
def k12 : Class := { plain "jdk/internal/util/Preconditions" (some 0) with
  accessFlags := 33
  interfaces := #[]
  cf := some (fileOf pool12 24 #[.nestMembers #[55, 131, 125, 114]] #[{ accessFlags := 1, nameIndex := 5, descriptorIndex := 6, attributes := #[] }] 33 2 #[] #[{ accessFlags := 25, nameIndex := 123, descriptorIndex := 124, attributes := #[] }, { accessFlags := 25, nameIndex := 130, descriptorIndex := 124, attributes := #[] }, { accessFlags := 25, nameIndex := 136, descriptorIndex := 124, attributes := #[] }])
  fields := #[{ name := "SIOOBE_FORMATTER", type := (.object "java/util/function/BiFunction"), accessFlags := 25, slot := 0, constantValue := 0 }, { name := "AIOOBE_FORMATTER", type := (.object "java/util/function/BiFunction"), accessFlags := 25, slot := 1, constantValue := 0 }, { name := "IOOBE_FORMATTER", type := (.object "java/util/function/BiFunction"), accessFlags := 25, slot := 2, constantValue := 0 }]
  methods := #[k12m0]
  instanceTypes := #[]
  staticTypes := #[(.object "java/util/function/BiFunction"), (.object "java/util/function/BiFunction"), (.object "java/util/function/BiFunction")]
  resolved := Array.replicate 194 none
  statics := some 1 }

def pool13 : Array CpInfo := pool [(9, u "<init>"), (6, .class_ 18), (1, u "java/lang/Object"), (0, u "()V"), (1, .class_ 23), (1, u "jdk/internal/util/ArraysSupport"), (0, u "LOG2_ARRAY_LONG_INDEX_SCALE"), (0, u "I"), (2, u "U"), (0, u "Ljdk/internal/misc/Unsafe;"), (8, u "BIG_ENDIAN"), (0, u "Z"), (8, u "LOG2_BYTE_BIT_SIZE"), (4, u "LOG2_ARRAY_INT_INDEX_SCALE"), (54, u "JLA"), (0, u "Ljdk/internal/access/JavaLangAccess;"), (11, u "LOG2_ARRAY_BOOLEAN_INDEX_SCALE"), (9, u "LOG2_ARRAY_BYTE_INDEX_SCALE"), (5, u "LOG2_ARRAY_CHAR_INDEX_SCALE"), (5, u "LOG2_ARRAY_SHORT_INDEX_SCALE"), (18, u "LOG2_ARRAY_FLOAT_INDEX_SCALE"), (24, u "LOG2_ARRAY_DOUBLE_INDEX_SCALE"), (89, u "T_BOOLEAN"), (2, u "T_CHAR"), (1, u "T_FLOAT"), (1, u "T_DOUBLE"), (1, u "T_BYTE"), (1, u "T_SHORT"), (1, u "T_INT"), (1, u "T_LONG"), (1, u "SOFT_MAX_ARRAY_LENGTH")] 83

def k13m0 : Method := { name := "<init>", desc := "()V", sig := { parameters := [], returnType := none }, accessFlags := 2, code := none }
/-- jdk/internal/util/ArraysSupport -/
def k13 : Class := { plain "jdk/internal/util/ArraysSupport" (some 0) with
  accessFlags := 33
  interfaces := #[]
  cf := some (fileOf pool13 21 #[] #[{ accessFlags := 2, nameIndex := 9, descriptorIndex := 19, attributes := #[] }] 33 16 #[] #[{ accessFlags := 24, nameIndex := 28, descriptorIndex := 29, attributes := #[] }, { accessFlags := 26, nameIndex := 38, descriptorIndex := 39, attributes := #[] }, { accessFlags := 25, nameIndex := 121, descriptorIndex := 25, attributes := #[] }, { accessFlags := 25, nameIndex := 131, descriptorIndex := 25, attributes := #[] }, { accessFlags := 25, nameIndex := 137, descriptorIndex := 25, attributes := #[] }, { accessFlags := 25, nameIndex := 143, descriptorIndex := 25, attributes := #[] }, { accessFlags := 25, nameIndex := 53, descriptorIndex := 25, attributes := #[] }, { accessFlags := 25, nameIndex := 24, descriptorIndex := 25, attributes := #[] }, { accessFlags := 25, nameIndex := 162, descriptorIndex := 25, attributes := #[] }, { accessFlags := 25, nameIndex := 187, descriptorIndex := 25, attributes := #[] }, { accessFlags := 26, nameIndex := 48, descriptorIndex := 25, attributes := #[] }, { accessFlags := 25, nameIndex := 277, descriptorIndex := 25, attributes := #[] }, { accessFlags := 25, nameIndex := 280, descriptorIndex := 25, attributes := #[] }, { accessFlags := 25, nameIndex := 282, descriptorIndex := 25, attributes := #[] }, { accessFlags := 25, nameIndex := 284, descriptorIndex := 25, attributes := #[] }, { accessFlags := 25, nameIndex := 286, descriptorIndex := 25, attributes := #[] }, { accessFlags := 25, nameIndex := 288, descriptorIndex := 25, attributes := #[] }, { accessFlags := 25, nameIndex := 290, descriptorIndex := 25, attributes := #[] }, { accessFlags := 25, nameIndex := 292, descriptorIndex := 25, attributes := #[] }, { accessFlags := 26, nameIndex := 108, descriptorIndex := 109, attributes := #[] }, { accessFlags := 25, nameIndex := 294, descriptorIndex := 25, attributes := #[] }])
  fields := #[{ name := "U", type := (.object "jdk/internal/misc/Unsafe"), accessFlags := 24, slot := 0, constantValue := 0 }, { name := "BIG_ENDIAN", type := .boolean, accessFlags := 26, slot := 1, constantValue := 0 }, { name := "LOG2_ARRAY_BOOLEAN_INDEX_SCALE", type := .int, accessFlags := 25, slot := 2, constantValue := 0 }, { name := "LOG2_ARRAY_BYTE_INDEX_SCALE", type := .int, accessFlags := 25, slot := 3, constantValue := 0 }, { name := "LOG2_ARRAY_CHAR_INDEX_SCALE", type := .int, accessFlags := 25, slot := 4, constantValue := 0 }, { name := "LOG2_ARRAY_SHORT_INDEX_SCALE", type := .int, accessFlags := 25, slot := 5, constantValue := 0 }, { name := "LOG2_ARRAY_INT_INDEX_SCALE", type := .int, accessFlags := 25, slot := 6, constantValue := 0 }, { name := "LOG2_ARRAY_LONG_INDEX_SCALE", type := .int, accessFlags := 25, slot := 7, constantValue := 0 }, { name := "LOG2_ARRAY_FLOAT_INDEX_SCALE", type := .int, accessFlags := 25, slot := 8, constantValue := 0 }, { name := "LOG2_ARRAY_DOUBLE_INDEX_SCALE", type := .int, accessFlags := 25, slot := 9, constantValue := 0 }, { name := "LOG2_BYTE_BIT_SIZE", type := .int, accessFlags := 26, slot := 10, constantValue := 0 }, { name := "T_BOOLEAN", type := .int, accessFlags := 25, slot := 11, constantValue := 0 }, { name := "T_CHAR", type := .int, accessFlags := 25, slot := 12, constantValue := 0 }, { name := "T_FLOAT", type := .int, accessFlags := 25, slot := 13, constantValue := 0 }, { name := "T_DOUBLE", type := .int, accessFlags := 25, slot := 14, constantValue := 0 }, { name := "T_BYTE", type := .int, accessFlags := 25, slot := 15, constantValue := 0 }, { name := "T_SHORT", type := .int, accessFlags := 25, slot := 16, constantValue := 0 }, { name := "T_INT", type := .int, accessFlags := 25, slot := 17, constantValue := 0 }, { name := "T_LONG", type := .int, accessFlags := 25, slot := 18, constantValue := 0 }, { name := "JLA", type := (.object "jdk/internal/access/JavaLangAccess"), accessFlags := 26, slot := 19, constantValue := 0 }, { name := "SOFT_MAX_ARRAY_LENGTH", type := .int, accessFlags := 25, slot := 20, constantValue := 0 }]
  methods := #[k13m0]
  instanceTypes := #[]
  staticTypes := #[(.object "jdk/internal/misc/Unsafe"), .boolean, .int, .int, .int, .int, .int, .int, .int, .int, .int, .int, .int, .int, .int, .int, .int, .int, .int, (.object "jdk/internal/access/JavaLangAccess"), .int]
  resolved := Array.replicate 378 none
  statics := none }

def pool14 : Array CpInfo := pool [(1, u "java/lang/Cloneable"), (0, .class_ 1), (0, u "java/lang/Object"), (0, .class_ 3)] 3

/-- java/lang/Cloneable -/
def k14 : Class := { plain "java/lang/Cloneable" (some 0) with
  accessFlags := 1537
  interfaces := #[]
  cf := some (fileOf pool14 2 #[] #[] 1537 4 #[] #[])
  fields := #[]
  methods := #[]
  instanceTypes := #[]
  staticTypes := #[]
  resolved := Array.replicate 8 none
  statics := none }

/-- the primitive byte -/
def k15 : Class := { plain "byte" none with kind := .primitive 'B', accessFlags := 0x411 }
/-- [B -/
def k16 : Class := { plain "[B" (some 0) with kind := .array 15 .byte, interfaces := #[14, 2], accessFlags := 1041 }

/-- the primitive char -/
def k17 : Class := { plain "char" none with kind := .primitive 'C', accessFlags := 0x411 }
/-- [C -/
def k18 : Class := { plain "[C" (some 0) with kind := .array 17 .char, interfaces := #[14, 2], accessFlags := 1041 }

/-- the primitive int -/
def k19 : Class := { plain "int" none with kind := .primitive 'I', accessFlags := 0x411 }
/-- [I -/
def k20 : Class := { plain "[I" (some 0) with kind := .array 19 .int, interfaces := #[14, 2], accessFlags := 1041 }

def heap : Heap := #[{ cls := 7, slots := #[.long 0, .int 1, .null, .int 0, .null, .int 0, .int 0], vm := .statics 7 },
  { cls := 12, slots := #[.null, .null, .null], vm := .statics 12 }]
def classes : Array Class := #[k0, k1, k2, k3, k4, k5, k6, k7, k8, k9, k10, k11, k12, k13, k14, k15, k16, k17, k18, k19, k20]
def interned : List (Array UInt16 × Addr) := []
def slotsUsed : Nat := 10
def theMethod : MethodId := ⟨1, 3⟩
def args0 : Array Value := #[.int 65, .int 3, .int 66]
def aboutOver (below : List Frame) : State where
  vm := { classes := classes, interned := interned.toArray }
  heap := heap
  slotsUsed := slotsUsed
  threads := #[{ frames := .invoking theMethod args0 :: below }]
def below0 : List Frame := [.native { method := ⟨0, 0⟩, args := #[] }]
def about1 : State := aboutOver below0
def p0 : Program := .bare "" "" ""
def e0 : Env := launch0.env 0 0 0
theorem w_frames : about1.frames = Frame.invoking theMethod args0 :: below0 := rfl
set_option maxRecDepth 65536 in
theorem w_args : argsFit about1.vm theMethod args0 = true := by decide +kernel
set_option maxRecDepth 65536 in
theorem w_heap : heapFits about1 = true := by decide +kernel
set_option maxRecDepth 65536 in
theorem w_runnable : about1.curStatus? = some .runnable := by decide +kernel
set_option maxRecDepth 65536 in
theorem w_alone : about1.alone = true := by decide +kernel
set_option maxRecDepth 65536 in
theorem w_named : about1.methodNamed? x = some theMethod := by decide +kernel
set_option maxRecDepth 65536 in
theorem w_hears : about1.hears theMethod below0 = true := by decide +kernel
set_option maxRecDepth 65536 in
theorem w_ripe : about1.ripe theMethod args0 below0 = true := by decide +kernel
theorem w_running : about1.status = .running := rfl
set_option maxRecDepth 65536 in
theorem w_room : about1.hasRoom e0.platform room_1 = true :=
  launch0.hasRoom_least _ room_1 (by decide +kernel) (by decide +kernel) (by decide +kernel) (by decide +kernel) (by decide +kernel) (by decide +kernel)
theorem allAtoms_all (ts : List Jvm.Cond) (a : Array Jvm.Value) (st : Jvm.State) : (allAtoms ts).before a st = ts.all (fun c => c.before a st) := by
  induction ts with
  | nil => rfl
  | cons c t ih =>
    show (Jvm.Cond.and c (allAtoms t)).before a st = _
    rw [Jvm.Cond.before_and, ih, List.all_cons]
def words1 : List Jvm.Cond := Jvm.Cond.code x code maxLocals ret :: tables_1
/-- a 'code' word, met by the world's own term for the bytes: nothing is compared byte by byte -/
theorem code_word {y : MethodName} {bytes : ByteArray} {mx : Nat} {rt : Option FieldType} {a : Array Value} {s : State} {m : MethodId} {meth : Method} {c : Code} (h1 : s.methodNamed? y = some m) (h2 : s.vm.method? m = some meth) (h3 : meth.code = some c) (h4 : c.code = bytes)
    (h5 : (c.maxLocals == mx && c.exceptionTable.isEmpty && decide (c.maxStack ≤ mostOperands) && decide (meth.sig.returnType = rt) && !meth.locks && decide (parseMethodDescriptor y.desc = some meth.sig)) = true) : (Jvm.Cond.code y bytes mx rt).before a s = true := by
  simp only [Bool.and_eq_true, beq_iff_eq, Bool.not_eq_true', decide_eq_true_eq] at h5
  obtain ⟨⟨⟨⟨⟨g1, g2⟩, g3⟩, g4⟩, g5⟩, g6⟩ := h5
  simp [Cond.before, Cond.holds, Cond.value, h1, h2, h3, h4, g1, g2, g3, g4, g5, g6]
def isCode : Jvm.Cond → Bool
  | .code _ _ _ _ => true
  | _ => false
theorem all_split {L : List Jvm.Cond} {P : Jvm.Cond → Bool} (h1 : L.all (fun c => isCode c || P c) = true) (h2 : ∀ c ∈ L.filter isCode, P c = true) : L.all P = true := by
  refine List.all_eq_true.mpr fun c hc => ?_
  have h := List.all_eq_true.mp h1 c hc
  rcases Bool.eq_false_or_eq_true (isCode c) with hi | hi
  · exact h2 c (List.mem_filter.mpr ⟨hc, hi⟩)
  · simpa [hi] using h
set_option maxRecDepth 65536 in
theorem w_c0 : (Jvm.Cond.code x code maxLocals ret).before args0 about1 = true := code_word (m := ⟨1, 3⟩) (meth := k1m3) (c := k1c3) (by decide +kernel) rfl rfl rfl (by decide +kernel)
set_option maxRecDepth 65536 in
theorem w_c1 : (Jvm.Cond.code ({ cls := "com/example/triad/triad/rest/PercentEncodingIsKeptPinLaw", name := "keptOf", desc := "(ICCC)Ljava/lang/String;" } : Jvm.MethodName) method_3_code (4 : Nat) (Option.some (Jvm.ClassFile.FieldType.object "java/lang/String"))).before args0 about1 = true := code_word (m := ⟨1, 2⟩) (meth := k1m2) (c := k1c2) (by decide +kernel) rfl rfl rfl (by decide +kernel)
set_option maxRecDepth 65536 in
theorem w_c2 : (Jvm.Cond.code ({ cls := "java/lang/String", name := "<init>", desc := "([C)V" } : Jvm.MethodName) jdk_42_method_3_code (2 : Nat) (Option.none : Option Jvm.ClassFile.FieldType)).before args0 about1 = true := code_word (m := ⟨7, 1⟩) (meth := k7m1) (c := k7c1) (by decide +kernel) rfl rfl rfl (by decide +kernel)
set_option maxRecDepth 65536 in
theorem w_c3 : (Jvm.Cond.code ({ cls := "java/lang/String", name := "<init>", desc := "([CIILjava/lang/Void;)V" } : Jvm.MethodName) jdk_42_method_149_code (6 : Nat) (Option.none : Option Jvm.ClassFile.FieldType)).before args0 about1 = true := code_word (m := ⟨7, 5⟩) (meth := k7m5) (c := k7c5) (by decide +kernel) rfl rfl rfl (by decide +kernel)
set_option maxRecDepth 65536 in
theorem w_c4 : (Jvm.Cond.code ({ cls := "java/lang/Object", name := "<init>", desc := "()V" } : Jvm.MethodName) object_method_1_code (1 : Nat) (Option.none : Option Jvm.ClassFile.FieldType)).before args0 about1 = true := code_word (m := ⟨0, 0⟩) (meth := k0m0) (c := k0c0) (by decide +kernel) rfl rfl rfl (by decide +kernel)
set_option maxRecDepth 65536 in
theorem w_c5 : (Jvm.Cond.code ({ cls := "java/lang/StringUTF16", name := "compress", desc := "([CII)[B" } : Jvm.MethodName) jdk_52_method_16_code (6 : Nat) (Option.some (Jvm.ClassFile.FieldType.array Jvm.ClassFile.FieldType.byte))).before args0 about1 = true := code_word (m := ⟨8, 2⟩) (meth := k8m2) (c := k8c2) (by decide +kernel) rfl rfl rfl (by decide +kernel)
set_option maxRecDepth 65536 in
theorem w_c6 : (Jvm.Cond.code ({ cls := "java/lang/StringUTF16", name := "compress", desc := "([CI[BII)I" } : Jvm.MethodName) jdk_52_method_21_code (7 : Nat) (Option.some Jvm.ClassFile.FieldType.int)).before args0 about1 = true := code_word (m := ⟨8, 3⟩) (meth := k8m3) (c := k8c3) (by decide +kernel) rfl rfl rfl (by decide +kernel)
set_option maxRecDepth 65536 in
theorem w_c7 : (Jvm.Cond.code ({ cls := "java/lang/StringUTF16", name := "coderFromArrayLen", desc := "([BI)B" } : Jvm.MethodName) jdk_52_method_15_code (2 : Nat) (Option.some Jvm.ClassFile.FieldType.byte)).before args0 about1 = true := code_word (m := ⟨8, 1⟩) (meth := k8m1) (c := k8c1) (by decide +kernel) rfl rfl rfl (by decide +kernel)
set_option maxRecDepth 65536 in
theorem w_c8 : (Jvm.Cond.code ({ cls := "com/example/triad/triad/rest/PercentEncodingIsKeptPinLaw", name := "between", desc := "(III)Z" } : Jvm.MethodName) method_2_code (3 : Nat) (Option.some Jvm.ClassFile.FieldType.boolean)).before args0 about1 = true := code_word (m := ⟨1, 1⟩) (meth := k1m1) (c := k1c1) (by decide +kernel) rfl rfl rfl (by decide +kernel)
set_option maxRecDepth 65536 in
theorem w_c9 : (Jvm.Cond.code ({ cls := "com/example/triad/triad/rest/PercentEncoding", name := "isKept", desc := "(ILjava/lang/String;)Z" } : Jvm.MethodName) prog_9_method_2_code (3 : Nat) (Option.some Jvm.ClassFile.FieldType.boolean)).before args0 about1 = true := code_word (m := ⟨9, 1⟩) (meth := k9m1) (c := k9c1) (by decide +kernel) rfl rfl rfl (by decide +kernel)
set_option maxRecDepth 65536 in
theorem w_c10 : (Jvm.Cond.code ({ cls := "java/lang/String", name := "indexOf", desc := "(I)I" } : Jvm.MethodName) jdk_42_method_79_code (2 : Nat) (Option.some Jvm.ClassFile.FieldType.int)).before args0 about1 = true := code_word (m := ⟨7, 3⟩) (meth := k7m3) (c := k7c3) (by decide +kernel) rfl rfl rfl (by decide +kernel)
set_option maxRecDepth 65536 in
theorem w_c11 : (Jvm.Cond.code ({ cls := "java/lang/String", name := "indexOf", desc := "(II)I" } : Jvm.MethodName) jdk_42_method_80_code (3 : Nat) (Option.some Jvm.ClassFile.FieldType.int)).before args0 about1 = true := code_word (m := ⟨7, 4⟩) (meth := k7m4) (c := k7c4) (by decide +kernel) rfl rfl rfl (by decide +kernel)
set_option maxRecDepth 65536 in
theorem w_c12 : (Jvm.Cond.code ({ cls := "java/lang/String", name := "isLatin1", desc := "()Z" } : Jvm.MethodName) jdk_42_method_154_code (1 : Nat) (Option.some Jvm.ClassFile.FieldType.boolean)).before args0 about1 = true := code_word (m := ⟨7, 7⟩) (meth := k7m7) (c := k7c7) (by decide +kernel) rfl rfl rfl (by decide +kernel)
set_option maxRecDepth 65536 in
theorem w_c13 : (Jvm.Cond.code ({ cls := "java/lang/String", name := "length", desc := "()I" } : Jvm.MethodName) jdk_42_method_54_code (1 : Nat) (Option.some Jvm.ClassFile.FieldType.int)).before args0 about1 = true := code_word (m := ⟨7, 2⟩) (meth := k7m2) (c := k7c2) (by decide +kernel) rfl rfl rfl (by decide +kernel)
set_option maxRecDepth 65536 in
theorem w_c14 : (Jvm.Cond.code ({ cls := "java/lang/String", name := "coder", desc := "()B" } : Jvm.MethodName) jdk_42_method_152_code (1 : Nat) (Option.some Jvm.ClassFile.FieldType.byte)).before args0 about1 = true := code_word (m := ⟨7, 6⟩) (meth := k7m6) (c := k7c6) (by decide +kernel) rfl rfl rfl (by decide +kernel)
set_option maxRecDepth 65536 in
theorem w_c15 : (Jvm.Cond.code ({ cls := "java/lang/StringLatin1", name := "indexOf", desc := "([BIII)I" } : Jvm.MethodName) jdk_43_method_22_code (4 : Nat) (Option.some Jvm.ClassFile.FieldType.int)).before args0 about1 = true := code_word (m := ⟨10, 2⟩) (meth := k10m2) (c := k10c2) (by decide +kernel) rfl rfl rfl (by decide +kernel)
set_option maxRecDepth 65536 in
theorem w_c16 : (Jvm.Cond.code ({ cls := "java/lang/StringLatin1", name := "canEncode", desc := "(I)Z" } : Jvm.MethodName) jdk_43_method_4_code (1 : Nat) (Option.some Jvm.ClassFile.FieldType.boolean)).before args0 about1 = true := code_word (m := ⟨10, 1⟩) (meth := k10m1) (c := k10c1) (by decide +kernel) rfl rfl rfl (by decide +kernel)
set_option maxRecDepth 65536 in
theorem w_c17 : (Jvm.Cond.code ({ cls := "java/lang/Math", name := "max", desc := "(II)I" } : Jvm.MethodName) jdk_29_method_65_code (2 : Nat) (Option.some Jvm.ClassFile.FieldType.int)).before args0 about1 = true := code_word (m := ⟨11, 1⟩) (meth := k11m1) (c := k11c1) (by decide +kernel) rfl rfl rfl (by decide +kernel)
set_option maxRecDepth 65536 in
theorem w_c18 : (Jvm.Cond.code ({ cls := "java/lang/Math", name := "min", desc := "(II)I" } : Jvm.MethodName) jdk_29_method_69_code (2 : Nat) (Option.some Jvm.ClassFile.FieldType.int)).before args0 about1 = true := code_word (m := ⟨11, 2⟩) (meth := k11m2) (c := k11c2) (by decide +kernel) rfl rfl rfl (by decide +kernel)
set_option maxRecDepth 65536 in
theorem w_c19 : (Jvm.Cond.code ({ cls := "java/lang/StringLatin1", name := "indexOfChar", desc := "([BIII)I" } : Jvm.MethodName) jdk_43_method_23_code (6 : Nat) (Option.some Jvm.ClassFile.FieldType.int)).before args0 about1 = true := code_word (m := ⟨10, 3⟩) (meth := k10m3) (c := k10c3) (by decide +kernel) rfl rfl rfl (by decide +kernel)
def codes1 : List Jvm.Cond := [Jvm.Cond.code x code maxLocals ret, Jvm.Cond.code ({ cls := "com/example/triad/triad/rest/PercentEncodingIsKeptPinLaw", name := "keptOf", desc := "(ICCC)Ljava/lang/String;" } : Jvm.MethodName) method_3_code (4 : Nat) (Option.some (Jvm.ClassFile.FieldType.object "java/lang/String")), Jvm.Cond.code ({ cls := "java/lang/String", name := "<init>", desc := "([C)V" } : Jvm.MethodName) jdk_42_method_3_code (2 : Nat) (Option.none : Option Jvm.ClassFile.FieldType), Jvm.Cond.code ({ cls := "java/lang/String", name := "<init>", desc := "([CIILjava/lang/Void;)V" } : Jvm.MethodName) jdk_42_method_149_code (6 : Nat) (Option.none : Option Jvm.ClassFile.FieldType), Jvm.Cond.code ({ cls := "java/lang/Object", name := "<init>", desc := "()V" } : Jvm.MethodName) object_method_1_code (1 : Nat) (Option.none : Option Jvm.ClassFile.FieldType), Jvm.Cond.code ({ cls := "java/lang/StringUTF16", name := "compress", desc := "([CII)[B" } : Jvm.MethodName) jdk_52_method_16_code (6 : Nat) (Option.some (Jvm.ClassFile.FieldType.array Jvm.ClassFile.FieldType.byte)), Jvm.Cond.code ({ cls := "java/lang/StringUTF16", name := "compress", desc := "([CI[BII)I" } : Jvm.MethodName) jdk_52_method_21_code (7 : Nat) (Option.some Jvm.ClassFile.FieldType.int), Jvm.Cond.code ({ cls := "java/lang/StringUTF16", name := "coderFromArrayLen", desc := "([BI)B" } : Jvm.MethodName) jdk_52_method_15_code (2 : Nat) (Option.some Jvm.ClassFile.FieldType.byte), Jvm.Cond.code ({ cls := "com/example/triad/triad/rest/PercentEncodingIsKeptPinLaw", name := "between", desc := "(III)Z" } : Jvm.MethodName) method_2_code (3 : Nat) (Option.some Jvm.ClassFile.FieldType.boolean), Jvm.Cond.code ({ cls := "com/example/triad/triad/rest/PercentEncoding", name := "isKept", desc := "(ILjava/lang/String;)Z" } : Jvm.MethodName) prog_9_method_2_code (3 : Nat) (Option.some Jvm.ClassFile.FieldType.boolean), Jvm.Cond.code ({ cls := "java/lang/String", name := "indexOf", desc := "(I)I" } : Jvm.MethodName) jdk_42_method_79_code (2 : Nat) (Option.some Jvm.ClassFile.FieldType.int), Jvm.Cond.code ({ cls := "java/lang/String", name := "indexOf", desc := "(II)I" } : Jvm.MethodName) jdk_42_method_80_code (3 : Nat) (Option.some Jvm.ClassFile.FieldType.int), Jvm.Cond.code ({ cls := "java/lang/String", name := "isLatin1", desc := "()Z" } : Jvm.MethodName) jdk_42_method_154_code (1 : Nat) (Option.some Jvm.ClassFile.FieldType.boolean), Jvm.Cond.code ({ cls := "java/lang/String", name := "length", desc := "()I" } : Jvm.MethodName) jdk_42_method_54_code (1 : Nat) (Option.some Jvm.ClassFile.FieldType.int), Jvm.Cond.code ({ cls := "java/lang/String", name := "coder", desc := "()B" } : Jvm.MethodName) jdk_42_method_152_code (1 : Nat) (Option.some Jvm.ClassFile.FieldType.byte), Jvm.Cond.code ({ cls := "java/lang/StringLatin1", name := "indexOf", desc := "([BIII)I" } : Jvm.MethodName) jdk_43_method_22_code (4 : Nat) (Option.some Jvm.ClassFile.FieldType.int), Jvm.Cond.code ({ cls := "java/lang/StringLatin1", name := "canEncode", desc := "(I)Z" } : Jvm.MethodName) jdk_43_method_4_code (1 : Nat) (Option.some Jvm.ClassFile.FieldType.boolean), Jvm.Cond.code ({ cls := "java/lang/Math", name := "max", desc := "(II)I" } : Jvm.MethodName) jdk_29_method_65_code (2 : Nat) (Option.some Jvm.ClassFile.FieldType.int), Jvm.Cond.code ({ cls := "java/lang/Math", name := "min", desc := "(II)I" } : Jvm.MethodName) jdk_29_method_69_code (2 : Nat) (Option.some Jvm.ClassFile.FieldType.int), Jvm.Cond.code ({ cls := "java/lang/StringLatin1", name := "indexOfChar", desc := "([BIII)I" } : Jvm.MethodName) jdk_43_method_23_code (6 : Nat) (Option.some Jvm.ClassFile.FieldType.int)]
set_option maxRecDepth 65536 in
theorem codes_eq : words1.filter isCode = codes1 := rfl
theorem w_codes : ∀ c ∈ words1.filter isCode, c.before args0 about1 = true := by
  rw [codes_eq]
  intro c hc
  simp only [codes1, List.mem_cons, List.not_mem_nil, or_false] at hc
  rcases hc with rfl | rfl | rfl | rfl | rfl | rfl | rfl | rfl | rfl | rfl | rfl | rfl | rfl | rfl | rfl | rfl | rfl | rfl | rfl | rfl
  · exact w_c0
  · exact w_c1
  · exact w_c2
  · exact w_c3
  · exact w_c4
  · exact w_c5
  · exact w_c6
  · exact w_c7
  · exact w_c8
  · exact w_c9
  · exact w_c10
  · exact w_c11
  · exact w_c12
  · exact w_c13
  · exact w_c14
  · exact w_c15
  · exact w_c16
  · exact w_c17
  · exact w_c18
  · exact w_c19
set_option maxRecDepth 65536 in
theorem w_t1 : (words1.take 24).all (fun c => isCode c || c.before args0 about1) = true := by decide +kernel
set_option maxRecDepth 65536 in
theorem w_t2 : ((words1.drop 24).take 24).all (fun c => isCode c || c.before args0 about1) = true := by decide +kernel
set_option maxRecDepth 65536 in
theorem w_t3 : (((words1.drop 24).drop 24).take 24).all (fun c => isCode c || c.before args0 about1) = true := by decide +kernel
set_option maxRecDepth 65536 in
theorem w_t4 : (((words1.drop 24).drop 24).drop 24).all (fun c => isCode c || c.before args0 about1) = true := by decide +kernel
theorem w_tables : (allAtoms (Jvm.Cond.code x code maxLocals ret :: tables_1)).before args0 about1 = true := by
  rw [allAtoms_all]
  show words1.all (fun c => c.before args0 about1) = true
  refine all_split ?_ w_codes
  rw [← List.take_append_drop 24 words1, List.all_append, w_t1, ← List.take_append_drop 24 (words1.drop 24), List.all_append, w_t2, ← List.take_append_drop 24 ((words1.drop 24).drop 24), List.all_append, w_t3, w_t4]
  rfl
set_option maxRecDepth 65536 in
theorem w_rest : rest_1_c.before args0 about1 = true := by decide +kernel
set_option maxRecDepth 65536 in
theorem w_case : (Jvm.Cond.and given_1 narrow_1).before args0 about1 = true := by decide +kernel
set_option maxRecDepth 65536 in
theorem w_consts : constsHeld consts_1 about1 := Jvm.Lit.constsHeldB_iff.mp (by decide +kernel)
theorem w_applies : (headSpec (Jvm.Cond.code x code maxLocals ret :: tables_1) room_1).applies x e0.platform about1 = true :=
  (Spec.applies_iff w_frames).mpr ⟨w_running, w_runnable, w_alone, w_named, w_hears, w_ripe, w_room, w_tables⟩
theorem atStart : AtStart classFile x code maxLocals ret World_1 tables_1 room_1 Calls_1 rest_1 Pre_1 launch0 p0 e0 about1 theMethod args0 below0 :=
  ⟨lists_1, trivial, launch0.admits_env _ _ _, launch0.least_env, fairChoices_fair.cas, fairChoices_fair.clock, w_frames, w_args, w_heap, w_applies, ⟨w_consts, trivial⟩, w_rest, w_case⟩
end start1
theorem witness_1 : WitnessClaimed_1 := ⟨start1.p0, start1.e0, start1.about1, start1.theMethod, start1.args0, start1.below0, start1.atStart⟩
end Jvm.Pilot.@@N@@
