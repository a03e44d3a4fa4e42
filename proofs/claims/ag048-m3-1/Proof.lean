import JvmDerived
import JvmDerived.Pilot.@@N@@Statement
import JvmDerived.Pilot.@@N@@Code
set_option linter.unusedVariables false
set_option linter.unusedSimpArgs false
/- laws to paste: Road.backV, Road.chN, Road.codOf (cut by pick.py; bodies as the Statement names them) -/
namespace Jvm.Pilot.@@N@@
namespace StrChars
open Jvm Sem ClassFile Op Lib Jvm.Stand Jvm.Free.XT Jvm.Free.ALB Jvm.Free.JM Jvm.Free
open Jvm.Lib.Cold (StaticIs)
/-- a char array whose places are chars -/
def Ch (a : Addr) (A : Cell) (U : State) : Prop := Arr .char a A U ∧ Typed .char A
theorem Ch.mv {a : Addr} {A : Cell} {U U' : State} (h : Ch a A U) (hal : U.vm.Alike U'.vm) (hh : U'.heap = U.heap) : Ch a A U' := ⟨h.1.mv hal hh, h.2⟩
theorem Ch.keep {a : Addr} {A : Cell} {U U' : State} (h : Ch a A U) (hal : U.vm.Alike U'.vm) (hk : U'.heap[a]? = some A) : Ch a A U' := ⟨h.1.keep hal hk, h.2⟩
/-- what place i of a char[]'s cell holds -/
def cv (A : Cell) (i : Nat) : Int32 := match A.slots[i]? with | some (.int x) => x | _ => 0
theorem Ch.get {a : Addr} {A : Cell} {U : State} (h : Ch a A U) {i : Nat} (hi : i < A.slots.size) : A.slots[i]? = some (.int (cv A i)) := by
  have e := Array.getElem?_eq_getElem hi
  have f := h.2 i _ e
  unfold cv; rw [e]
  generalize A.slots[i] = v at f
  cases v <;> simp [fits] at f ⊢
/-- the byte that i2b leaves of a char -/
def lo8 (x : Int32) : Int32 := x.toInt8.toInt32
theorem fits_lo8 (y : Int32) : fits .byte (.int (lo8 y)) = true := by
  have h1 := y.toInt8.le_toInt
  have h2 := y.toInt8.toInt_lt
  simp only [lo8, fits, Bool.and_eq_true, decide_eq_true_eq, Int32.le_iff_toInt_le, Int8.toInt_toInt32, show (-128 : Int32).toInt = -128 from by decide, show (127 : Int32).toInt = 127 from by decide]
  omega
/-- A' is A but that each place j of lo .. hi - 1 holds f j -/
def Laid (A A' : Cell) (lo hi : Nat) (f : Nat → Value) : Prop := A'.cls = A.cls ∧ A'.vm = A.vm ∧ A'.slots.size = A.slots.size ∧ ∀ i, A'.slots[i]? = if lo ≤ i ∧ i < hi then some (f i) else A.slots[i]?
theorem Laid.zero (A : Cell) (lo : Nat) (f : Nat → Value) : Laid A A lo (lo + 0) f := ⟨rfl, rfl, rfl, fun i => by rw [if_neg (by omega)]⟩
theorem Laid.step {A Ak : Cell} {lo k : Nat} {f : Nat → Value} {v : Value} (h : Laid A Ak lo k f) (hlo : lo ≤ k) (hk : k < Ak.slots.size) (hv : v = f k) : Laid A (Ak.setSlot k v) lo (k + 1) f := by
  refine ⟨h.1, h.2.1, by simpa [Cell.setSlot] using h.2.2.1, fun i => ?_⟩
  by_cases e : k = i
  · subst e; rw [Cell.slots_setSlot_self v hk, if_pos (by omega), hv]
  · rw [Cell.slots_setSlot_ne v e, h.2.2.2 i]
    by_cases q : lo ≤ i ∧ i < k
    · rw [if_pos q, if_pos (by omega)]
    · rw [if_neg q, if_neg (by omega)]
def U16 : String := "java/lang/StringUTF16"
namespace Cmp5
def yN : MethodName := ⟨"java/lang/StringUTF16", "compress", "([CI[BII)I"⟩
abbrev yB : ByteArray := jdk_52_method_21_code
theorem d0 : decode yB 0 = .ok (.iconst 0, 1) := by decide +kernel
theorem d1 : decode yB 1 = .ok (.istore 5, 2) := by decide +kernel
theorem d3 : decode yB 3 = .ok (.iload 5, 2) := by decide +kernel
theorem d5 : decode yB 5 = .ok (.iload 4, 2) := by decide +kernel
theorem d7 : decode yB 7 = .ok (.if_icmp (.ge) 37, 3) := by decide +kernel
theorem d10 : decode yB 10 = .ok (.aload_n 0, 1) := by decide +kernel
theorem d11 : decode yB 11 = .ok (.iload_n 1, 1) := by decide +kernel
theorem d12 : decode yB 12 = .ok (.caload, 1) := by decide +kernel
theorem d13 : decode yB 13 = .ok (.istore 6, 2) := by decide +kernel
theorem d15 : decode yB 15 = .ok (.iload 6, 2) := by decide +kernel
theorem d17 : decode yB 17 = .ok (.sipush 255, 3) := by decide +kernel
theorem d20 : decode yB 20 = .ok (.if_icmp (.le) 6, 3) := by decide +kernel
theorem d26 : decode yB 26 = .ok (.aload_n 2, 1) := by decide +kernel
theorem d27 : decode yB 27 = .ok (.iload_n 3, 1) := by decide +kernel
theorem d28 : decode yB 28 = .ok (.iload 6, 2) := by decide +kernel
theorem d30 : decode yB 30 = .ok (.i2b, 1) := by decide +kernel
theorem d31 : decode yB 31 = .ok (.bastore, 1) := by decide +kernel
theorem d32 : decode yB 32 = .ok (.iinc 1 1, 3) := by decide +kernel
theorem d35 : decode yB 35 = .ok (.iinc 3 1, 3) := by decide +kernel
theorem d38 : decode yB 38 = .ok (.iinc 5 1, 3) := by decide +kernel
theorem d41 : decode yB 41 = .ok (.goto (-38), 3) := by decide +kernel
theorem d44 : decode yB 44 = .ok (.iload 4, 2) := by decide +kernel
theorem d46 : decode yB 46 = .ok (.ireturn, 1) := by decide +kernel
def site : List Cond := []
def tab : Cond := tabOf yN yB 7 (some .int) site
def P (b : Addr) (A : Cell) (d : Addr) (B : Cell) (o q len : Nat) (args : Array Value) (s : State) : Prop := args = #[.ref b, .int (Int32.ofNat o), .ref d, .int (Int32.ofNat q), .int (Int32.ofNat len)] ∧ Ch b A s ∧ Arr .byte d B s ∧ b ≠ d ∧ o + len ≤ A.slots.size ∧ q + len ≤ B.slots.size ∧ ∀ i, i < len → ¬ 255 < cv A (o + i)
def E (b : Addr) (A : Cell) (d : Addr) (B : Cell) (o q len : Nat) (r : Option Value) (s u : State) : Prop := r = some (.int (Int32.ofNat len)) ∧ ∃ B', Put d B' s u ∧ Laid B B' q (q + len) (fun j => Value.int (lo8 (cv A (o + (j - q)))))
/-- no char of the range above 255: len; the places written hold each char's low byte -/
theorem law (l : Launch) (b : Addr) (A : Cell) (d : Addr) (B : Cell) (o q len : Nat) : Law l yN 5 5 0 0 yB 7 (some .int) site (P b A d B o q len) (E b A d B o q len) (copyLocs d q len) 0 0 := by
  refine Law.of_walk (plainFor_of_name (by decide +kernel)) (by decide +kernel) (by decide +kernel) (by decide) (fun _ _ h => by rw [h.1]; rfl) (fun _ U U' hal hh h => ⟨h.1, h.2.1.mv hal hh, h.2.2.1.mv hal hh, h.2.2.2⟩) (fun r U U' V V' h1 hal h2 h => ⟨h.1, h.2.elim fun B' q => ⟨B', q.1.mv h1 h2, q.2⟩⟩) ?_
  intro p e s m args below meth c s₁ X0 hexec hbytes hml hret hlk hnm hown hh0 W hP
  obtain ⟨rfl, hA, hB, hne, l1, l2, hp⟩ := hP
  have c1 : Steps p.tables e below (s₁.setTop (entryFrame m #[.ref b, .int (Int32.ofNat o), .ref d, .int (Int32.ofNat q), .int (Int32.ofNat len)] 7)) (s₁.setTop (mkF m 0 #[.val (.ref b), .val (.int (Int32.ofNat o)), .val (.ref d), .val (.int (Int32.ofNat q)), .val (.int (Int32.ofNat len)), .unset, .unset] [])) := entry rfl
  have hA0 := hA.1.mv X0.warmed.alike hh0
  have hB0 := hB.mv X0.warmed.alike hh0
  have a31 := hA.1.2.2.2
  have c2 : Steps p.tables e below (s₁.setTop (entryFrame m #[.ref b, .int (Int32.ofNat o), .ref d, .int (Int32.ofNat q), .int (Int32.ofNat len)] 7)) (s₁.setTop (mkF m 3 #[.val (.ref b), .val (.int (Int32.ofNat o)), .val (.ref d), .val (.int (Int32.ofNat q)), .val (.int (Int32.ofNat len)), .val (.int 0), .unset] [])) := c1.trans (by
    refine iconstV X0.here hexec rfl 0 (hb hbytes d0) (by decide) ?_
    refine XS.istore X0.here hexec rfl (hb hbytes d1) rfl rfl ?_
    exact Steps.refl _)
  have loop : ∀ (r i : Nat), i + r = len → ∀ (z : Slot), (z = .unset ∨ ∃ w, z = .val w ∧ w.category = 1) → ∀ (Tl : State) (Bk : Cell), Stand p l e { frames := 0, locals := 0, cells := 0, slots := 0 } s m #[.ref b, .int (Int32.ofNat o), .ref d, .int (Int32.ofNat q), .int (Int32.ofNat len)] below meth c Tl ([] ++ copyLocs d q i) 0 0 → Put d Bk s₁ Tl → Laid B Bk q (q + i) (fun j => Value.int (lo8 (cv A (o + (j - q))))) →
      Steps p.tables e below (s₁.setTop (entryFrame m #[.ref b, .int (Int32.ofNat o), .ref d, .int (Int32.ofNat q), .int (Int32.ofNat len)] 7)) (Tl.setTop (mkF m 3 #[.val (.ref b), .val (.int (Int32.ofNat (o + i))), .val (.ref d), .val (.int (Int32.ofNat (q + i))), .val (.int (Int32.ofNat len)), .val (.int (Int32.ofNat i)), z] [])) → ∃ (T' : State) (B' : Cell) (z' : Slot), Stand p l e { frames := 0, locals := 0, cells := 0, slots := 0 } s m #[.ref b, .int (Int32.ofNat o), .ref d, .int (Int32.ofNat q), .int (Int32.ofNat len)] below meth c T' ([] ++ copyLocs d q len) 0 0 ∧ Put d B' s₁ T' ∧ Laid B B' q (q + len) (fun j => Value.int (lo8 (cv A (o + (j - q))))) ∧
      Steps p.tables e below (s₁.setTop (entryFrame m #[.ref b, .int (Int32.ofNat o), .ref d, .int (Int32.ofNat q), .int (Int32.ofNat len)] 7)) (T'.setTop (mkF m 3 #[.val (.ref b), .val (.int (Int32.ofNat (o + len))), .val (.ref d), .val (.int (Int32.ofNat (q + len))), .val (.int (Int32.ofNat len)), .val (.int (Int32.ofNat len)), z'] [])) := by
    intro r
    induction r with
    | zero =>
      intro i hi z hz Tl Bk Xl pl fl cl
      have hil : i = len := by omega
      rw [hil] at Xl fl cl
      exact ⟨Tl, Bk, z, Xl, pl, fl, cl⟩
    | succ r ih =>
      intro i hi z hz Tl Bk Xl pl fl cl
      have all := X0.warmed.alike.symm.trans Xl.warmed.alike
      have hAl := hA0.keep all (pl.other hne hA0.1)
      have hBk := hB0.like all pl.1 fl.1 fl.2.1 fl.2.2.1
      have hlt : q + i < Bk.slots.size := by rw [fl.2.2.1]; omega
      have c3 : Steps p.tables e below (s₁.setTop (entryFrame m #[.ref b, .int (Int32.ofNat o), .ref d, .int (Int32.ofNat q), .int (Int32.ofNat len)] 7)) (Tl.setTop (mkF m 12 #[.val (.ref b), .val (.int (Int32.ofNat (o + i))), .val (.ref d), .val (.int (Int32.ofNat (q + i))), .val (.int (Int32.ofNat len)), .val (.int (Int32.ofNat i)), z] [.int (Int32.ofNat (o + i)), .ref b])) := cl.trans (by
        refine XS.iload Xl.here hexec rfl (hb hbytes d3) rfl ?_
        refine XS.iload Xl.here hexec rfl (hb hbytes d5) rfl ?_
        refine XS.icmpNo Xl.here hexec rfl (hb hbytes d7) rfl (ii_ge_f (lt32 (by omega) (by omega))) ?_
        refine XS.aloadN Xl.here hexec rfl (hb hbytes d10) rfl rfl ?_
        refine XS.iloadN Xl.here hexec rfl (hb hbytes d11) rfl ?_
        exact Steps.refl _)
      have c4 : Steps p.tables e below (s₁.setTop (entryFrame m #[.ref b, .int (Int32.ofNat o), .ref d, .int (Int32.ofNat q), .int (Int32.ofNat len)] 7)) (Tl.setTop (mkF m 13 #[.val (.ref b), .val (.int (Int32.ofNat (o + i))), .val (.ref d), .val (.int (Int32.ofNat (q + i))), .val (.int (Int32.ofNat len)), .val (.int (Int32.ofNat i)), z] [.int (cv A (o + i))])) := c3.trans (by
        refine Xl.aget hexec hAl rfl (hA.get (i := o + i) (by omega)) rfl rfl (hb hbytes d12) ?_
        exact Steps.refl _)
      have c5 : Steps p.tables e below (s₁.setTop (entryFrame m #[.ref b, .int (Int32.ofNat o), .ref d, .int (Int32.ofNat q), .int (Int32.ofNat len)] 7)) (Tl.setTop (mkF m 15 #[.val (.ref b), .val (.int (Int32.ofNat (o + i))), .val (.ref d), .val (.int (Int32.ofNat (q + i))), .val (.int (Int32.ofNat len)), .val (.int (Int32.ofNat i)), .val (.int (cv A (o + i)))] [])) := c4.trans (by
        refine XS.istoreS Xl.here hexec rfl (hb hbytes d13) rfl rfl hz ?_
        exact Steps.refl _)
      have c6 : Steps p.tables e below (s₁.setTop (entryFrame m #[.ref b, .int (Int32.ofNat o), .ref d, .int (Int32.ofNat q), .int (Int32.ofNat len)] 7)) (Tl.setTop (mkF m 31 #[.val (.ref b), .val (.int (Int32.ofNat (o + i))), .val (.ref d), .val (.int (Int32.ofNat (q + i))), .val (.int (Int32.ofNat len)), .val (.int (Int32.ofNat i)), .val (.int (cv A (o + i)))] [.int (lo8 (cv A (o + i))), .int (Int32.ofNat (q + i)), .ref d])) := c5.trans (by
        refine XS.iload Xl.here hexec rfl (hb hbytes d15) rfl ?_
        refine sipushV Xl.here hexec rfl 255 (hb hbytes d17) (by decide) ?_
        refine XS.icmpYes Xl.here hexec rfl (pc0 := 20) rfl (hb hbytes d20) rfl (ii_le_t (hp i (by omega))) (by decide) rfl ?_
        refine XS.aloadN Xl.here hexec rfl (hb hbytes d26) rfl rfl ?_
        refine XS.iloadN Xl.here hexec rfl (hb hbytes d27) rfl ?_
        refine XS.iload Xl.here hexec rfl (hb hbytes d28) rfl ?_
        refine i2b Xl.here hexec rfl (hb hbytes d30) rfl ?_
        exact Steps.refl _)
      obtain ⟨T7, X7, p7, st7⟩ := Xl.aput hexec hBk rfl hlt rfl (fits_lo8 (cv A (o + i))) (g := (mkF m 31 #[.val (.ref b), .val (.int (Int32.ofNat (o + i))), .val (.ref d), .val (.int (Int32.ofNat (q + i))), .val (.int (Int32.ofNat len)), .val (.int (Int32.ofNat i)), .val (.int (cv A (o + i)))] [.int (lo8 (cv A (o + i))), .int (Int32.ofNat (q + i)), .ref d])) rfl (rest := []) rfl (hb hbytes d31)
      have c8 : Steps p.tables e below (s₁.setTop (entryFrame m #[.ref b, .int (Int32.ofNat o), .ref d, .int (Int32.ofNat q), .int (Int32.ofNat len)] 7)) (T7.setTop (mkF m 32 #[.val (.ref b), .val (.int (Int32.ofNat (o + i))), .val (.ref d), .val (.int (Int32.ofNat (q + i))), .val (.int (Int32.ofNat len)), .val (.int (Int32.ofNat i)), .val (.int (cv A (o + i)))] [])) := c6.trans (st7 _ (Steps.refl _))
      have c9 : Steps p.tables e below (s₁.setTop (entryFrame m #[.ref b, .int (Int32.ofNat o), .ref d, .int (Int32.ofNat q), .int (Int32.ofNat len)] 7)) (T7.setTop (mkF m 3 #[.val (.ref b), .val (.int (Int32.ofNat (o + i) + 1)), .val (.ref d), .val (.int (Int32.ofNat (q + i) + 1)), .val (.int (Int32.ofNat len)), .val (.int (Int32.ofNat i + 1)), .val (.int (cv A (o + i)))] [])) := c8.trans (by
        refine iincV X7.here hexec rfl 1 (hb hbytes d32) (by decide) rfl rfl ?_
        refine iincV X7.here hexec rfl 1 (hb hbytes d35) (by decide) rfl rfl ?_
        refine iincV X7.here hexec rfl 1 (hb hbytes d38) (by decide) rfl rfl ?_
        refine XS.goto X7.here hexec rfl (pc0 := 41) rfl (hb hbytes d41) (by decide) rfl ?_
        exact Steps.refl _)
      have c10 : Steps p.tables e below (s₁.setTop (entryFrame m #[.ref b, .int (Int32.ofNat o), .ref d, .int (Int32.ofNat q), .int (Int32.ofNat len)] 7)) (T7.setTop (mkF m 3 #[.val (.ref b), .val (.int (Int32.ofNat (o + (i + 1)))), .val (.ref d), .val (.int (Int32.ofNat (q + (i + 1)))), .val (.int (Int32.ofNat len)), .val (.int (Int32.ofNat (i + 1))), .val (.int (cv A (o + i)))] [])) := by
        have := c9
        rw [succ32, succ32, succ32] at this
        exact this
      exact ih (i + 1) (by omega) _ (Or.inr ⟨_, rfl, rfl⟩) T7 _ (by rw [copyLocs_step, ← List.append_assoc]; exact X7) (pl.trans p7) (fl.step (by omega) hlt (by simp)) c10
  obtain ⟨T9, B9, z9, X9, p9, f9, g9⟩ := loop len 0 (by omega) .unset (Or.inl rfl) s₁ B (by simpa [copyLocs] using X0) ⟨hB0.1, fun _ _ => rfl, rfl⟩ (Laid.zero _ _ _) c2
  have c11 : Steps p.tables e below (s₁.setTop (entryFrame m #[.ref b, .int (Int32.ofNat o), .ref d, .int (Int32.ofNat q), .int (Int32.ofNat len)] 7)) (T9.setTop (mkF m 46 #[.val (.ref b), .val (.int (Int32.ofNat (o + len))), .val (.ref d), .val (.int (Int32.ofNat (q + len))), .val (.int (Int32.ofNat len)), .val (.int (Int32.ofNat len)), z9] [.int (Int32.ofNat len)])) := g9.trans (by
    refine XS.iload X9.here hexec rfl (hb hbytes d3) rfl ?_
    refine XS.iload X9.here hexec rfl (hb hbytes d5) rfl ?_
    refine XS.icmpYes X9.here hexec rfl (pc0 := 7) rfl (hb hbytes d7) rfl (ii_ge_t (nlt32 (by omega) (Nat.le_refl _))) (by decide) rfl ?_
    refine XS.iload X9.here hexec rfl (hb hbytes d44) rfl ?_
    exact Steps.refl _)
  exact ⟨T9, some (.int (Int32.ofNat len)), _, _, _, X9, by simp, rfl, rfl, (fun h => by cases h), ⟨rfl, B9, p9.from hh0, f9⟩, fun fs hl => c11.trans (X9.ireturnOut hexec hret rfl (Or.inl rfl) (hb hbytes d46) hl)⟩
end Cmp5
namespace Cmp3
def yN : MethodName := ⟨"java/lang/StringUTF16", "compress", "([CII)[B"⟩
abbrev yB : ByteArray := jdk_52_method_16_code
theorem d0 : decode yB 0 = .ok (.iload_n 2, 1) := by decide +kernel
theorem d1 : decode yB 1 = .ok (.newarray .byte, 2) := by decide +kernel
theorem d3 : decode yB 3 = .ok (.astore_n 3, 1) := by decide +kernel
theorem d4 : decode yB 4 = .ok (.aload_n 0, 1) := by decide +kernel
theorem d5 : decode yB 5 = .ok (.iload_n 1, 1) := by decide +kernel
theorem d6 : decode yB 6 = .ok (.aload_n 3, 1) := by decide +kernel
theorem d7 : decode yB 7 = .ok (.iconst 0, 1) := by decide +kernel
theorem d8 : decode yB 8 = .ok (.iload_n 2, 1) := by decide +kernel
theorem d9 : decode yB 9 = .ok (.invokestatic 115, 3) := by decide +kernel
theorem d12 : decode yB 12 = .ok (.istore 4, 2) := by decide +kernel
theorem d14 : decode yB 14 = .ok (.iload 4, 2) := by decide +kernel
theorem d16 : decode yB 16 = .ok (.iload_n 2, 1) := by decide +kernel
theorem d17 : decode yB 17 = .ok (.if_icmp (.eq) 40, 3) := by decide +kernel
theorem d57 : decode yB 57 = .ok (.aload_n 3, 1) := by decide +kernel
theorem d58 : decode yB 58 = .ok (.areturn, 1) := by decide +kernel
def site : List Cond := [.arrayClass .byte, Cmp5.tab] ++ staticW U16 115 Cmp5.yN
def tab : Cond := tabOf yN yB 6 (some (.array .byte)) site
def P (b : Addr) (A : Cell) (o len : Nat) (args : Array Value) (s : State) : Prop := args = #[.ref b, .int (Int32.ofNat o), .int (Int32.ofNat len)] ∧ Ch b A s ∧ o + len ≤ A.slots.size ∧ len ≤ 536870912 ∧ ∀ i, i < len → ¬ 255 < cv A (o + i)
def E (b : Addr) (A : Cell) (o len : Nat) (r : Option Value) (s u : State) : Prop := NewArr .byte "[B" len (fun j => .int (lo8 (cv A (o + j)))) r s u ∧ u.heap.size = s.heap.size + 1
/-- no char of the range above 255: a new byte[] of their low bytes -/
theorem law (l : Launch) (b : Addr) (A : Cell) (o len : Nat) : Law l yN 3 3 1 18 yB 6 (some (.array .byte)) site (P b A o len) (E b A o len) [] 1 len := by
  refine Law.of_walk (plainFor_of_name (by decide +kernel)) (by decide +kernel) (by decide +kernel) (by decide) (fun _ _ h => by rw [h.1]; rfl) (fun _ U U' hal hh h => ⟨h.1, h.2.1.mv hal hh, h.2.2⟩) (fun r U U' V V' h1 hal h2 h => ⟨NewArr.mv r U U' V V' h1 hal h2 h.1, by rw [h1, h2]; exact h.2⟩) ?_
  intro p e s m args below meth c s₁ X0 hexec hbytes hml hret hlk hnm hown hh0 W hP
  obtain ⟨rfl, hA, l1, l2, hp⟩ := hP
  have a31 := hA.1.2.2.2
  have c1 : Steps p.tables e below (s₁.setTop (entryFrame m #[.ref b, .int (Int32.ofNat o), .int (Int32.ofNat len)] 6)) (s₁.setTop (mkF m 0 #[.val (.ref b), .val (.int (Int32.ofNat o)), .val (.int (Int32.ofNat len)), .unset, .unset, .unset] [])) := entry rfl
  have c2 : Steps p.tables e below (s₁.setTop (entryFrame m #[.ref b, .int (Int32.ofNat o), .int (Int32.ofNat len)] 6)) (s₁.setTop (mkF m 1 #[.val (.ref b), .val (.int (Int32.ofNat o)), .val (.int (Int32.ofNat len)), .unset, .unset, .unset] [.int (Int32.ofNat len)])) := c1.trans (by
    refine XS.iloadN X0.here hexec rfl (hb hbytes d0) rfl ?_
    exact Steps.refl _)
  obtain ⟨T3, B3, X3, ba3, bs3, bv3, bh3, bf3, st3⟩ := X0.anew hexec (atype := .byte) (wk W (.arrayClass .byte)) rfl (by show len * 1 ≤ _; omega) (by omega) (g := (mkF m 1 #[.val (.ref b), .val (.int (Int32.ofNat o)), .val (.int (Int32.ofNat len)), .unset, .unset, .unset] [.int (Int32.ofNat len)])) rfl (hb hbytes d1) (rest := []) rfl (Nat.le_refl _) (by show 0 + len ≤ len; omega)
  rw [hh0] at ba3 st3
  have kp3 : XT.Kept s T3 := (XT.Kept.of_eq hh0).push bh3
  have hA3 := hA.keep X3.warmed.alike (kp3 _ _ hA.1.1)
  have hne : b ≠ s.heap.size := hA.1.ne
  have c4 : Steps p.tables e below (s₁.setTop (entryFrame m #[.ref b, .int (Int32.ofNat o), .int (Int32.ofNat len)] 6)) (T3.setTop (mkF m 3 #[.val (.ref b), .val (.int (Int32.ofNat o)), .val (.int (Int32.ofNat len)), .unset, .unset, .unset] [.ref s.heap.size])) := c2.trans (st3 _ (Steps.refl _))
  have c5 : Steps p.tables e below (s₁.setTop (entryFrame m #[.ref b, .int (Int32.ofNat o), .int (Int32.ofNat len)] 6)) (T3.setTop (mkF m 9 #[.val (.ref b), .val (.int (Int32.ofNat o)), .val (.int (Int32.ofNat len)), .val (.ref s.heap.size), .unset, .unset] [.int (Int32.ofNat len), .int 0, .ref s.heap.size, .int (Int32.ofNat o), .ref b])) := c4.trans (by
    refine XS.astoreN X3.here hexec rfl (hb hbytes d3) rfl rfl rfl ?_
    refine XS.aloadN X3.here hexec rfl (hb hbytes d4) rfl rfl ?_
    refine XS.iloadN X3.here hexec rfl (hb hbytes d5) rfl ?_
    refine XS.aloadN X3.here hexec rfl (hb hbytes d6) rfl rfl ?_
    refine iconstV X3.here hexec rfl 0 (hb hbytes d7) (by decide) ?_
    refine XS.iloadN X3.here hexec rfl (hb hbytes d8) rfl ?_
    exact Steps.refl _)
  obtain ⟨v6, T6, X6, E6, g6⟩ := X3.callS hexec (Cmp5.law l b A s.heap.size B3 o 0 len) hown (wks W (staticW U16 115 Cmp5.yN)) (wk W Cmp5.tab) (W := 0) (Nat.le_of_ble_eq_true rfl) (Nat.le_of_ble_eq_true rfl) (Nat.le_refl _) (by show 0 + len + 0 ≤ len; omega) (g := (mkF m 9 #[.val (.ref b), .val (.int (Int32.ofNat o)), .val (.int (Int32.ofNat len)), .val (.ref s.heap.size), .unset, .unset] [.int (Int32.ofNat len), .int (Int32.ofNat 0), .ref s.heap.size, .int (Int32.ofNat o), .ref b])) rfl (by rw [hml]; rfl) c5 (argsL := [.ref b, .int (Int32.ofNat o), .ref s.heap.size, .int (Int32.ofNat 0), .int (Int32.ofNat len)]) (rest := []) rfl rfl (by show 2 * 0 + 0 ≤ _; decide) (hb hbytes d9) (⟨rfl, hA3, ba3, hne, l1, by rw [bs3]; simp, hp⟩)
  obtain ⟨rfl, B6, p6, f6⟩ := E6
  have c7 : Steps p.tables e below (s₁.setTop (entryFrame m #[.ref b, .int (Int32.ofNat o), .int (Int32.ofNat len)] 6)) (T6.setTop (mkF m 12 #[.val (.ref b), .val (.int (Int32.ofNat o)), .val (.int (Int32.ofNat len)), .val (.ref s.heap.size), .unset, .unset] [.int (Int32.ofNat len)])) := g6
  have c8 : Steps p.tables e below (s₁.setTop (entryFrame m #[.ref b, .int (Int32.ofNat o), .int (Int32.ofNat len)] 6)) (T6.setTop (mkF m 58 #[.val (.ref b), .val (.int (Int32.ofNat o)), .val (.int (Int32.ofNat len)), .val (.ref s.heap.size), .val (.int (Int32.ofNat len)), .unset] [.ref s.heap.size])) := c7.trans (by
    refine XS.istore X6.here hexec rfl (hb hbytes d12) rfl rfl ?_
    refine XS.iload X6.here hexec rfl (hb hbytes d14) rfl ?_
    refine XS.iloadN X6.here hexec rfl (hb hbytes d16) rfl ?_
    refine XS.icmpYes X6.here hexec rfl (pc0 := 17) rfl (hb hbytes d17) rfl (ii_eq_t rfl) (by decide) rfl ?_
    refine XS.aloadN X6.here hexec rfl (hb hbytes d57) rfl rfl ?_
    exact Steps.refl _)
  have X8 := X6.wide (L' := []) (cells' := 1) (slots' := len) (fun x hx hlt => by
    simp only [List.nil_append, copyLocs, List.mem_map, List.mem_range] at hx
    obtain ⟨i, -, rfl⟩ := hx
    exact absurd hlt (Nat.lt_irrefl _)) (Nat.le_refl _) (by omega)
  exact ⟨T6, some (.ref s.heap.size), _, _, _, X8, rfl, rfl, rfl, (fun h => by cases h), ⟨⟨rfl, B6, ba3.like (X3.warmed.alike.symm.trans X6.warmed.alike) p6.1 f6.1 f6.2.1 f6.2.2.1, f6.2.1.trans bv3, by rw [X6.warmed.alike.findClass, f6.1]; exact bf3, by rw [f6.2.2.1, bs3]; simp, fun j hj => by rw [f6.2.2.2 j, if_pos (by omega)]; rfl, kp3.put p6 (Nat.le_refl _)⟩, by rw [p6.2.2, bh3, hh0]; simp⟩, fun fs hl => c8.trans (X8.areturnOut hexec rfl hret rfl (hb hbytes d58) hl)⟩
end Cmp3
namespace CodL
def yN : MethodName := ⟨"java/lang/StringUTF16", "coderFromArrayLen", "([BI)B"⟩
abbrev yB : ByteArray := jdk_52_method_15_code
theorem d0 : decode yB 0 = .ok (.iload_n 1, 1) := by decide +kernel
theorem d1 : decode yB 1 = .ok (.aload_n 0, 1) := by decide +kernel
theorem d2 : decode yB 2 = .ok (.arraylength, 1) := by decide +kernel
theorem d3 : decode yB 3 = .ok (.isub, 1) := by decide +kernel
theorem d4 : decode yB 4 = .ok (.bipush 31, 2) := by decide +kernel
theorem d6 : decode yB 6 = .ok (.iushr, 1) := by decide +kernel
theorem d7 : decode yB 7 = .ok (.i2b, 1) := by decide +kernel
theorem d8 : decode yB 8 = .ok (.ireturn, 1) := by decide +kernel
def site : List Cond := []
def tab : Cond := tabOf yN yB 2 (some .byte) site
def P (d : Addr) (B : Cell) (args : Array Value) (s : State) : Prop := args = #[.ref d, .int (Int32.ofNat B.slots.size)] ∧ Arr .byte d B s
def E (r : Option Value) (s u : State) : Prop := XT.PureE (some (.int 0)) r s u
/-- an array as long as the number of chars: LATIN1 -/
theorem law (l : Launch) (d : Addr) (B : Cell) : Law l yN 2 2 0 0 yB 2 (some .byte) site (P d B) E [] 0 0 := by
  refine Law.of_walk (plainFor_of_name (by decide +kernel)) (by decide +kernel) (by decide +kernel) (by decide) (fun _ _ h => by rw [h.1]; rfl) (fun _ U U' hal hh h => ⟨h.1, h.2.mv hal hh⟩) (fun r U U' V V' h1 hal h2 h => XT.PureE.mv r U U' V V' h1 hal h2 h) ?_
  intro p e s m args below meth c s₁ X0 hexec hbytes hml hret hlk hnm hown hh0 W hP
  obtain ⟨rfl, hB⟩ := hP
  have hB0 := hB.mv X0.warmed.alike hh0
  have c1 : Steps p.tables e below (s₁.setTop (entryFrame m #[.ref d, .int (Int32.ofNat B.slots.size)] 2)) (s₁.setTop (mkF m 0 #[.val (.ref d), .val (.int (Int32.ofNat B.slots.size))] [])) := entry rfl
  have c2 : Steps p.tables e below (s₁.setTop (entryFrame m #[.ref d, .int (Int32.ofNat B.slots.size)] 2)) (s₁.setTop (mkF m 2 #[.val (.ref d), .val (.int (Int32.ofNat B.slots.size))] [.ref d, .int (Int32.ofNat B.slots.size)])) := c1.trans (by
    refine XS.iloadN X0.here hexec rfl (hb hbytes d0) rfl ?_
    refine XS.aloadN X0.here hexec rfl (hb hbytes d1) rfl rfl ?_
    exact Steps.refl _)
  have c3 : Steps p.tables e below (s₁.setTop (entryFrame m #[.ref d, .int (Int32.ofNat B.slots.size)] 2)) (s₁.setTop (mkF m 8 #[.val (.ref d), .val (.int (Int32.ofNat B.slots.size))] [.int (lo8 (ushr (Int32.ofNat B.slots.size - Int32.ofNat B.slots.size) 31))])) := c2.trans (by
    refine X0.alen hexec hB0 rfl rfl (hb hbytes d2) ?_
    refine XS.isub X0.here hexec rfl (hb hbytes d3) rfl ?_
    refine bipushV X0.here hexec rfl 31 (hb hbytes d4) (by decide) ?_
    refine iushr X0.here hexec rfl (hb hbytes d6) rfl ?_
    refine i2b X0.here hexec rfl (hb hbytes d7) rfl ?_
    exact Steps.refl _)
  have e0 : lo8 (ushr (Int32.ofNat B.slots.size - Int32.ofNat B.slots.size) 31) = 0 := by rw [Int32.sub_self]; decide
  rw [e0] at c3
  exact ⟨s₁, some (.int 0), _, _, _, X0, rfl, rfl, rfl, (fun h => by cases h), ⟨rfl, hh0⟩, fun fs hl => c3.trans (X0.ireturnOut hexec hret rfl (Or.inr (Or.inr (Or.inl rfl))) (hb hbytes d8) hl)⟩
end CodL
/-- the String at a is Latin-1 over a new byte[] (the heap's one new cell): the low bytes of the len chars of A from o on; every cell but a is kept -/
def Got (a : Addr) (D : Cell) (fV fC : Field) (A : Cell) (o len : Nat) (r : Option Value) (s u : State) : Prop := r = none ∧ ∃ D' V : Cell, Blank "java/lang/String" a D' u ∧ Same D D' [fV.slot, fC.slot] ∧ D'.slots[fV.slot]? = some (.ref s.heap.size) ∧ D'.slots[fC.slot]? = some (.int 0) ∧ Arr .byte s.heap.size V u ∧ V.vm = .none ∧ u.vm.findClass "[B" = some V.cls ∧ V.slots.size = len ∧ (∀ j, j < len → V.slots[j]? = some (.int (lo8 (cv A (o + j))))) ∧ (∀ (y : Addr) (c : Cell), y ≠ a → s.heap[y]? = some c → u.heap[y]? = some c) ∧ u.heap.size = s.heap.size + 1
theorem Got.mv {a : Addr} {D A : Cell} {fV fC : Field} {o len : Nat} : ∀ r (U U' V V' : State), U'.heap = U.heap → V.vm.Alike V'.vm → V'.heap = V.heap → Got a D fV fC A o len r U V → Got a D fV fC A o len r U' V' :=
  fun r U U' V V' h1 hal h2 ⟨e0, D', X, a1, a2, a3, a4, a5, a6, a7, a8, a9, a10, a11⟩ => ⟨e0, D', X, a1.mv hal h2, a2, by rw [h1]; exact a3, a4, by rw [h1]; exact a5.mv hal h2, a6, by rw [hal.findClass]; exact a7, a8, a9, by rw [h1, h2]; exact a10, by rw [h1, h2]; exact a11⟩
namespace New4
def yN : MethodName := ⟨"java/lang/String", "<init>", "([CIILjava/lang/Void;)V"⟩
abbrev yB : ByteArray := jdk_42_method_149_code
theorem d0 : decode yB 0 = .ok (.aload_n 0, 1) := by decide +kernel
theorem d1 : decode yB 1 = .ok (.invokespecial 1, 3) := by decide +kernel
theorem d4 : decode yB 4 = .ok (.iload_n 3, 1) := by decide +kernel
theorem d5 : decode yB 5 = .ok (.ifCond (.ne) 22, 3) := by decide +kernel
theorem d27 : decode yB 27 = .ok (.getstatic 38, 3) := by decide +kernel
theorem d30 : decode yB 30 = .ok (.ifCond (.eq) 28, 3) := by decide +kernel
theorem d33 : decode yB 33 = .ok (.aload_n 1, 1) := by decide +kernel
theorem d34 : decode yB 34 = .ok (.iload_n 2, 1) := by decide +kernel
theorem d35 : decode yB 35 = .ok (.iload_n 3, 1) := by decide +kernel
theorem d36 : decode yB 36 = .ok (.invokestatic 177, 3) := by decide +kernel
theorem d39 : decode yB 39 = .ok (.astore 5, 2) := by decide +kernel
theorem d41 : decode yB 41 = .ok (.aload_n 0, 1) := by decide +kernel
theorem d42 : decode yB 42 = .ok (.aload 5, 2) := by decide +kernel
theorem d44 : decode yB 44 = .ok (.iload_n 3, 1) := by decide +kernel
theorem d45 : decode yB 45 = .ok (.invokestatic 47, 3) := by decide +kernel
theorem d48 : decode yB 48 = .ok (.putfield 15, 3) := by decide +kernel
theorem d51 : decode yB 51 = .ok (.aload_n 0, 1) := by decide +kernel
theorem d52 : decode yB 52 = .ok (.aload 5, 2) := by decide +kernel
theorem d54 : decode yB 54 = .ok (.putfield 9, 3) := by decide +kernel
theorem d57 : decode yB 57 = .ok (.return_, 1) := by decide +kernel
def site : List Cond := [.fieldLink "java/lang/String" 38 "java/lang/String" "COMPACT_STRINGS" "Z", Cmp3.tab, CodL.tab, .laysFinal "java/lang/String" "java/lang/String" "value" "[B", .fieldLink "java/lang/String" 9 "java/lang/String" "value" "[B", .laysFinal "java/lang/String" "java/lang/String" "coder" "B", .fieldLink "java/lang/String" 15 "java/lang/String" "coder" "B"] ++ objW "java/lang/String" 1 ++ staticW "java/lang/String" 177 Cmp3.yN ++ staticW "java/lang/String" 47 CodL.yN
def tab : Cond := tabOf yN yB 6 none site
def P (a : Addr) (D : Cell) (fV fC : Field) (b : Addr) (A : Cell) (z : Int32) (o len : Nat) (args : Array Value) (s : State) : Prop := args = #[.ref a, .ref b, .int (Int32.ofNat o), .int (Int32.ofNat len), .null] ∧ Blank "java/lang/String" a D s ∧ Found "java/lang/String" "value" "[B" fV s ∧ Found "java/lang/String" "coder" "B" fC s ∧ Ch b A s ∧ StaticIs s "java/lang/String" "COMPACT_STRINGS" "Z" (.int z) ∧ ¬ z = 0 ∧ 0 < len ∧ o + len ≤ A.slots.size ∧ len ≤ 536870912 ∧ ∀ i, i < len → ¬ 255 < cv A (o + i)
def E (a : Addr) (D : Cell) (fV fC : Field) (A : Cell) (o len : Nat) (r : Option Value) (s u : State) : Prop := Got a D fV fC A o len r s u
/-- len > 0, no char of the range above 255: a Latin-1 String of their low bytes -/
theorem law (l : Launch) (a : Addr) (D : Cell) (fV fC : Field) (b : Addr) (A : Cell) (z : Int32) (o len : Nat) : Law l yN 5 4 2 35 yB 6 none site (P a D fV fC b A z o len) (E a D fV fC A o len) [⟨a, fC.slot⟩, ⟨a, fV.slot⟩] 1 len := by
  refine Law.of_walk (plainFor_of_name (by decide +kernel)) (by decide +kernel) (by decide +kernel) (by decide) (fun _ _ h => by rw [h.1]; rfl) (fun _ U U' hal hh h => ⟨h.1, h.2.1.mv hal hh, h.2.2.1.al hal, h.2.2.2.1.al hal, h.2.2.2.2.1.mv hal hh, h.2.2.2.2.2.1.there hal hh, h.2.2.2.2.2.2⟩) (fun r U U' V V' h1 hal h2 h => Got.mv r U U' V V' h1 hal h2 h) ?_
  intro p e s m args below meth c s₁ X0 hexec hbytes hml hret hlk hnm hown hh0 W hP
  obtain ⟨rfl, hB, f1, f2, hA, s1, hz, l0, l1, l2, hp⟩ := hP
  have a31 := hA.1.2.2.2
  have c1 : Steps p.tables e below (s₁.setTop (entryFrame m #[.ref a, .ref b, .int (Int32.ofNat o), .int (Int32.ofNat len), .null] 6)) (s₁.setTop (mkF m 0 #[.val (.ref a), .val (.ref b), .val (.int (Int32.ofNat o)), .val (.int (Int32.ofNat len)), .val .null, .unset] [])) := entry rfl
  have c2 : Steps p.tables e below (s₁.setTop (entryFrame m #[.ref a, .ref b, .int (Int32.ofNat o), .int (Int32.ofNat len), .null] 6)) (s₁.setTop (mkF m 1 #[.val (.ref a), .val (.ref b), .val (.int (Int32.ofNat o)), .val (.int (Int32.ofNat len)), .val .null, .unset] [.ref a])) := c1.trans (by
    refine XS.aloadN X0.here hexec rfl (hb hbytes d0) rfl rfl ?_
    exact Steps.refl _)
  obtain ⟨T3, X3, q3, st3⟩ := X0.oinit hexec hown (wks W (objW "java/lang/String" 1)) (g := (mkF m 1 #[.val (.ref a), .val (.ref b), .val (.int (Int32.ofNat o)), .val (.int (Int32.ofNat len)), .val .null, .unset] [.ref a])) rfl (by rw [hml]; rfl) (rest := []) rfl (hb hbytes d1) (W := 0) (by show 2 * 0 + 0 ≤ _; decide) (Nat.le_of_ble_eq_true rfl) (Nat.le_of_ble_eq_true rfl)
  have hh3 := q3.trans hh0
  have c4 : Steps p.tables e below (s₁.setTop (entryFrame m #[.ref a, .ref b, .int (Int32.ofNat o), .int (Int32.ofNat len), .null] 6)) (T3.setTop (mkF m 27 #[.val (.ref a), .val (.ref b), .val (.int (Int32.ofNat o)), .val (.int (Int32.ofNat len)), .val .null, .unset] [])) := (c2.trans (st3 _ (Steps.refl _))).trans (by
    refine XS.iloadN X3.here hexec rfl (hb hbytes d4) rfl ?_
    refine XS.ifYes X3.here hexec rfl (pc0 := 5) rfl (hb hbytes d5) rfl (i0_ne_t (nz32 (by omega) l0)) (by decide) rfl ?_
    exact Steps.refl _)
  obtain ⟨T5, X5, q5, st5⟩ := X3.sget hexec hown (wk W (.fieldLink "java/lang/String" 38 "java/lang/String" "COMPACT_STRINGS" "Z")) s1 (fun _ _ h => by rw [hh3]; exact h) (g := (mkF m 27 #[.val (.ref a), .val (.ref b), .val (.int (Int32.ofNat o)), .val (.int (Int32.ofNat len)), .val .null, .unset] [])) rfl (hb hbytes d27)
  have hh5 := q5.trans hh3
  have c6 : Steps p.tables e below (s₁.setTop (entryFrame m #[.ref a, .ref b, .int (Int32.ofNat o), .int (Int32.ofNat len), .null] 6)) (T5.setTop (mkF m 30 #[.val (.ref a), .val (.ref b), .val (.int (Int32.ofNat o)), .val (.int (Int32.ofNat len)), .val .null, .unset] [.int z])) := c4.trans (st5 _ (Steps.refl _))
  have c7 : Steps p.tables e below (s₁.setTop (entryFrame m #[.ref a, .ref b, .int (Int32.ofNat o), .int (Int32.ofNat len), .null] 6)) (T5.setTop (mkF m 36 #[.val (.ref a), .val (.ref b), .val (.int (Int32.ofNat o)), .val (.int (Int32.ofNat len)), .val .null, .unset] [.int (Int32.ofNat len), .int (Int32.ofNat o), .ref b])) := c6.trans (by
    refine XS.ifNo X5.here hexec rfl (hb hbytes d30) rfl (i0_eq_f hz) ?_
    refine XS.aloadN X5.here hexec rfl (hb hbytes d33) rfl rfl ?_
    refine XS.iloadN X5.here hexec rfl (hb hbytes d34) rfl ?_
    refine XS.iloadN X5.here hexec rfl (hb hbytes d35) rfl ?_
    exact Steps.refl _)
  obtain ⟨v8, T8, X8, E8, g8⟩ := X5.callS hexec (Cmp3.law l b A o len) hown (wks W (staticW "java/lang/String" 177 Cmp3.yN)) (wk W Cmp3.tab) (W := 0) (Nat.le_of_ble_eq_true rfl) (Nat.le_of_ble_eq_true rfl) (Nat.le_refl _) (by show 0 + len ≤ len; omega) (g := (mkF m 36 #[.val (.ref a), .val (.ref b), .val (.int (Int32.ofNat o)), .val (.int (Int32.ofNat len)), .val .null, .unset] [.int (Int32.ofNat len), .int (Int32.ofNat o), .ref b])) rfl (by rw [hml]; rfl) c7 (argsL := [.ref b, .int (Int32.ofNat o), .int (Int32.ofNat len)]) (rest := []) rfl rfl (by show 2 * 0 + 0 ≤ _; decide) (hb hbytes d36) (⟨rfl, hA.mv X5.warmed.alike hh5, l1, l2, hp⟩)
  obtain ⟨e8, z8⟩ := E8
  obtain ⟨rfl, N, n1, n2, n3, n4, n5, n6⟩ := NewArr.mv _ T5 s _ _ hh5.symm (Vm.Alike.refl _) rfl e8
  rw [hh5] at z8
  have hB1 := hB.keep X8.warmed.alike (n6 _ _ hB.1)
  have hne : s.heap.size ≠ a := (Nat.ne_of_lt (Array.getElem?_eq_some_iff.mp hB.1).1).symm
  have c9 : Steps p.tables e below (s₁.setTop (entryFrame m #[.ref a, .ref b, .int (Int32.ofNat o), .int (Int32.ofNat len), .null] 6)) (T8.setTop (mkF m 39 #[.val (.ref a), .val (.ref b), .val (.int (Int32.ofNat o)), .val (.int (Int32.ofNat len)), .val .null, .unset] [.ref s.heap.size])) := g8
  have c10 : Steps p.tables e below (s₁.setTop (entryFrame m #[.ref a, .ref b, .int (Int32.ofNat o), .int (Int32.ofNat len), .null] 6)) (T8.setTop (mkF m 45 #[.val (.ref a), .val (.ref b), .val (.int (Int32.ofNat o)), .val (.int (Int32.ofNat len)), .val .null, .val (.ref s.heap.size)] [.int (Int32.ofNat N.slots.size), .ref s.heap.size, .ref a])) := by
    have hc : Steps p.tables e below (s₁.setTop (entryFrame m #[.ref a, .ref b, .int (Int32.ofNat o), .int (Int32.ofNat len), .null] 6)) (T8.setTop (mkF m 45 #[.val (.ref a), .val (.ref b), .val (.int (Int32.ofNat o)), .val (.int (Int32.ofNat len)), .val .null, .val (.ref s.heap.size)] [.int (Int32.ofNat len), .ref s.heap.size, .ref a])) := c9.trans (by
      refine XS.astore X8.here hexec rfl (hb hbytes d39) rfl rfl rfl ?_
      refine XS.aloadN X8.here hexec rfl (hb hbytes d41) rfl rfl ?_
      refine XS.aload X8.here hexec rfl (hb hbytes d42) rfl rfl ?_
      refine XS.iloadN X8.here hexec rfl (hb hbytes d44) rfl ?_
      exact Steps.refl _)
    rw [n4]; exact hc
  obtain ⟨v11, T11, X11, E11, g11⟩ := X8.callS hexec (CodL.law l s.heap.size N) hown (wks W (staticW "java/lang/String" 47 CodL.yN)) (wk W CodL.tab) (W := 1) (Nat.le_of_ble_eq_true rfl) (Nat.le_of_ble_eq_true rfl) (Nat.le_refl _) (by show 0 + len + 0 ≤ len; omega) (g := (mkF m 45 #[.val (.ref a), .val (.ref b), .val (.int (Int32.ofNat o)), .val (.int (Int32.ofNat len)), .val .null, .val (.ref s.heap.size)] [.int (Int32.ofNat N.slots.size), .ref s.heap.size, .ref a])) rfl (by rw [hml]; rfl) c10 (argsL := [.ref s.heap.size, .int (Int32.ofNat N.slots.size)]) (rest := [.ref a]) rfl rfl (by show 2 * 0 + (1 + 0) ≤ _; decide) (hb hbytes d45) (⟨rfl, n1⟩)
  obtain ⟨rfl, q11⟩ := E11
  have hB11 := hB1.mv (X8.warmed.alike.symm.trans X11.warmed.alike) q11
  have c12 : Steps p.tables e below (s₁.setTop (entryFrame m #[.ref a, .ref b, .int (Int32.ofNat o), .int (Int32.ofNat len), .null] 6)) (T11.setTop (mkF m 48 #[.val (.ref a), .val (.ref b), .val (.int (Int32.ofNat o)), .val (.int (Int32.ofNat len)), .val .null, .val (.ref s.heap.size)] [.int 0, .ref a])) := g11
  obtain ⟨T13, X13, p13, bl13, sl13, st13⟩ := X11.finit hexec hown (wk W (.fieldLink "java/lang/String" 15 "java/lang/String" "coder" "B")) (Or.inr ⟨_, (wk W (.laysFinal "java/lang/String" "java/lang/String" "coder" "B"))⟩) (Or.inl ⟨rfl, hnm⟩) f2 (Or.inl rfl) hB11 (t := .byte) (by decide +kernel) rfl (g := (mkF m 48 #[.val (.ref a), .val (.ref b), .val (.int (Int32.ofNat o)), .val (.int (Int32.ofNat len)), .val .null, .val (.ref s.heap.size)] [.int 0, .ref a])) rfl (rest := []) rfl (hb hbytes d48)
  have c14 : Steps p.tables e below (s₁.setTop (entryFrame m #[.ref a, .ref b, .int (Int32.ofNat o), .int (Int32.ofNat len), .null] 6)) (T13.setTop (mkF m 54 #[.val (.ref a), .val (.ref b), .val (.int (Int32.ofNat o)), .val (.int (Int32.ofNat len)), .val .null, .val (.ref s.heap.size)] [.ref s.heap.size, .ref a])) := (c12.trans (st13 _ (Steps.refl _))).trans (by
    refine XS.aloadN X13.here hexec rfl (hb hbytes d51) rfl rfl ?_
    refine XS.aload X13.here hexec rfl (hb hbytes d52) rfl rfl ?_
    exact Steps.refl _)
  obtain ⟨T15, X15, p15, bl15, sl15, st15⟩ := X13.finit hexec hown (wk W (.fieldLink "java/lang/String" 9 "java/lang/String" "value" "[B")) (Or.inr ⟨_, (wk W (.laysFinal "java/lang/String" "java/lang/String" "value" "[B"))⟩) (Or.inl ⟨rfl, hnm⟩) f1 (Or.inl rfl) bl13 (t := (.array .byte)) (by decide +kernel) rfl (g := (mkF m 54 #[.val (.ref a), .val (.ref b), .val (.int (Int32.ofNat o)), .val (.int (Int32.ofNat len)), .val .null, .val (.ref s.heap.size)] [.ref s.heap.size, .ref a])) rfl (rest := []) rfl (hb hbytes d54)
  have c16 : Steps p.tables e below (s₁.setTop (entryFrame m #[.ref a, .ref b, .int (Int32.ofNat o), .int (Int32.ofNat len), .null] 6)) (T15.setTop (mkF m 57 #[.val (.ref a), .val (.ref b), .val (.int (Int32.ofNat o)), .val (.int (Int32.ofNat len)), .val .null, .val (.ref s.heap.size)] [])) := c14.trans (st15 _ (Steps.refl _))
  have ap := apart (Or.inr ⟨_, (wk W (.laysFinal "java/lang/String" "java/lang/String" "value" "[B"))⟩) (Or.inr ⟨_, (wk W (.laysFinal "java/lang/String" "java/lang/String" "coder" "B"))⟩) f1 f2 (t₁ := .array .byte) (t₂ := .byte) (by decide +kernel) (by decide +kernel) (by decide)
  have al := X8.warmed.alike.symm.trans X15.warmed.alike
  have n7 : T11.heap[s.heap.size]? = some N := by rw [q11]; exact n1.1
  exact ⟨T15, none, _, _, _, X15, by simp, rfl, by omega, (fun _ => rfl), ⟨rfl, _, N, bl15, ((Same.refl D _).set _ (by simp)).set _ (by simp), sl15, (Cell.slots_setSlot_ne _ ap).trans sl13, n1.keep al (p15.other hne (p13.other hne n7)), n2, by rw [al.findClass]; exact n3, n4, n5, fun y c h1 h2 => p15.other h1 (p13.other h1 (by rw [q11]; exact n6 y c h2)), by rw [p15.2.2, p13.2.2, q11]; exact z8⟩, fun fs hl => c16.trans (X15.returnOut hexec hret (hb hbytes d57) hl)⟩
end New4
namespace New1
def yN : MethodName := ⟨"java/lang/String", "<init>", "([C)V"⟩
abbrev yB : ByteArray := jdk_42_method_3_code
theorem d0 : decode yB 0 = .ok (.aload_n 0, 1) := by decide +kernel
theorem d1 : decode yB 1 = .ok (.aload_n 1, 1) := by decide +kernel
theorem d2 : decode yB 2 = .ok (.iconst 0, 1) := by decide +kernel
theorem d3 : decode yB 3 = .ok (.aload_n 1, 1) := by decide +kernel
theorem d4 : decode yB 4 = .ok (.arraylength, 1) := by decide +kernel
theorem d5 : decode yB 5 = .ok (.aconst_null, 1) := by decide +kernel
theorem d6 : decode yB 6 = .ok (.invokespecial 27, 3) := by decide +kernel
theorem d9 : decode yB 9 = .ok (.return_, 1) := by decide +kernel
def site : List Cond := [New4.tab] ++ initW "java/lang/String" 27 New4.yN
def tab : Cond := tabOf yN yB 2 none site
def P (a : Addr) (D : Cell) (fV fC : Field) (b : Addr) (A : Cell) (z : Int32) (args : Array Value) (s : State) : Prop := args = #[.ref a, .ref b] ∧ Blank "java/lang/String" a D s ∧ Found "java/lang/String" "value" "[B" fV s ∧ Found "java/lang/String" "coder" "B" fC s ∧ Ch b A s ∧ StaticIs s "java/lang/String" "COMPACT_STRINGS" "Z" (.int z) ∧ ¬ z = 0 ∧ 0 < A.slots.size ∧ A.slots.size ≤ 536870912 ∧ ∀ i, i < A.slots.size → ¬ 255 < cv A i
def E (a : Addr) (D : Cell) (fV fC : Field) (A : Cell) (r : Option Value) (s u : State) : Prop := Got a D fV fC A 0 A.slots.size r s u
/-- new String(chars), not empty, no char above 255: a Latin-1 String of their low bytes -/
theorem law (l : Launch) (a : Addr) (D : Cell) (fV fC : Field) (b : Addr) (A : Cell) (z : Int32) : Law l yN 2 1 3 52 yB 2 none site (P a D fV fC b A z) (E a D fV fC A) [⟨a, fC.slot⟩, ⟨a, fV.slot⟩] 1 A.slots.size := by
  refine Law.of_walk (plainFor_of_name (by decide +kernel)) (by decide +kernel) (by decide +kernel) (by decide) (fun _ _ h => by rw [h.1]; rfl) (fun _ U U' hal hh h => ⟨h.1, h.2.1.mv hal hh, h.2.2.1.al hal, h.2.2.2.1.al hal, h.2.2.2.2.1.mv hal hh, h.2.2.2.2.2.1.there hal hh, h.2.2.2.2.2.2⟩) (fun r U U' V V' h1 hal h2 h => Got.mv r U U' V V' h1 hal h2 h) ?_
  intro p e s m args below meth c s₁ X0 hexec hbytes hml hret hlk hnm hown hh0 W hP
  obtain ⟨rfl, hB, f1, f2, hA, s1, hz, l0, l2, hp⟩ := hP
  have c1 : Steps p.tables e below (s₁.setTop (entryFrame m #[.ref a, .ref b] 2)) (s₁.setTop (mkF m 0 #[.val (.ref a), .val (.ref b)] [])) := entry rfl
  have c2 : Steps p.tables e below (s₁.setTop (entryFrame m #[.ref a, .ref b] 2)) (s₁.setTop (mkF m 6 #[.val (.ref a), .val (.ref b)] [.null, .int (Int32.ofNat A.slots.size), .int 0, .ref b, .ref a])) := c1.trans (by
    refine XS.aloadN X0.here hexec rfl (hb hbytes d0) rfl rfl ?_
    refine XS.aloadN X0.here hexec rfl (hb hbytes d1) rfl rfl ?_
    refine iconstV X0.here hexec rfl 0 (hb hbytes d2) (by decide) ?_
    refine XS.aloadN X0.here hexec rfl (hb hbytes d3) rfl rfl ?_
    refine X0.alen hexec (hA.1.mv X0.warmed.alike hh0) rfl rfl (hb hbytes d4) ?_
    refine XS.aconstNull X0.here hexec rfl (hb hbytes d5) ?_
    exact Steps.refl _)
  obtain ⟨v3, T3, X3, E3, g3⟩ := X0.callN hexec (New4.law l a D fV fC b A z 0 A.slots.size) rfl hown (wks W (initW "java/lang/String" 27 New4.yN)) (W New4.tab (by simp only [site, List.mem_cons, List.mem_append, true_or, or_true])) (W := 0) (Nat.le_of_ble_eq_true rfl) (Nat.le_of_ble_eq_true rfl) (Nat.le_refl _) (by show 0 + A.slots.size ≤ A.slots.size; omega) (g := (mkF m 6 #[.val (.ref a), .val (.ref b)] [.null, .int (Int32.ofNat A.slots.size), .int (Int32.ofNat 0), .ref b, .ref a])) rfl (by rw [hml]; rfl) c2 (argsL := [.ref b, .int (Int32.ofNat 0), .int (Int32.ofNat A.slots.size), .null]) (rest := []) rfl rfl (by show 2 * 0 + 0 ≤ _; decide) (hb hbytes d6) (⟨rfl, hB.mv X0.warmed.alike hh0, f1.al X0.warmed.alike, f2.al X0.warmed.alike, hA.mv X0.warmed.alike hh0, s1.there X0.warmed.alike hh0, hz, l0, by omega, l2, fun i hi => by rw [Nat.zero_add]; exact hp i hi⟩)
  have e0 := Got.mv _ s₁ s _ _ hh0.symm (Vm.Alike.refl _) rfl E3
  obtain rfl := e0.1
  have c4 : Steps p.tables e below (s₁.setTop (entryFrame m #[.ref a, .ref b] 2)) (T3.setTop (mkF m 9 #[.val (.ref a), .val (.ref b)] [])) := g3
  exact ⟨T3, none, _, _, _, X3, by simp, rfl, by omega, (fun _ => rfl), e0, fun fs hl => c4.trans (X3.returnOut hexec hret (hb hbytes d9) hl)⟩
theorem pays {l : Launch} {R : Room} {p : Program} {e : Env} {below : List Frame} {s : State} {sargs : Array Value} {len W : Nat} (a : Addr) (D : Cell) (fV fC : Field) (b : Addr) (A : Cell) (z : Int32) (htab : tab.before sargs s = true) (hfr : 4 ≤ R.frames) (hlo : W + 65 ≤ R.locals) :
    Back l R p e below s sargs yN len W (fun A₁ a₁ => A₁.cells + 1 ≤ R.cells ∧ A₁.slots + A.slots.size ≤ R.slots ∧ P a D fV fC b A z a₁ A₁.U) (fun A₁ _ v₁ B₁ => E a D fV fC A v₁ A₁.U B₁.U ∧ B₁.locs = A₁.locs ++ [⟨a, fC.slot⟩, ⟨a, fV.slot⟩] ∧ B₁.cells = A₁.cells + 1 ∧ B₁.slots = A₁.slots + A.slots.size) :=
  (law l a D fV fC b A z).pays htab hfr (by omega)
end New1
/-- the byte, read back as charAt reads it, is the char -/
theorem lo8_mask {x : Int32} (h0 : ¬ x < 0) (h1 : ¬ 255 < x) : lo8 x &&& 255 = x := by
  have t : ∀ k : Fin 256, lo8 (Int32.ofNat k.val) &&& 255 = Int32.ofNat k.val := by decide +kernel
  rw [Int32.lt_iff_toInt_lt] at h0 h1
  have e0 : (0 : Int32).toInt = 0 := rfl
  have e1 : (255 : Int32).toInt = 255 := rfl
  obtain ⟨k, hk⟩ : ∃ k : Nat, x.toInt = k := ⟨x.toInt.toNat, by omega⟩
  have hx : x = Int32.ofNat k := Int32.toInt_inj.mp (by rw [hk, Int32.toInt_ofNat_small (by omega)])
  rw [hx]
  exact t ⟨k, by omega⟩
end StrChars
namespace StrChars.Road
open Jvm Sem ClassFile Op Lib Jvm.Stand Jvm.Free Jvm.Free.XT
open Jvm.Lib.Cold (StaticIs)
abbrev ST : String := "java/lang/String"
/-- every table word that New1's law asks, flat -/
abbrev words : List Jvm.Cond := [.code New1.yN New1.yB 2 none, .initialized ST, .methodLink ST 27 New4.yN, .instanceMethod New4.yN,
  .code New4.yN New4.yB 6 none, .fieldLink ST 38 ST "COMPACT_STRINGS" "Z", .laysFinal ST ST "value" "[B", .fieldLink ST 9 ST "value" "[B", .laysFinal ST ST "coder" "B", .fieldLink ST 15 ST "coder" "B",
  .methodLink ST 1 Lib.objectInit, .instanceMethod Lib.objectInit, .code Lib.objectInit ⟨#[0xb1]⟩ 1 none, .methodLink ST 177 Cmp3.yN, .static Cmp3.yN, .methodLink ST 47 CodL.yN, .static CodL.yN,
  .code Cmp3.yN Cmp3.yB 6 (some (.array .byte)), .initialized U16, .arrayClass .byte, .methodLink U16 115 Cmp5.yN, .static Cmp5.yN, .code Cmp5.yN Cmp5.yB 7 (some .int), .code CodL.yN CodL.yB 2 (some .byte)]
theorem tab_of {a : Array Value} {s : State} (h : ∀ w ∈ words, w.before a s = true) : New1.tab.before a s = true := by
  have h5 : Cmp5.tab.before a s = true := unparts (wk h (.code Cmp5.yN Cmp5.yB 7 (some .int))) (wks h (.initialized Cmp5.yN.cls :: Cmp5.site))
  have hc : CodL.tab.before a s = true := unparts (wk h (.code CodL.yN CodL.yB 2 (some .byte))) (wks h (.initialized CodL.yN.cls :: CodL.site))
  have q5 : ∀ w ∈ Cmp5.tab :: words, w.before a s = true := fun w hw => (List.mem_cons.mp hw).elim (fun e => e ▸ h5) (h w)
  have h3 : Cmp3.tab.before a s = true := unparts (wk q5 (.code Cmp3.yN Cmp3.yB 6 (some (.array .byte)))) (wks q5 (.initialized Cmp3.yN.cls :: Cmp3.site))
  have q3 : ∀ w ∈ Cmp3.tab :: CodL.tab :: words, w.before a s = true := fun w hw => (List.mem_cons.mp hw).elim (fun e => e ▸ h3) fun hw => (List.mem_cons.mp hw).elim (fun e => e ▸ hc) (h w)
  have h4 : New4.tab.before a s = true := unparts (wk q3 (.code New4.yN New4.yB 6 none)) (wks q3 (.initialized New4.yN.cls :: New4.site))
  have q4 : ∀ w ∈ New4.tab :: words, w.before a s = true := fun w hw => (List.mem_cons.mp hw).elim (fun e => e ▸ h4) (h w)
  exact unparts (wk q4 (.code New1.yN New1.yB 2 none)) (wks q4 (.initialized New1.yN.cls :: New1.site))
/-- the words ride from the start Z to the walk's own state -/
theorem moved {Z s : State} {a0 args : Array Value} (hZ : Z.Warmed39 s.vm) (hw : ∀ d ∈ words, d.before a0 Z = true) : ∀ d ∈ words, d.before args s = true := fun d hd => by
  have q := hw d hd
  have t : ∀ d ∈ words, d = .arrayClass .byte ∨ (d.onTables && d.keepsFace) = true := by decide +kernel
  rcases t d hd with rfl | t
  · exact RoadKit.mvA hZ q
  · exact RoadKit.mv hZ q t
/-- WHAT COMES BACK, over the tables of the start Z: h the heap at the call, h' behind it -/
def Q (Z : State) (x : Addr) (A : Cell) (h : Heap) (v : Option Value) (h' : Heap) (L : List Loc) : Prop := v = none ∧ (∀ y ∈ L, y.base = x) ∧ RoadKit.Keep h h' [x] ∧ h'.size = h.size + 1 ∧ RoadKit.Exa Z h' x ST ∧ RoadKit.Fld Z h' x ST "value" "[B" (.ref h.size) ∧ RoadKit.Fld Z h' x ST "coder" "B" (.int 0) ∧
  (∃ V : Cell, RoadKit.Arr Z h' h.size V .byte ∧ V.vm = .none ∧ Z.vm.findClass "[B" = some V.cls ∧ V.slots.size = A.slots.size ∧ ∀ j, j < A.slots.size → V.slots[j]? = some (.int (lo8 (cv A j)))) ∧
  ∀ (O n d : String) (w : Value), RoadKit.Fld Z h x O n d w → RoadKit.slotOf Z O n d ≠ RoadKit.slotOf Z ST "value" "[B" → RoadKit.slotOf Z O n d ≠ RoadKit.slotOf Z ST "coder" "B" → RoadKit.Fld Z h' x O n d w
/-- **new String(chars) AT A CALL, IN THE ROAD'S FORM**: for specialBack behind newO: x the fresh String, b the char[] with the cell A -/
theorem back {p : Program} {l : Launch} {e : Env} {R : Room} {s : State} {args : Array Value} {below : List Frame} {len W : Nat} {Z : State} {a0 : Array Value} {h : Heap} (hZ : Z.Warmed39 s.vm) (hw : ∀ d ∈ words, d.before a0 Z = true) {kI : Nat} (wi : (Jvm.Cond.instantiable ST kI).before a0 Z = true)
    {x b : Addr} {A : Cell} {z : Int32} {v0 c0 : Value} (E : RoadKit.Exa Z h x ST) (V : RoadKit.Fld Z h x ST "value" "[B" v0) (C : RoadKit.Fld Z h x ST "coder" "B" c0) (K : RoadKit.Arr Z h b A .char) (hty : Typed .char A) (S : RoadKit.Sta Z h ST "COMPACT_STRINGS" "Z" (.int z)) (hz : ¬ z = 0)
    (l0 : 0 < A.slots.size) (l2 : A.slots.size ≤ 536870912) (hp : ∀ i, i < A.slots.size → ¬ 255 < cv A i) (hfr : 4 ≤ R.frames) (hlo : W + 65 ≤ R.locals) :
    Back l R p e below s args New1.yN len W (fun P a => a = #[.ref x, .ref b] ∧ P.U.heap = h ∧ P.cells + 1 ≤ R.cells ∧ P.slots + A.slots.size ≤ R.slots)
      (fun P _ v B => ∃ L, Q Z x A h v B.U.heap L ∧ B.locs = P.locs ++ L ∧ B.cells = P.cells + 1 ∧ B.slots = P.slots + A.slots.size) := by
  intro m meth c P g ig mk a X hg hsize hdg hW hn hp'
  obtain ⟨rfl, rfl, r1, r2⟩ := hp'
  have al : Z.vm.Alike P.U.vm := hZ.alike.trans X.warmed.alike
  obtain ⟨D, cfV, kV, iV, fV, hD, gV, stV, knV, obV, asV, slV⟩ := id V
  obtain ⟨D', cfC, kC, iC, fC, hD', gC, stC, -, -, asC, slC⟩ := id C
  cases hD.symm.trans hD'
  obtain ⟨D2, kD, e1, e2, e3, e4, e5⟩ := id E
  cases hD.symm.trans e1
  obtain ⟨c2, k2, i1, i2, i3, -⟩ := Cond.instantiable_spec wi
  cases e2.symm.trans i1
  cases e3.symm.trans i2
  obtain ⟨kU, u1, u2⟩ := al.2.2 _ _ e3
  have hB : Blank ST x D P.U := ⟨hD, ⟨knV, fun q hq => by rw [hq] at obV; cases obV⟩, by rw [al.findClass]; exact e2, kU, u1, by rw [u2]; exact i3, by rw [u2]; exact e5 i3⟩
  have F1 : Found ST "value" "[B" fV P.U := ⟨SBG.found_only al ⟨cfV, kV, iV, gV⟩, stV⟩
  have F2 : Found ST "coder" "B" fC P.U := ⟨SBG.found_only al ⟨cfC, kC, iC, gC⟩, stC⟩
  have hA : Ch b A P.U := ⟨⟨K.1, State.isArrayOf_alike al K.2.1, K.2.2, by omega⟩, hty⟩
  have hS : StaticIs P.U ST "COMPACT_STRINGS" "Z" (.int z) := by
    obtain ⟨cfS, iS, kS, fS, st, cS, t1, t2, t3, t4, t5, t6, t7⟩ := S
    exact StaticIs.there (s := { Z with heap := P.U.heap }) ⟨cfS, iS, kS, fS, st, cS, t1, t2, t3, t4, t5, (fun q => by rw [q] at t6; cases t6), t7⟩ al rfl
  obtain ⟨v, B, X', ⟨⟨hv, E', V', q1, q2, q3, q4, q5, q6, q7, q8, q9, q10, q11⟩, hl, hc, hs⟩, st⟩ := New1.pays x D fV fC b A z (tab_of (moved hZ hw)) hfr hlo m meth c P g ig mk _ X hg hsize hdg hW hn ⟨r1, r2, rfl, hB, F1, F2, hA, hS, hz, l0, l2, hp⟩
  have al' : Z.vm.Alike B.U.vm := hZ.alike.trans X'.warmed.alike
  have hsz : E'.slots.size = D.slots.size := by
    obtain ⟨-, -, -, kB, w1, w2, w3⟩ := q1
    obtain ⟨kB', y1, y2⟩ := al'.2.2 _ _ e3
    rw [q2.2.1] at w1
    cases w1.symm.trans y1
    rw [w3, e5 i3, y2]
  refine ⟨v, B, X', ⟨_, ⟨hv, ?_, ⟨by omega, fun y cy hy hn' => q10 y cy (by simpa using hn') hy, fun y cy hy => ?_⟩, q11, ⟨E', _, q1.1, by rw [q2.2.1]; exact e2, by rw [q2.2.1]; exact e3, by rw [q2.1]; exact obV, fun _ => by rw [hsz]; exact e5 i3⟩,
    ⟨E', cfV, kV, iV, fV, q1.1, gV, stV, by rw [q2.1]; exact knV, by rw [q2.1]; exact obV, by rw [q2.2.1]; exact asV, q3⟩, ⟨E', cfC, kC, iC, fC, q1.1, gC, stC, by rw [q2.1]; exact knV, by rw [q2.1]; exact obV, by rw [q2.2.1]; exact asC, q4⟩,
    ⟨V', ⟨q5.1, State.isArrayOf_alike al'.symm q5.2.1, q5.2.2.1⟩, q6, by rw [← al'.findClass]; exact q7, q8, fun j hj => by have := q9 j hj; rwa [Nat.zero_add] at this⟩, fun O n d w F n1 n2 => ?_⟩, hl, hc, hs⟩, st⟩
  · intro y hy
    simp only [List.mem_cons, List.not_mem_nil, or_false] at hy
    rcases hy with rfl | rfl <;> rfl
  · by_cases q : y = x
    · subst q
      cases hD.symm.trans hy
      exact ⟨E', q1.1, q2.2.1, q2.1, hsz⟩
    · exact ⟨cy, q10 y cy q hy, rfl, rfl, rfl⟩
  · obtain ⟨D3, cf, k, i, f, g1, g2, g3, g4, g5, g6, g7⟩ := F
    cases hD.symm.trans g1
    simp only [RoadKit.slotOf, g2, gV, gC, Option.map_some, Option.getD_some] at n1 n2
    exact ⟨E', cf, k, i, f, q1.1, g2, g3, by rw [q2.1]; exact g4, by rw [q2.1]; exact g5, by rw [q2.2.1]; exact g6, by rw [q2.2.2 f.slot (by simp [n1, n2])]; exact g7⟩
end StrChars.Road
namespace StrChars.Road
open Jvm Sem ClassFile Op Lib Jvm.Stand Jvm.Free Jvm.Free.XT
/-- WHAT COMES BACK, the byte[] as a list of values -/
def QA (Z : State) (x : Addr) (zn : Int32) (cs : List Int32) (h : Heap) (v : Option Value) (h' : Heap) (L : List Loc) : Prop := v = none ∧ (∀ y ∈ L, y.base = x) ∧ RoadKit.Keep h h' [x] ∧ h'.size = h.size + 1 ∧ RoadKit.Exa Z h' x ST ∧ RoadKit.Fld Z h' x ST "value" "[B" (.ref h.size) ∧ RoadKit.Fld Z h' x ST "coder" "B" (.int 0) ∧
  (∃ kb, Z.vm.findClass "[B" = some kb ∧ RoadKit.Arv Z h' h.size kb .byte zn (cs.map fun c => .int (lo8 c)) (.int 0)) ∧
  ∀ (O n d : String) (w : Value), RoadKit.Fld Z h x O n d w → RoadKit.slotOf Z O n d ≠ RoadKit.slotOf Z ST "value" "[B" → RoadKit.slotOf Z O n d ≠ RoadKit.slotOf Z ST "coder" "B" → RoadKit.Fld Z h' x O n d w
/-- **new String(chars) AT A CALL, THE ARRAYS AS LISTS**: the char[] at b holds cs, not empty, no char above 255 -/
theorem backArv {p : Program} {l : Launch} {e : Env} {R : Room} {s : State} {args : Array Value} {below : List Frame} {len W : Nat} {Z : State} {a0 : Array Value} {h : Heap} (hZ : Z.Warmed39 s.vm) (hw : ∀ d ∈ words, d.before a0 Z = true) {kI : Nat} (wi : (Jvm.Cond.instantiable ST kI).before a0 Z = true)
    {x b : Addr} {k : ClassId} {zn z : Int32} {cs : List Int32} {dv v0 c0 : Value} (E : RoadKit.Exa Z h x ST) (V : RoadKit.Fld Z h x ST "value" "[B" v0) (C : RoadKit.Fld Z h x ST "coder" "B" c0) (K : RoadKit.Arv Z h b k .char zn (cs.map Value.int) dv) (S : RoadKit.Sta Z h ST "COMPACT_STRINGS" "Z" (.int z)) (hz : ¬ z = 0)
    (hlen : zn.toNatClampNeg = cs.length) (h0 : 0 < cs.length) (hbig : cs.length ≤ 536870912) (hall : ∀ c ∈ cs, ¬ 255 < c) (hfr : 4 ≤ R.frames) (hlo : W + 65 ≤ R.locals) :
    Back l R p e below s args New1.yN len W (fun P a => a = #[.ref x, .ref b] ∧ P.U.heap = h ∧ P.cells + 1 ≤ R.cells ∧ P.slots + cs.length ≤ R.slots)
      (fun P _ v B => ∃ L, QA Z x zn cs h v B.U.heap L ∧ B.locs = P.locs ++ L ∧ B.cells = P.cells + 1 ∧ B.slots = P.slots + cs.length) := by
  obtain ⟨A, K1, K2, K3, K4, K5, K6⟩ := K
  have e : A.slots.size = cs.length := K3.trans hlen
  have hat : ∀ (i : Nat) (hi : i < cs.length), A.slots[i]? = some (.int cs[i]) := fun i hi => by rw [K5 i (by omega)]; simp [List.getD_eq_getElem?_getD, hi]
  have hcv : ∀ (i : Nat) (hi : i < cs.length), cv A i = cs[i] := fun i hi => by unfold cv; rw [hat i hi]
  have hty : Typed .char A := fun i v hv => by
    have hi : i < A.slots.size := (Array.getElem?_eq_some_iff.mp hv).1
    have q := K5 i hi
    rw [hv] at q
    rw [Option.some.inj q]
    exact K6 i hi
  refine Back.mono (back hZ hw wi E V C K1 hty S hz (by omega) (by omega) (fun i hi => by rw [hcv i (by omega)]; exact hall _ (List.getElem_mem _)) hfr hlo) (fun P a hp => ⟨hp.1, hp.2.1, hp.2.2.1, by rw [e]; exact hp.2.2.2⟩) (fun P a v B hp hq => ?_)
  obtain ⟨L, ⟨q1, q2, q3, q4, q5, q6, q7, ⟨V', v1, v2, v3, v4, v5⟩, q9⟩, hl, hc, hs⟩ := hq
  refine ⟨L, ⟨q1, q2, q3, q4, q5, q6, q7, ⟨V'.cls, v3, V', v1, rfl, by rw [v4, e, hlen], K4, fun i hi => ?_, fun i hi => ?_⟩, q9⟩, hl, hc, by rw [hs, e]⟩
  · have hi' : i < cs.length := by omega
    rw [v5 i (by omega), hcv i hi']; simp [List.getD_eq_getElem?_getD, hi']
  · have hi' : i < cs.length := by omega
    simp only [List.getD_eq_getElem?_getD, List.getElem?_map, List.getElem?_eq_getElem hi', Option.map_some, Option.getD_some]
    exact fits_lo8 _
end StrChars.Road
namespace StrChars.Road
open Jvm Sem ClassFile Op Lib Jvm.Stand Jvm.Free Jvm.Free.XT
/-- WHAT COMES BACK, in the writer's own shape -/
def QV (Z : State) (x : Addr) (N : Int32) (bs : List Int32) (h : Heap) (n0 : Nat) (v : Option Value) (h' : Heap) (L : List Loc) : Prop := v = none ∧ RoadKit.Fr n0 L ∧ RoadKit.Keep h h' [x] ∧ RoadKit.Exa Z h' x ST ∧ RoadKit.Fld Z h' x ST "coder" "B" (.int 0) ∧
  ∃ (t : Addr) (kb : ClassId), n0 ≤ t ∧ h.size ≤ t ∧ ¬ t = x ∧ RoadKit.Fld Z h' x ST "value" "[B" (.ref t) ∧ RoadKit.Arv Z h' t kb .byte N (bs.map Value.int) (.int 0)
/-- **new String(chars) AT A CALL, FOR THE WRITER**: a char[] of n known ints, each 0 to 255 -/
theorem backV {p : Program} {l : Launch} {e : Env} {R : Room} {s : State} {args : Array Value} {below : List Frame} {len W : Nat} {Z : State} {a0 : Array Value} {h : Heap} (hZ : Z.Warmed39 s.vm) (hw : ∀ d ∈ words, d.before a0 Z = true) {kI : Nat} (wi : (Jvm.Cond.instantiable ST kI).before a0 Z = true)
    {x b : Addr} {kC : ClassId} {cs bs : List Int32} {d v0 c0 : Value} {z N : Int32} {n n0 : Nat} (hx0 : n0 ≤ x) (hh0 : n0 ≤ h.size) (E : RoadKit.Exa Z h x ST) (V : RoadKit.Fld Z h x ST "value" "[B" v0) (C : RoadKit.Fld Z h x ST "coder" "B" c0) (K : RoadKit.Arv Z h b kC .char N (cs.map Value.int) d) (S : RoadKit.Sta Z h ST "COMPACT_STRINGS" "Z" (.int z)) (hz : ¬ z = 0)
    (hn : cs.length = n) (hN : N = Int32.ofNat n) (l0 : 0 < n) (l2 : n ≤ 4000) (hp : ∀ c ∈ cs, ¬ c < 0 ∧ ¬ (255 : Int32) < c) (hb : bs = cs.map (fun c => c.toInt8.toInt32)) (hfr : 4 ≤ R.frames) (hlo : W + 65 ≤ R.locals) :
    Back l R p e below s args (⟨"java/lang/String", "<init>", "([C)V"⟩ : MethodName) len W (fun P a => a = #[.ref x, .ref b] ∧ P.U.heap = h ∧ P.cells + 1 ≤ R.cells ∧ P.slots + n ≤ R.slots)
      (fun P _ v B => ∃ L, QV Z x N bs h n0 v B.U.heap L ∧ B.locs = P.locs ++ L ∧ B.cells = P.cells + 1 ∧ B.slots = P.slots + n) := by
  subst hn hN hb
  refine Back.mono (backArv hZ hw wi E V C K S hz (n32 (by omega)) l0 (by omega) (fun c hc => (hp c hc).2) hfr hlo) (fun P a hp => hp) (fun P a v B hp hq => ?_)
  obtain ⟨L, ⟨q1, q2, q3, q4, q5, q6, q7, ⟨kb, v1, v2⟩, q9⟩, hl, hc, hs⟩ := hq
  exact ⟨L, ⟨q1, fun y hy => by rw [q2 y hy]; exact hx0, q3, q5, q7, h.size, kb, hh0, Nat.le_refl _, Nat.ne_of_gt E.lt, q6, by rw [List.map_map]; exact v2⟩, hl, hc, hs⟩
end StrChars.Road
namespace StrChars
open Jvm Sem ClassFile Op Lib Jvm.Stand Jvm.Free.XT Jvm.Free.ALB Jvm.Free.JM Jvm.Free
open Jvm.Lib.Cold (StaticIs)
def hi8 (x : Int32) : Int32 := lo8 (x >>> ((8 : Int32) &&& 31))
/-- what StringUTF16.getChar makes of two bytes -/
def pairCh (u v : Int32) : Int32 := (((u &&& 255) <<< ((0 : Int32) &&& 31)) ||| ((v &&& 255) <<< ((8 : Int32) &&& 31))).toUInt32.toUInt16.toUInt32.toInt32
theorem lo8_and (x : Int32) : (lo8 x &&& 255).toBitVec.toNat = x.toBitVec.toNat % 256 := by
  have h : (lo8 x).toBitVec = (x.toBitVec.signExtend 8).signExtend 32 := by rw [lo8, Int8.toBitVec_toInt32, Int32.toBitVec_toInt8]
  rw [Int32.toBitVec_and, BitVec.toNat_and, h]
  have e : ((x.toBitVec.signExtend 8).signExtend 32).toNat % 256 = x.toBitVec.toNat % 256 := by
    rw [BitVec.toNat_signExtend]
    have hlt := x.toBitVec.isLt
    simp only [BitVec.toNat_setWidth, BitVec.toNat_signExtend]
    split <;> split <;> omega
  rw [← e]
  exact Nat.and_two_pow_sub_one_eq_mod _ 8
theorem pair_says {c : Int32} (h0 : ¬ c < 0) (h1 : ¬ 65535 < c) : pairCh (lo8 c) (hi8 c) = c := by
  rw [Int32.lt_iff_toInt_lt] at h0 h1
  have e0 : (0 : Int32).toInt = 0 := rfl
  have e1 : (65535 : Int32).toInt = 65535 := rfl
  have hc : c.toInt = c.toBitVec.toNat := by
    have := c.toBitVec.isLt
    have e : c.toInt = c.toBitVec.toInt := rfl
    rw [e] at h0 h1
    rw [e]
    rw [BitVec.toInt_eq_toNat_cond] at h0 h1 ⊢
    split at h0 <;> split <;> omega
  have hn : c.toBitVec.toNat < 65536 := by omega
  have a1 := lo8_and c
  have a2 : (hi8 c &&& 255).toBitVec.toNat = c.toBitVec.toNat / 256 := by
    rw [hi8, lo8_and]
    have e : ((8 : Int32) &&& 31) = 8 := by decide
    rw [e, Int32.toBitVec_shiftRight]
    have e2 : ((8 : Int32).toBitVec.smod 32) = 8#32 := by decide
    rw [e2, BitVec.sshiftRight_eq', BitVec.toNat_sshiftRight_of_msb_false (by rw [BitVec.msb_eq_false_iff_two_mul_lt]; omega)]
    show c.toBitVec.toNat >>> 8 % 256 = _
    rw [Nat.shiftRight_eq_div_pow]
    omega
  unfold pairCh
  apply Int32.toBitVec_inj.mp
  apply BitVec.eq_of_toNat_eq
  have f0 : ((0 : Int32) &&& 31) = 0 := by decide
  have f8 : ((8 : Int32) &&& 31) = 8 := by decide
  rw [f0, f8]
  have g : (((lo8 c &&& 255) <<< (0 : Int32)) ||| ((hi8 c &&& 255) <<< (8 : Int32))).toBitVec.toNat = c.toBitVec.toNat := by
    rw [Int32.toBitVec_or, Int32.toBitVec_shiftLeft, Int32.toBitVec_shiftLeft]
    have s0 : ((0 : Int32).toBitVec.smod 32) = 0#32 := by decide
    have s8 : ((8 : Int32).toBitVec.smod 32) = 8#32 := by decide
    rw [s0, s8, BitVec.toNat_or]
    simp only [BitVec.shiftLeft_eq', BitVec.toNat_shiftLeft, a1, a2]
    show (c.toBitVec.toNat % 256) <<< 0 % 2 ^ 32 ||| (c.toBitVec.toNat / 256) <<< 8 % 2 ^ 32 = _
    rw [Nat.shiftLeft_zero, Nat.mod_eq_of_lt (show c.toBitVec.toNat % 256 < 2 ^ 32 by omega), Nat.mod_eq_of_lt (show (c.toBitVec.toNat / 256) <<< 8 < 2 ^ 32 by rw [Nat.shiftLeft_eq]; omega), Nat.or_comm, ← Nat.shiftLeft_add_eq_or_of_lt (by omega), Nat.shiftLeft_eq]
    omega
  show BitVec.toNat (((((lo8 c &&& 255) <<< (0 : Int32)) ||| ((hi8 c &&& 255) <<< (8 : Int32))).toBitVec.setWidth 16).setWidth 32) = _
  rw [BitVec.toNat_setWidth, BitVec.toNat_setWidth, g]
  omega
end StrChars
namespace StrChars
open Jvm Sem ClassFile Op Lib Jvm.Stand Jvm.Free.XT Jvm.Free.ALB Jvm.Free.JM Jvm.Free
open Jvm.Lib.Cold (StaticIs)
/-- charAt's cast of a byte read back -/
def chr8 (u : Int32) : Int32 := (u &&& 255).toUInt32.toUInt16.toUInt32.toInt32
theorem chr8_lo8 {c : Int32} (h0 : ¬ c < 0) (h1 : ¬ 255 < c) : chr8 (lo8 c) = c := by
  have t : ∀ k : Fin 256, (Int32.ofNat k.val).toUInt32.toUInt16.toUInt32.toInt32 = Int32.ofNat k.val := by decide +kernel
  unfold chr8
  rw [lo8_mask h0 h1]
  rw [Int32.lt_iff_toInt_lt] at h0 h1
  have e0 : (0 : Int32).toInt = 0 := rfl
  have e1 : (255 : Int32).toInt = 255 := rfl
  obtain ⟨k, hk⟩ : ∃ k : Nat, c.toInt = k := ⟨c.toInt.toNat, by omega⟩
  have hx : c = Int32.ofNat k := Int32.toInt_inj.mp (by rw [hk, Int32.toInt_ofNat_small (by omega)])
  rw [hx]
  exact t ⟨k, by omega⟩
theorem narrow_ch {c : Int32} (h0 : ¬ c < 0) (h1 : ¬ 65535 < c) : narrow .char (.int c) = .int c := by
  have q : narrow .char (.int (pairCh (lo8 c) (hi8 c))) = .int (pairCh (lo8 c) (hi8 c)) := narrow_c _
  rwa [pair_says h0 h1] at q
/-- the array's cell V codes the n chars f 0 .. f (n - 1) by the coder cd, as the JDK does: coder 1 just where some char is above 255 -/
def Cod (cd : Int32) (n : Nat) (f : Nat → Int32) (V : Cell) : Prop := (cd = 0 ∧ V.slots.size = n ∧ ∀ j, j < n → V.slots[j]? = some (.int (lo8 (f j))) ∧ ¬ 255 < f j) ∨ (cd = 1 ∧ V.slots.size = 2 * n ∧ (∀ j, j < n → V.slots[2 * j]? = some (.int (lo8 (f j))) ∧ V.slots[2 * j + 1]? = some (.int (hi8 (f j)))) ∧ ∃ j, j < n ∧ 255 < f j)
theorem Cod.cd {cd : Int32} {n : Nat} {f : Nat → Int32} {V : Cell} (h : Cod cd n f V) : cd = 0 ∨ cd = 1 := h.imp (fun q => q.1) fun q => q.1
/-- **x is a String of the n chars f 0 .. f (n - 1)**, Latin-1 or UTF-16; its array at t has the cell V -/
def Txt (x t : Addr) (V : Cell) (cd : Int32) (n : Nat) (f : Nat → Int32) (U : State) : Prop := Exact "java/lang/String" x U ∧ Has x "java/lang/String" "value" "[B" (.ref t) U ∧ Has x "java/lang/String" "coder" "B" (.int cd) U ∧ XT.Arr .byte t V U ∧ Cod cd n f V ∧ ∀ j, j < n → ¬ f j < 0 ∧ ¬ 65535 < f j
theorem Txt.mv {x t : Addr} {V : Cell} {cd : Int32} {n : Nat} {f : Nat → Int32} {U U' : State} (h : Txt x t V cd n f U) (hal : U.vm.Alike U'.vm) (hh : U'.heap = U.heap) : Txt x t V cd n f U' := ⟨h.1.mv hal hh, h.2.1.mv hal hh, h.2.2.1.mv hal hh, h.2.2.2.1.mv hal hh, h.2.2.2.2⟩
namespace IsL
def yN : MethodName := ⟨"java/lang/String", "isLatin1", "()Z"⟩
abbrev yB : ByteArray := jdk_42_method_154_code
theorem d0 : decode yB 0 = .ok (.getstatic 38, 3) := by decide +kernel
theorem d3 : decode yB 3 = .ok (.ifCond (.eq) 14, 3) := by decide +kernel
theorem d6 : decode yB 6 = .ok (.aload_n 0, 1) := by decide +kernel
theorem d7 : decode yB 7 = .ok (.getfield 15, 3) := by decide +kernel
theorem d10 : decode yB 10 = .ok (.ifCond (.ne) 7, 3) := by decide +kernel
theorem d13 : decode yB 13 = .ok (.iconst 1, 1) := by decide +kernel
theorem d14 : decode yB 14 = .ok (.goto 4, 3) := by decide +kernel
theorem d17 : decode yB 17 = .ok (.iconst 0, 1) := by decide +kernel
theorem d18 : decode yB 18 = .ok (.ireturn, 1) := by decide +kernel
def site : List Cond := [.fieldLink "java/lang/String" 38 "java/lang/String" "COMPACT_STRINGS" "Z", .fieldLink "java/lang/String" 15 "java/lang/String" "coder" "B"]
def tab : Cond := tabOf yN yB 1 (some .boolean) site
def P (x : Addr) (cd z : Int32) (args : Array Value) (s : State) : Prop := args = #[.ref x] ∧ Has x "java/lang/String" "coder" "B" (.int cd) s ∧ (cd = 0 ∨ cd = 1) ∧ StaticIs s "java/lang/String" "COMPACT_STRINGS" "Z" (.int z) ∧ ¬ z = 0
def E (cd : Int32) (r : Option Value) (s u : State) : Prop := XT.PureE (some (.int (1 - cd))) r s u
theorem law (l : Launch) (x : Addr) (cd z : Int32) : Law l yN 1 0 0 0 yB 1 (some .boolean) site (P x cd z) (E cd) [] 0 0 := by
  refine Law.of_walk (plainFor_of_name (by decide +kernel)) (by decide +kernel) (by decide +kernel) (by decide) (fun _ _ h => by rw [h.1]; rfl) (fun _ U U' hal hh h => ⟨h.1, h.2.1.mv hal hh, h.2.2.1, h.2.2.2.1.there hal hh, h.2.2.2.2⟩) (fun r U U' V V' h1 hal h2 h => XT.PureE.mv r U U' V V' h1 hal h2 h) ?_
  intro p e s m args below meth c s₁ X0 hexec hbytes hml hret hlk hnm hown hh0 W hP
  obtain ⟨rfl, hx, hc, s1, hz⟩ := hP
  have c1 : Steps p.tables e below (s₁.setTop (entryFrame m #[.ref x] 1)) (s₁.setTop (mkF m 0 #[.val (.ref x)] [])) := entry rfl
  obtain ⟨T2, X2, q2, st2⟩ := X0.sget hexec hown (wk W (.fieldLink "java/lang/String" 38 "java/lang/String" "COMPACT_STRINGS" "Z")) s1 (fun _ _ h => by rw [hh0]; exact h) (g := (mkF m 0 #[.val (.ref x)] [])) rfl (hb hbytes d0)
  have hh2 := q2.trans hh0
  have c3 : Steps p.tables e below (s₁.setTop (entryFrame m #[.ref x] 1)) (T2.setTop (mkF m 7 #[.val (.ref x)] [.ref x])) := (c1.trans (st2 _ (Steps.refl _))).trans (by
    refine XS.ifNo X2.here hexec rfl (hb hbytes d3) rfl (i0_eq_f hz) ?_
    refine XS.aloadN X2.here hexec rfl (hb hbytes d6) rfl rfl ?_
    exact Steps.refl _)
  obtain ⟨T4, X4, q4, st4⟩ := X2.hget hexec hown (wk W (.fieldLink "java/lang/String" 15 "java/lang/String" "coder" "B")) (hx.mv X2.warmed.alike hh2) (g := (mkF m 7 #[.val (.ref x)] [.ref x])) rfl (rest := []) rfl (hb hbytes d7)
  have c5 : Steps p.tables e below (s₁.setTop (entryFrame m #[.ref x] 1)) (T4.setTop (mkF m 10 #[.val (.ref x)] [.int cd])) := c3.trans (st4 _ (Steps.refl _))
  have c6 : Steps p.tables e below (s₁.setTop (entryFrame m #[.ref x] 1)) (T4.setTop (mkF m 18 #[.val (.ref x)] [.int (1 - cd)])) := by
    rcases hc with rfl | rfl
    · exact c5.trans (by
        refine XS.ifNo X4.here hexec rfl (hb hbytes d10) rfl (i0_ne_f rfl) ?_
        refine iconstV X4.here hexec rfl 1 (hb hbytes d13) (by decide) ?_
        refine XS.goto X4.here hexec rfl (pc0 := 14) rfl (hb hbytes d14) (by decide) rfl ?_
        exact Steps.refl _)
    · exact c5.trans (by
        refine XS.ifYes X4.here hexec rfl (pc0 := 10) rfl (hb hbytes d10) rfl (i0_ne_t (by decide)) (by decide) rfl ?_
        refine iconstV X4.here hexec rfl 0 (hb hbytes d17) (by decide) ?_
        exact Steps.refl _)
  exact ⟨T4, some (.int (1 - cd)), _, _, _, X4, rfl, rfl, rfl, (fun h => by cases h), ⟨rfl, q4.trans hh2⟩, fun fs hl => c6.trans (X4.ireturnOut hexec hret (by rcases hc with rfl | rfl <;> rfl) (Or.inr (Or.inl rfl)) (hb hbytes d18) hl)⟩
end IsL
namespace LChA
def yN : MethodName := ⟨"java/lang/StringLatin1", "charAt", "([BI)C"⟩
abbrev yB : ByteArray := jdk_43_method_2_code
theorem d0 : decode yB 0 = .ok (.iload_n 1, 1) := by decide +kernel
theorem d1 : decode yB 1 = .ok (.aload_n 0, 1) := by decide +kernel
theorem d2 : decode yB 2 = .ok (.arraylength, 1) := by decide +kernel
theorem d3 : decode yB 3 = .ok (.invokestatic 9, 3) := by decide +kernel
theorem d6 : decode yB 6 = .ok (.aload_n 0, 1) := by decide +kernel
theorem d7 : decode yB 7 = .ok (.iload_n 1, 1) := by decide +kernel
theorem d8 : decode yB 8 = .ok (.baload, 1) := by decide +kernel
theorem d9 : decode yB 9 = .ok (.sipush 255, 3) := by decide +kernel
theorem d12 : decode yB 12 = .ok (.iand, 1) := by decide +kernel
theorem d13 : decode yB 13 = .ok (.i2c, 1) := by decide +kernel
theorem d14 : decode yB 14 = .ok (.ireturn, 1) := by decide +kernel
def site : List Cond := [JO.Str_checkIndex.tab] ++ staticW "java/lang/StringLatin1" 9 JO.Str_checkIndex.yN
def tab : Cond := tabOf yN yB 2 (some .char) site
def P (t : Addr) (V : Cell) (i : Nat) (u : Int32) (fm : Value) (args : Array Value) (s : State) : Prop := args = #[.ref t, .int (Int32.ofNat i)] ∧ XT.Arr .byte t V s ∧ V.slots[i]? = some (.int u) ∧ (StaticIs s "jdk/internal/util/Preconditions" "SIOOBE_FORMATTER" "Ljava/util/function/BiFunction;" fm ∧ fm.isRef = true)
def E (u : Int32) (r : Option Value) (s w : State) : Prop := XT.PureE (some (.int (chr8 u))) r s w
theorem law (l : Launch) (t : Addr) (V : Cell) (i : Nat) (u : Int32) (fm : Value) : Law l yN 2 2 2 27 yB 2 (some .char) site (P t V i u fm) (E u) [] 0 0 := by
  refine Law.of_walk (plainFor_of_name (by decide +kernel)) (by decide +kernel) (by decide +kernel) (by decide) (fun _ _ h => by rw [h.1]; rfl) (fun _ U U' hal hh h => ⟨h.1, h.2.1.mv hal hh, h.2.2.1, h.2.2.2.1.there hal hh, h.2.2.2.2⟩) (fun r U U' V V' h1 hal h2 h => XT.PureE.mv r U U' V V' h1 hal h2 h) ?_
  intro p e s m args below meth c s₁ X0 hexec hbytes hml hret hlk hnm hown hh0 W hP
  obtain ⟨rfl, hV, hu, s1, rf⟩ := hP
  have v31 := hV.2.2.2
  have hi : i < V.slots.size := (Array.getElem?_eq_some_iff.mp hu).1
  have c1 : Steps p.tables e below (s₁.setTop (entryFrame m #[.ref t, .int (Int32.ofNat i)] 2)) (s₁.setTop (mkF m 0 #[.val (.ref t), .val (.int (Int32.ofNat i))] [])) := entry rfl
  have c2 : Steps p.tables e below (s₁.setTop (entryFrame m #[.ref t, .int (Int32.ofNat i)] 2)) (s₁.setTop (mkF m 3 #[.val (.ref t), .val (.int (Int32.ofNat i))] [.int (Int32.ofNat V.slots.size), .int (Int32.ofNat i)])) := c1.trans (by
    refine XS.iloadN X0.here hexec rfl (hb hbytes d0) rfl ?_
    refine XS.aloadN X0.here hexec rfl (hb hbytes d1) rfl rfl ?_
    refine X0.alen hexec (hV.mv X0.warmed.alike hh0) rfl rfl (hb hbytes d2) ?_
    exact Steps.refl _)
  obtain ⟨v3, T3, X3, E3, g3⟩ := X0.callS hexec (JO.Str_checkIndex.law l (Int32.ofNat i) (Int32.ofNat V.slots.size) fm) hown (wks W (staticW "java/lang/StringLatin1" 9 JO.Str_checkIndex.yN)) (wk W JO.Str_checkIndex.tab) (W := 0) (Nat.le_of_ble_eq_true rfl) (Nat.le_of_ble_eq_true rfl) (Nat.le_refl _) (Nat.le_refl _) (g := (mkF m 3 #[.val (.ref t), .val (.int (Int32.ofNat i))] [.int (Int32.ofNat V.slots.size), .int (Int32.ofNat i)])) rfl (by rw [hml]; rfl) c2 (argsL := [.int (Int32.ofNat i), .int (Int32.ofNat V.slots.size)]) (rest := []) rfl rfl (by show 2 * 0 + 0 ≤ _; decide) (hb hbytes d3) (⟨rfl, rf, s1.there X0.warmed.alike hh0, Int32.ofNat_not_neg (by omega), lt32 v31 hi⟩)
  obtain ⟨rfl, q3⟩ := E3
  have hh3 := q3.trans hh0
  have c4 : Steps p.tables e below (s₁.setTop (entryFrame m #[.ref t, .int (Int32.ofNat i)] 2)) (T3.setTop (mkF m 14 #[.val (.ref t), .val (.int (Int32.ofNat i))] [.int (chr8 u)])) := Steps.trans g3 (by
    refine XS.aloadN X3.here hexec rfl (hb hbytes d6) rfl rfl ?_
    refine XS.iloadN X3.here hexec rfl (hb hbytes d7) rfl ?_
    refine X3.aget hexec (hV.mv X3.warmed.alike hh3) rfl hu rfl rfl (hb hbytes d8) ?_
    refine sipushV X3.here hexec rfl 255 (hb hbytes d9) (by decide) ?_
    refine XS.iand X3.here hexec rfl (hb hbytes d12) rfl ?_
    refine i2c X3.here hexec rfl (hb hbytes d13) rfl ?_
    exact Steps.refl _)
  exact ⟨T3, some (.int (chr8 u)), _, _, _, X3, rfl, rfl, rfl, (fun h => by cases h), ⟨rfl, hh3⟩, fun fs hl => c4.trans (X3.ireturnOut hexec hret (narrow_c _) (Or.inr (Or.inr (Or.inr (Or.inl rfl)))) (hb hbytes d14) hl)⟩
end LChA
end StrChars
namespace StrChars.Road
open Jvm Sem ClassFile Op Lib Jvm.Stand Jvm.Free Jvm.Free.XT
open Jvm.Lib.Cold (StaticIs)
theorem consq {a : Array Value} {s : State} {c : Jvm.Cond} {L : List Jvm.Cond} (h0 : c.before a s = true) (h : ∀ w ∈ L, w.before a s = true) : ∀ w ∈ c :: L, w.before a s = true := fun w hw => (List.mem_cons.mp hw).elim (fun e => e ▸ h0) (h w)
/-- the bytes of the chars cs, low before high -/
def wideBytes : List Int32 → List Value
  | [] => []
  | c :: cs => .int (lo8 c) :: .int (hi8 c) :: wideBytes cs
theorem wide_lo (d : Value) : ∀ (cs : List Int32) (j : Nat), j < cs.length → (wideBytes cs).getD (2 * j) d = .int (lo8 (cs.getD j 0))
  | [], j, h => absurd h (Nat.not_lt_zero j)
  | c :: cs, 0, _ => rfl
  | c :: cs, j + 1, h => by
    have q := wide_lo d cs j (by simpa using h)
    rw [show 2 * (j + 1) = 2 * j + 1 + 1 from by omega]
    simpa [wideBytes] using q
theorem wide_hi (d : Value) : ∀ (cs : List Int32) (j : Nat), j < cs.length → (wideBytes cs).getD (2 * j + 1) d = .int (hi8 (cs.getD j 0))
  | [], j, h => absurd h (Nat.not_lt_zero j)
  | c :: cs, 0, _ => rfl
  | c :: cs, j + 1, h => by
    have q := wide_hi d cs j (by simpa using h)
    rw [show 2 * (j + 1) + 1 = 2 * j + 1 + 1 + 1 from by omega]
    simpa [wideBytes] using q
theorem low_at (d : Value) (cs : List Int32) (j : Nat) (h : j < cs.length) : (cs.map fun c => Value.int (lo8 c)).getD j d = .int (lo8 (cs.getD j 0)) := by
  simp [List.getD_eq_getElem?_getD, h]
/-- an array of N2 bytes vs codes the chars cs by the coder cd -/
def CodA (cs : List Int32) (cd N2 : Int32) (vs : List Value) : Prop := (cd = 0 ∧ N2 = Int32.ofNat cs.length ∧ vs = (cs.map fun c => Value.int (lo8 c)) ∧ ∀ c ∈ cs, ¬ 255 < c) ∨ (cd = 1 ∧ N2 = Int32.ofNat (2 * cs.length) ∧ vs = wideBytes cs ∧ ∃ c ∈ cs, 255 < c)
theorem CodA.cod {cs : List Int32} {cd N2 : Int32} {vs : List Value} {V : Cell} (h : CodA cs cd N2 vs) (hn : 2 * cs.length < 2 ^ 31) (hs : V.slots.size = N2.toNatClampNeg) (hv : RoadKit.Has V vs (.int 0)) : Cod cd cs.length (fun j => cs.getD j 0) V := by
  rcases h with ⟨rfl, rfl, rfl, h⟩ | ⟨rfl, rfl, rfl, c, hc, hw⟩
  · rw [n32 (by omega)] at hs
    exact Or.inl ⟨rfl, hs, fun j hj => ⟨by rw [hv j (by omega), low_at _ _ _ hj], by
      have e : cs.getD j 0 = cs[j] := by simp [List.getD_eq_getElem?_getD, hj]
      show ¬ 255 < cs.getD j 0
      rw [e]; exact h _ (List.getElem_mem _)⟩⟩
  · rw [n32 (by omega)] at hs
    obtain ⟨j, hj, rfl⟩ := List.getElem_of_mem hc
    exact Or.inr ⟨rfl, hs, fun j hj => ⟨by rw [hv _ (by omega), wide_lo _ _ _ hj], by rw [hv _ (by omega), wide_hi _ _ _ hj]⟩, j, hj, by
      have e : cs.getD j 0 = cs[j] := by simp [List.getD_eq_getElem?_getD, hj]
      show 255 < cs.getD j 0
      rw [e]; exact hw⟩
/-- an object of exactly java/lang/String, its two fields found: as the laws ask it -/
theorem strObj {Z U : State} {a0 : Array Value} {kI : Nat} (wi : (Jvm.Cond.instantiable ST kI).before a0 Z = true) (al : Z.vm.Alike U.vm) {x : Addr} {v0 c0 : Value} (E : RoadKit.Exa Z U.heap x ST) (V : RoadKit.Fld Z U.heap x ST "value" "[B" v0) (C : RoadKit.Fld Z U.heap x ST "coder" "B" c0) :
    ∃ (D : Cell) (fV fC : Field), Blank ST x D U ∧ Found ST "value" "[B" fV U ∧ Found ST "coder" "B" fC U ∧ D.slots[fV.slot]? = some v0 ∧ D.slots[fC.slot]? = some c0 ∧ RoadKit.slotOf Z ST "value" "[B" = fV.slot ∧ RoadKit.slotOf Z ST "coder" "B" = fC.slot := by
  obtain ⟨D, cfV, kV, iV, fV, hD, gV, stV, knV, obV, asV, slV⟩ := V
  obtain ⟨D', cfC, kC, iC, fC, hD', gC, stC, -, -, asC, slC⟩ := C
  cases hD.symm.trans hD'
  obtain ⟨D2, kD, e1, e2, e3, e4, e5⟩ := E
  cases hD.symm.trans e1
  obtain ⟨c2, k2, i1, i2, i3, -⟩ := Cond.instantiable_spec wi
  cases e2.symm.trans i1
  cases e3.symm.trans i2
  obtain ⟨kU, u1, u2⟩ := al.2.2 _ _ e3
  exact ⟨D, fV, fC, ⟨hD, ⟨knV, fun q hq => by rw [hq] at obV; cases obV⟩, by rw [al.findClass]; exact e2, kU, u1, by rw [u2]; exact i3, by rw [u2]; exact e5 i3⟩, ⟨SBG.found_only al ⟨cfV, kV, iV, gV⟩, stV⟩, ⟨SBG.found_only al ⟨cfC, kC, iC, gC⟩, stC⟩, slV, slC, by simp [RoadKit.slotOf, gV], by simp [RoadKit.slotOf, gC]⟩
theorem sta_is {Z U : State} (al : Z.vm.Alike U.vm) {C n d : String} {v : Value} (S : RoadKit.Sta Z U.heap C n d v) : StaticIs U C n d v := by
  obtain ⟨cfS, iS, kS, fS, st, cS, t1, t2, t3, t4, t5, t6, t7⟩ := S
  exact StaticIs.there (s := { Z with heap := U.heap }) ⟨cfS, iS, kS, fS, st, cS, t1, t2, t3, t4, t5, (fun q => by rw [q] at t6; cases t6), t7⟩ al rfl
end StrChars.Road
namespace StrChars.Road
open Jvm Sem ClassFile Op Lib Jvm.Stand Jvm.Free Jvm.Free.XT
open Jvm.Lib.Cold (StaticIs)
/-- the road's facts of a String, as the laws ask it -/
theorem txt_of {Z U : State} {a0 : Array Value} {kI : Nat} (wi : (Jvm.Cond.instantiable ST kI).before a0 Z = true) (al : Z.vm.Alike U.vm) {x t : Addr} {kb : ClassId} {cs : List Int32} {cd N2 : Int32} {vs : List Value} (E : RoadKit.Exa Z U.heap x ST) (V : RoadKit.Fld Z U.heap x ST "value" "[B" (.ref t)) (C : RoadKit.Fld Z U.heap x ST "coder" "B" (.int cd)) (K : RoadKit.Arv Z U.heap t kb .byte N2 vs (.int 0)) (hc : CodA cs cd N2 vs) (hb : ∀ c ∈ cs, ¬ c < 0 ∧ ¬ (65535 : Int32) < c) (l2 : cs.length ≤ 4000) :
    ∃ A, Txt x t A cd cs.length (fun j => cs.getD j 0) U := by
  obtain ⟨A, K1, K2, K3, K4, K5, K6⟩ := K
  have hcod := hc.cod (by omega) K3 K5
  obtain ⟨D, fV, fC, hB, F1, F2, g1, g2, -, -⟩ := strObj wi al E V C
  exact ⟨A, ⟨_, hB.2.2.1, D, hB.1, rfl, by cases q : D.vm <;> first | rfl | exact absurd q (hB.2.1.2 _)⟩, Has.of hB F1 g1, Has.of hB F2 g2, ⟨K1.1, State.isArrayOf_alike al K1.2.1, K1.2.2, by rcases hcod with ⟨-, q, -⟩ | ⟨-, q, -⟩ <;> omega⟩, hcod, fun j hj => by
    have e : cs.getD j 0 = cs[j] := by simp [List.getD_eq_getElem?_getD, hj]
    show ¬ cs.getD j 0 < 0 ∧ ¬ 65535 < cs.getD j 0
    rw [e]; exact hb _ (List.getElem_mem _)⟩
end StrChars.Road
namespace StrChars
open Jvm Sem ClassFile Op Lib Jvm.Stand Jvm.Free.XT Jvm.Free.ALB Jvm.Free.JM Jvm.Free
open Jvm.Lib.Cold (StaticIs)
namespace ChN
def yN : MethodName := ⟨"java/lang/String", "charAt", "(I)C"⟩
abbrev yB : ByteArray := jdk_42_method_56_code
theorem d0 : decode yB 0 = .ok (.aload_n 0, 1) := by decide +kernel
theorem d1 : decode yB 1 = .ok (.invokevirtual 492, 3) := by decide +kernel
theorem d4 : decode yB 4 = .ok (.ifCond (.eq) 12, 3) := by decide +kernel
theorem d7 : decode yB 7 = .ok (.aload_n 0, 1) := by decide +kernel
theorem d8 : decode yB 8 = .ok (.getfield 9, 3) := by decide +kernel
theorem d11 : decode yB 11 = .ok (.iload_n 1, 1) := by decide +kernel
theorem d12 : decode yB 12 = .ok (.invokestatic 495, 3) := by decide +kernel
theorem d15 : decode yB 15 = .ok (.ireturn, 1) := by decide +kernel
def site : List Cond := [.fieldLink "java/lang/String" 9 "java/lang/String" "value" "[B", IsL.tab, LChA.tab] ++ virtW "java/lang/String" 492 "java/lang/String" IsL.yN IsL.yN ++ staticW "java/lang/String" 495 LChA.yN
def tab : Cond := tabOf yN yB 2 (some .char) site
def P (x t : Addr) (V : Cell) (n : Nat) (f : Nat → Int32) (z : Int32) (fm : Value) (i : Nat) (args : Array Value) (s : State) : Prop := args = #[.ref x, .int (Int32.ofNat i)] ∧ Txt x t V 0 n f s ∧ i < n ∧ StaticIs s "java/lang/String" "COMPACT_STRINGS" "Z" (.int z) ∧ ¬ z = 0 ∧ StaticIs s "jdk/internal/util/Preconditions" "SIOOBE_FORMATTER" "Ljava/util/function/BiFunction;" fm ∧ fm.isRef = true
def E (f : Nat → Int32) (i : Nat) (r : Option Value) (s u : State) : Prop := XT.PureE (some (.int (f i))) r s u
/-- charAt(i) of a Latin-1 String of n chars, i < n: f i -/
theorem law (l : Launch) (x t : Addr) (V : Cell) (n : Nat) (f : Nat → Int32) (z : Int32) (fm : Value) (i : Nat) : Law l yN 2 1 3 40 yB 2 (some .char) site (P x t V n f z fm i) (E f i) [] 0 0 := by
  refine Law.of_walk (plainFor_of_name (by decide +kernel)) (by decide +kernel) (by decide +kernel) (by decide) (fun _ _ h => by rw [h.1]; rfl) (fun _ U U' hal hh h => ⟨h.1, h.2.1.mv hal hh, h.2.2.1, h.2.2.2.1.there hal hh, h.2.2.2.2.1, h.2.2.2.2.2.1.there hal hh, h.2.2.2.2.2.2⟩) (fun r U U' V V' h1 hal h2 h => XT.PureE.mv r U U' V V' h1 hal h2 h) ?_
  intro p e s m args below meth c s₁ X0 hexec hbytes hml hret hlk hnm hown hh0 W hP
  obtain ⟨rfl, hx, hi, s1, hz, s3, rf⟩ := hP
  have v31 := hx.2.2.2.1.2.2.2
  have hr := hx.2.2.2.2.2 i hi
  have hx0 := hx.mv X0.warmed.alike hh0
  have c1 : Steps p.tables e below (s₁.setTop (entryFrame m #[.ref x, .int (Int32.ofNat i)] 2)) (s₁.setTop (mkF m 1 #[.val (.ref x), .val (.int (Int32.ofNat i))] [.ref x])) := Steps.trans (entry rfl) (by
    show Steps p.tables e below (s₁.setTop (mkF m 0 #[.val (.ref x), .val (.int (Int32.ofNat i))] [])) _
    refine XS.aloadN X0.here hexec rfl (hb hbytes d0) rfl rfl ?_
    exact Steps.refl _)
  obtain ⟨v2, T2, X2, E2, g2⟩ := X0.callV hexec (IsL.law l x 0 z) hown (wks W (virtW "java/lang/String" 492 "java/lang/String" IsL.yN IsL.yN)) rfl (by decide) (wk W IsL.tab) (W := 0) (Nat.le_of_ble_eq_true rfl) (Nat.le_of_ble_eq_true rfl) (Nat.le_refl _) (Nat.le_refl _) (hx0.1.fc X0.warmed.alike) hx0.1.is (g := (mkF m 1 #[.val (.ref x), .val (.int (Int32.ofNat i))] [.ref x])) rfl (by rw [hml]; rfl) c1 (argsL := []) (rest := []) rfl rfl (by show 2 * 0 + 0 ≤ _; decide) (hb hbytes d1) (⟨rfl, hx0.2.2.1, hx.2.2.2.2.1.cd, s1.there X0.warmed.alike hh0, hz⟩)
  obtain ⟨rfl, q2⟩ := E2
  have hh2 := q2.trans hh0
  have hx2 := hx.mv X2.warmed.alike hh2
  obtain ⟨-, k1, k2⟩ | ⟨k0, -⟩ := hx.2.2.2.2.1
  · have c3 : Steps p.tables e below (s₁.setTop (entryFrame m #[.ref x, .int (Int32.ofNat i)] 2)) (T2.setTop (mkF m 8 #[.val (.ref x), .val (.int (Int32.ofNat i))] [.ref x])) := Steps.trans g2 (by
      refine XS.ifNo X2.here hexec rfl (hb hbytes d4) rfl (i0_eq_f (by decide)) ?_
      refine XS.aloadN X2.here hexec rfl (hb hbytes d7) rfl rfl ?_
      exact Steps.refl _)
    obtain ⟨T4, X4, q4, st4⟩ := X2.hget hexec hown (wk W (.fieldLink "java/lang/String" 9 "java/lang/String" "value" "[B")) hx2.2.1 (g := (mkF m 8 #[.val (.ref x), .val (.int (Int32.ofNat i))] [.ref x])) rfl (rest := []) rfl (hb hbytes d8)
    have hh4 := q4.trans hh2
    have c5 : Steps p.tables e below (s₁.setTop (entryFrame m #[.ref x, .int (Int32.ofNat i)] 2)) (T4.setTop (mkF m 12 #[.val (.ref x), .val (.int (Int32.ofNat i))] [.int (Int32.ofNat i), .ref t])) := (c3.trans (st4 _ (Steps.refl _))).trans (by
      refine XS.iloadN X4.here hexec rfl (hb hbytes d11) rfl ?_
      exact Steps.refl _)
    obtain ⟨v6, T6, X6, E6, g6⟩ := X4.callS hexec (LChA.law l t V i (lo8 (f i)) fm) hown (wks W (staticW "java/lang/String" 495 LChA.yN)) (wk W LChA.tab) (W := 0) (Nat.le_of_ble_eq_true rfl) (Nat.le_of_ble_eq_true rfl) (Nat.le_refl _) (Nat.le_refl _) (g := (mkF m 12 #[.val (.ref x), .val (.int (Int32.ofNat i))] [.int (Int32.ofNat i), .ref t])) rfl (by rw [hml]; rfl) c5 (argsL := [.ref t, .int (Int32.ofNat i)]) (rest := []) rfl rfl (by show 2 * 0 + 0 ≤ _; decide) (hb hbytes d12) (⟨rfl, hx.2.2.2.1.mv X4.warmed.alike hh4, (k2 i hi).1, s3.there X4.warmed.alike hh4, rf⟩)
    obtain ⟨rfl, q6⟩ := E6
    rw [chr8_lo8 hr.1 (k2 i hi).2] at g6
    exact ⟨T6, some (.int (f i)), _, _, _, X6, rfl, rfl, rfl, (fun h => by cases h), ⟨rfl, q6.trans hh4⟩, fun fs hl => Steps.trans g6 (X6.ireturnOut hexec hret (narrow_ch hr.1 hr.2) (Or.inr (Or.inr (Or.inr (Or.inl rfl)))) (hb hbytes d15) hl)⟩
  · exact absurd k0 (by decide)
theorem pays {l : Launch} {R : Room} {p : Program} {e : Env} {below : List Frame} {s : State} {sargs : Array Value} {len W : Nat} (x t : Addr) (V : Cell) (n : Nat) (f : Nat → Int32) (z : Int32) (fm : Value) (i : Nat) (htab : tab.before sargs s = true) (hfr : 4 ≤ R.frames) (hlo : W + 53 ≤ R.locals) :
    Back l R p e below s sargs yN len W (fun A₁ a₁ => A₁.cells + 0 ≤ R.cells ∧ A₁.slots + 0 ≤ R.slots ∧ P x t V n f z fm i a₁ A₁.U) (fun A₁ _ v₁ B₁ => E f i v₁ A₁.U B₁.U ∧ B₁.locs = A₁.locs ++ [] ∧ B₁.cells = A₁.cells + 0 ∧ B₁.slots = A₁.slots + 0) :=
  (law l x t V n f z fm i).pays htab hfr (by omega)
end ChN
end StrChars
namespace StrChars.Road
open Jvm Sem ClassFile Op Lib Jvm.Stand Jvm.Free Jvm.Free.XT
open Jvm.Lib.Cold (StaticIs)
/-- the words of String.charAt(int), the Latin-1 road alone -/
abbrev wordsChN : List Jvm.Cond := [.code ChN.yN ChN.yB 2 (some .char), .initialized ST, .fieldLink ST 9 ST "value" "[B", .fieldLink ST 38 ST "COMPACT_STRINGS" "Z", .fieldLink ST 15 ST "coder" "B", .code IsL.yN IsL.yB 1 (some .boolean), .methodLink ST 492 IsL.yN, .declares IsL.yN, .selects ST IsL.yN IsL.yN, .instanceMethod IsL.yN,
  .methodLink ST 495 LChA.yN, .static LChA.yN, .code LChA.yN LChA.yB 2 (some .char), .initialized "java/lang/StringLatin1", .methodLink "java/lang/StringLatin1" 9 JO.Str_checkIndex.yN, .static JO.Str_checkIndex.yN, .code JO.Str_checkIndex.yN JO.Str_checkIndex.yB 2 none,
  .fieldLink ST 1053 "jdk/internal/util/Preconditions" "SIOOBE_FORMATTER" "Ljava/util/function/BiFunction;", .methodLink ST 1059 JC.PreCheck.yN, .static JC.PreCheck.yN, .code JC.PreCheck.yN JC.PreCheck.yB 3 (some .int), .initialized "jdk/internal/util/Preconditions"]
theorem tabChN_of {a : Array Value} {s : State} (h : ∀ w ∈ wordsChN, w.before a s = true) : ChN.tab.before a s = true := by
  have hp : JC.PreCheck.tab.before a s = true := unparts (wk h (.code JC.PreCheck.yN JC.PreCheck.yB 3 (some .int))) (wks h (.initialized JC.PreCheck.yN.cls :: JC.PreCheck.site))
  have qk := consq hp h
  have hk : JO.Str_checkIndex.tab.before a s = true := unparts (wk qk (.code JO.Str_checkIndex.yN JO.Str_checkIndex.yB 2 none)) (wks qk (.initialized JO.Str_checkIndex.yN.cls :: JO.Str_checkIndex.site))
  have ql := consq hk h
  have hl : LChA.tab.before a s = true := unparts (wk ql (.code LChA.yN LChA.yB 2 (some .char))) (wks ql (.initialized LChA.yN.cls :: LChA.site))
  have hi : IsL.tab.before a s = true := unparts (wk h (.code IsL.yN IsL.yB 1 (some .boolean))) (wks h (.initialized IsL.yN.cls :: IsL.site))
  have q := consq hi (consq hl h)
  exact unparts (wk q (.code ChN.yN ChN.yB 2 (some .char))) (wks q (.initialized ChN.yN.cls :: ChN.site))
theorem movedChN {Z s : State} {a0 args : Array Value} (hZ : Z.Warmed39 s.vm) (hw : ∀ d ∈ wordsChN, d.before a0 Z = true) : ∀ d ∈ wordsChN, d.before args s = true := fun d hd => by
  have t : ∀ d ∈ wordsChN, (d.onTables && d.keepsFace) = true := by decide +kernel
  exact RoadKit.mv hZ (hw d hd) (t d hd)
/-- **charAt(i) OF A LATIN-1 STRING**, i < n: the char -/
theorem chN {p : Program} {l : Launch} {e : Env} {R : Room} {s : State} {args : Array Value} {below : List Frame} {len W : Nat} {Z : State} {a0 : Array Value} {h : Heap} (hZ : Z.Warmed39 s.vm) (hw : ∀ d ∈ wordsChN, d.before a0 Z = true) {kI : Nat} (wi : (Jvm.Cond.instantiable ST kI).before a0 Z = true)
    {x t : Addr} {kb : ClassId} {cs : List Int32} {N2 z : Int32} {vs : List Value} {fm : Value} {i : Nat} {j : Int32} (E : RoadKit.Exa Z h x ST) (V : RoadKit.Fld Z h x ST "value" "[B" (.ref t)) (C : RoadKit.Fld Z h x ST "coder" "B" (.int 0)) (K : RoadKit.Arv Z h t kb .byte N2 vs (.int 0)) (hc : CodA cs 0 N2 vs) (hb : ∀ c ∈ cs, ¬ c < 0 ∧ ¬ (65535 : Int32) < c)
    (S : RoadKit.Sta Z h ST "COMPACT_STRINGS" "Z" (.int z)) (hz : ¬ z = 0) (F : RoadKit.Sta Z h "jdk/internal/util/Preconditions" "SIOOBE_FORMATTER" "Ljava/util/function/BiFunction;" fm) (rf : fm.isRef = true) (l2 : cs.length ≤ 4000) (hi : i < cs.length) (hj : j = Int32.ofNat i) (hfr : 4 ≤ R.frames) (hlo : W + 53 ≤ R.locals) :
    Back l R p e below s args (⟨"java/lang/String", "charAt", "(I)C"⟩ : MethodName) len W (fun P a => a = #[.ref x, .int j] ∧ P.U.heap = h ∧ P.cells + 0 ≤ R.cells ∧ P.slots + 0 ≤ R.slots)
      (fun P _ v B => ∃ L, (v = some (.int (cs.getD i 0)) ∧ L = [] ∧ B.U.heap = h) ∧ B.locs = P.locs ++ L ∧ B.cells = P.cells + 0 ∧ B.slots = P.slots + 0) := by
  subst hj
  intro m meth c P g ig mk a X hg hsize hdg hW hn hp'
  obtain ⟨rfl, rfl, r1, r2⟩ := hp'
  have al : Z.vm.Alike P.U.vm := hZ.alike.trans X.warmed.alike
  obtain ⟨A, hx⟩ := txt_of wi al E V C K hc hb l2
  obtain ⟨v, B, X', ⟨⟨hv, hh⟩, hl, hk, hs⟩, st⟩ := ChN.pays x t A cs.length (fun j => cs.getD j 0) z fm i (tabChN_of (movedChN hZ hw)) hfr hlo m meth c P g ig mk _ X hg hsize hdg hW hn ⟨r1, r2, rfl, hx, hi, sta_is al S, hz, sta_is al F, rf⟩
  exact ⟨v, B, X', ⟨[], ⟨hv, rfl, hh⟩, hl, hk, hs⟩, st⟩
/-- what backV says of its String, as the contracts of this text ask it: cs's low bytes, coder 0 -/
theorem codOf {cs : List Int32} {n : Nat} (hn : cs.length = n) (hb : ∀ c ∈ cs, ¬ 255 < c) : CodA cs 0 (Int32.ofNat n) ((cs.map lo8).map Value.int) := Or.inl ⟨rfl, by rw [hn], by simp [List.map_map, Function.comp_def], hb⟩
end StrChars.Road
end Jvm.Pilot.@@N@@

namespace Jvm.Pilot.@@N@@
open Jvm Jvm.ClassFile Sem Op Lib Jvm.Free Jvm.Stand Jvm.LawKit Jvm.RoadKit Bundle Jvm.Pilot.@@N@@.Jvm.D

section OwnKit
variable {p : Program} {l : Launch} {e : Env} {R : Room} {s : State} {m : MethodId} {args : Array Value} {below : List Frame} {meth : Method} {c : Code} {T : State} {locs : List Loc} {cells slots : Nat}
/-- from A the invocation ends, and what it leaves is Q, within K cells and N slots -/
def OD (p : Program) (e : Env) (s : State) (below : List Frame) (Q : Option Value → Heap → List Loc → Prop) (K N : Nat) (A : State) : Prop :=
  ∃ s₂ o, Steps p.tables e below A s₂ ∧ s₂.status = .running ∧ Ended s₂ below o ∧ ∃ v L, o = .returned v ∧ Q v s₂.heap L ∧ FrameEnd s o s₂ L K N
theorem OD.go {Q : Option Value → Heap → List Loc → Prop} {K N : Nat} {A B : State} (h : ∀ t, Steps p.tables e below B t → Steps p.tables e below A t) (k : OD p e s below Q K N B) : OD p e s below Q K N A := by
  obtain ⟨s₂, o, h1, r⟩ := k
  exact ⟨s₂, o, h _ h1, r⟩
theorem OD.via {Q : Option Value → Heap → List Loc → Prop} {K N : Nat} {A B : State} (h : Steps p.tables e below A B) (k : OD p e s below Q K N B) : OD p e s below Q K N A := OD.go (fun _ q => h.trans q) k
theorem OD.cut {Q : Option Value → Heap → List Loc → Prop} {K N : Nat} {A B : State} (f : OD p e s below Q K N B → OD p e s below Q K N A) (g : OD p e s below Q K N B) : OD p e s below Q K N A := f g
theorem OD.cutA {Q : Option Value → Heap → List Loc → Prop} {K N : Nat} {A : State} {P : State → Prop} {B : State → State} (f : (∀ T, P T → OD p e s below Q K N (B T)) → OD p e s below Q K N A) (g : ∀ T, P T → OD p e s below Q K N (B T)) : OD p e s below Q K N A := f g
theorem OD.ret {Q : Option Value → Heap → List Loc → Prop} {K N : Nat} (X : Stand p l e R s m args below meth c T locs cells slots) (hx : p.tables.exec = Jvm.exec) (hlk : meth.locks = false) {pc : Nat} {Ls : Array Slot} {w : Value} {t : FieldType} {i : Instr} {rest : List Value} (hret : meth.sig.returnType = some t) (hn : narrow t w = w)
    (hi : (i = .ireturn ∧ (t = .int ∨ t = .boolean ∨ t = .byte ∨ t = .char ∨ t = .short) ∧ ∃ z, w = .int z) ∨ (i = .lreturn ∧ t = .long ∧ ∃ z, w = .long z) ∨ (i = .dreturn ∧ t = .double ∧ ∃ z, w = .double z) ∨ (i = .freturn ∧ t = .float ∧ ∃ z, w = .float z) ∨ (i = .areturn ∧ t.isReference = true ∧ w.isRef = true))
    (hd : decode c.code pc = .ok (i, 1)) (hk : cells ≤ K) (hs : slots ≤ N) (hQ : Q (some w) T.heap locs) : OD p e s below Q K N (T.setTop (mkF m pc Ls (w :: rest))) := by
  obtain ⟨fs, hr, hrun, hended, hW, hsame⟩ := X.leave (v := some w) (fun h => by rw [hret] at h; cases h) hlk
  exact ⟨_, _, retOut X hx hret hn hi hd hr, hrun, hended, _, _, rfl, hQ, ⟨_, rfl⟩, hW, hsame.mono hk hs⟩
theorem OD.retV {Q : Option Value → Heap → List Loc → Prop} {K N : Nat} (X : Stand p l e R s m args below meth c T locs cells slots) (hx : p.tables.exec = Jvm.exec) (hlk : meth.locks = false) {pc : Nat} {Ls : Array Slot} (hret : meth.sig.returnType = none)
    (hd : decode c.code pc = .ok (.return_, 1)) (hk : cells ≤ K) (hs : slots ≤ N) (hQ : Q none T.heap locs) : OD p e s below Q K N (T.setTop (mkF m pc Ls [])) := by
  obtain ⟨fs, hr, hrun, hended, hW, hsame⟩ := X.leave (v := none) (fun _ => rfl) hlk
  exact ⟨_, _, X.returnOut hx hret hd hr, hrun, hended, _, _, rfl, hQ, ⟨_, rfl⟩, hW, hsame.mono hk hs⟩
theorem own_len {Z : State} {h : Heap} {a : Addr} {k : ClassId} {ty : FieldType} {z : Int32} {vs : List Value} {dv : Value} (F : Arv Z h a k ty z vs dv) : ∃ cl : Cell, Arr Z h a cl ty ∧ cl.slots.size.toInt32 = z := by
  obtain ⟨cl, A, -, S, M, -⟩ := F
  exact ⟨cl, A, len_of S M⟩
theorem own_at {Z : State} {h : Heap} {a : Addr} {k : ClassId} {ty : FieldType} {z j : Int32} {vs : List Value} {dv v : Value} (F : Arv Z h a k ty z vs dv) (q : ¬ j < 0 ∧ j < z) (u : vs.getD j.toNatClampNeg dv = v) : ∃ cl : Cell, Arr Z h a cl ty ∧ ¬ (j < 0 ∨ cl.slots.size ≤ j.toNatClampNeg) ∧ cl.slots[j.toNatClampNeg]? = some v := by
  obtain ⟨cl, A, -, S, M, H, -⟩ := F
  exact ⟨cl, A, inb_of S q, H.at (inb_of S q) u⟩
end OwnKit
def own_pk (k b a s : Int32) : Int32 := if (((k.toUInt32 >>> (b &&& 31).toUInt32).toInt32) &&& (1 : Int32)) = (0 : Int32) then (((a.toUInt32 >>> (s &&& 31).toUInt32).toInt32) &&& (255 : Int32)) else (10 : Int32)
def own_nl (c : Int32) : Int32 := if c = (10 : Int32) then 1 else 0
def own_st (l c : Int32) : Int32 := if c = (10 : Int32) then l + (1 : Int32) else l
theorem own_b255 (x : Int32) : ¬ (x &&& 255) < 0 ∧ ¬ (255 : Int32) < (x &&& 255) := by
  have q := c_and x 255 (by decide)
  have e0 : (0 : Int32).toInt = 0 := rfl
  have e1 : (255 : Int32).toInt = 255 := rfl
  rw [Int32.lt_iff_toInt_lt, Int32.lt_iff_toInt_lt]
  omega
theorem own_pkb {k b a s u : Int32} (h : own_pk k b a s = u) : ¬ u < 0 ∧ ¬ (255 : Int32) < u := by
  subst h
  rw [own_pk]
  split
  · exact own_b255 _
  · decide
theorem own_mask {u : Int32} (h : ¬ u < 0 ∧ ¬ (255 : Int32) < u) : u &&& 255 = u := by
  have q := c_mask u 255 8 (by decide) (by decide)
  have e0 : (0 : Int32).toInt = 0 := rfl
  have e1 : (255 : Int32).toInt = 255 := rfl
  obtain ⟨h1, h2⟩ := h
  rw [Int32.lt_iff_toInt_lt] at h1 h2
  refine Int32.toInt_inj.mp ?_
  rw [q]
  omega
theorem own_nar {u : Int32} (h : ¬ u < 0 ∧ ¬ (255 : Int32) < u) : nar .char u = u := by
  have q := i2c_mask u
  rw [own_mask h] at q
  exact q
theorem own_all4 {a b c d : Int32} (h1 : ¬ a < 0 ∧ ¬ (255 : Int32) < a) (h2 : ¬ b < 0 ∧ ¬ (255 : Int32) < b) (h3 : ¬ c < 0 ∧ ¬ (255 : Int32) < c) (h4 : ¬ d < 0 ∧ ¬ (255 : Int32) < d) : ∀ x ∈ ([a, b, c, d] : List Int32), ¬ x < 0 ∧ ¬ (255 : Int32) < x := by
  intro x hx
  simp only [List.mem_cons, List.not_mem_nil, or_false] at hx
  rcases hx with rfl | rfl | rfl | rfl
  · exact h1
  · exact h2
  · exact h3
  · exact h4
theorem own_up {L : List Int32} (h : ∀ x ∈ L, ¬ x < 0 ∧ ¬ (255 : Int32) < x) : ∀ x ∈ L, ¬ x < 0 ∧ ¬ (65535 : Int32) < x := fun x hx => by
  obtain ⟨h1, h2⟩ := h x hx
  refine ⟨h1, ?_⟩
  have e1 : (255 : Int32).toInt = 255 := rfl
  have e2 : (65535 : Int32).toInt = 65535 := rfl
  rw [Int32.lt_iff_toInt_lt] at h2 ⊢
  omega
theorem own_stnl (l c : Int32) : own_st l c = l + own_nl c := by
  rw [own_st, own_nl]
  split
  · rfl
  · rw [Int32.add_zero]
theorem own_five {x u : Int32} (h : ((x &&& (2147483647 : Int32)) % (5 : Int32)) = u) : u = 0 ∨ u = 1 ∨ u = 2 ∨ u = 3 ∨ u = 4 := by
  have hx : 0 ≤ (x &&& (2147483647 : Int32)).toInt := (c_and x 2147483647 (by decide)).1
  have q := (c_irem (x &&& (2147483647 : Int32)) 5 5 rfl).1 hx
  rw [h] at q
  have k : u.toInt = 0 ∨ u.toInt = 1 ∨ u.toInt = 2 ∨ u.toInt = 3 ∨ u.toInt = 4 := by omega
  rcases k with k | k | k | k | k
  · exact Or.inl (Int32.toInt_inj.mp k)
  · exact Or.inr (Or.inl (Int32.toInt_inj.mp k))
  · exact Or.inr (Or.inr (Or.inl (Int32.toInt_inj.mp k)))
  · exact Or.inr (Or.inr (Or.inr (Or.inl (Int32.toInt_inj.mp k))))
  · exact Or.inr (Or.inr (Or.inr (Or.inr (Int32.toInt_inj.mp k))))
theorem ef0 (m : MethodId) (x0 : Int32) (x1 : Int32) (x2 : Int32) (x3 : Int32) : entryFrame m #[(.int x0), (.int x1), (.int x2), (.int x3)] 4 = mkF m 0 #[.val (.int x0), .val (.int x1), .val (.int x2), .val (.int x3)] [] := by first | (simp [entryFrame, mkF, argsToLocals, Value.category]; done) | rfl
theorem pn0 : plainName "com/example/querent/querent/trec/ElementLineAtPinLaw" = true := by first | (simp [plainName, overriddenIn]; done) | decide +kernel
theorem d1_0 : decode method_2_code 0 = .ok (.iload_n 0, 1) := by decide +kernel
theorem d1_1 : decode method_2_code 1 = .ok (.iload_n 1, 1) := by decide +kernel
theorem d1_2 : decode method_2_code 2 = .ok (.iushr, 1) := by decide +kernel
theorem d1_3 : decode method_2_code 3 = .ok (.iconst 1, 1) := by decide +kernel
theorem d1_4 : decode method_2_code 4 = .ok (.iand, 1) := by decide +kernel
theorem d1_5 : decode method_2_code 5 = .ok (.ifCond .eq 6, 3) := by decide +kernel
theorem d1_11 : decode method_2_code 11 = .ok (.iload_n 2, 1) := by decide +kernel
theorem d1_12 : decode method_2_code 12 = .ok (.iload_n 3, 1) := by decide +kernel
theorem d1_13 : decode method_2_code 13 = .ok (.iushr, 1) := by decide +kernel
theorem d1_14 : decode method_2_code 14 = .ok (.sipush 255, 3) := by decide +kernel
theorem d1_17 : decode method_2_code 17 = .ok (.iand, 1) := by decide +kernel
theorem d1_18 : decode method_2_code 18 = .ok (.i2c, 1) := by decide +kernel
theorem d1_19 : decode method_2_code 19 = .ok (.ireturn, 1) := by decide +kernel
theorem d1_8 : decode method_2_code 8 = .ok (.bipush 10, 2) := by decide +kernel
theorem d1_10 : decode method_2_code 10 = .ok (.ireturn, 1) := by decide +kernel
theorem ef1 (m : MethodId) (x0 : Int32) : entryFrame m #[(.int x0)] 1 = mkF m 0 #[.val (.int x0)] [] := by first | (simp [entryFrame, mkF, argsToLocals, Value.category]; done) | rfl
theorem d16_0 : decode method_3_code 0 = .ok (.iload_n 0, 1) := by decide +kernel
theorem d16_1 : decode method_3_code 1 = .ok (.bipush 10, 2) := by decide +kernel
theorem d16_3 : decode method_3_code 3 = .ok (.if_icmp .ne 5, 3) := by decide +kernel
theorem d16_6 : decode method_3_code 6 = .ok (.iconst 1, 1) := by decide +kernel
theorem d16_7 : decode method_3_code 7 = .ok (.ireturn, 1) := by decide +kernel
theorem d16_8 : decode method_3_code 8 = .ok (.iconst 0, 1) := by decide +kernel
theorem d16_9 : decode method_3_code 9 = .ok (.ireturn, 1) := by decide +kernel
theorem ef2 (m : MethodId) (x0 : Addr) : entryFrame m #[(.ref x0)] 1 = mkF m 0 #[.val (.ref x0)] [] := by first | (simp [entryFrame, mkF, argsToLocals, Value.category]; done) | rfl
theorem pn1 : plainName "java/lang/Record" = true := by first | (simp [plainName, overriddenIn]; done) | decide +kernel
theorem d9_0 : decode jdk_30_method_1_code 0 = .ok (.aload_n 0, 1) := by decide +kernel
theorem Wd46 {Z : State} {a0 : Array Value} (hw : ∀ d ∈ tables_1, d.before a0 Z = true) : ((Jvm.Cond.methodLink "java/lang/Record" (1 : Nat) ({ cls := "java/lang/Object", name := "<init>", desc := "()V" } : Jvm.MethodName)) : Jvm.Cond).before a0 Z = true := hw _ (List.mem_of_getElem? (i := 46) rfl)
theorem Wd16 {Z : State} {a0 : Array Value} (hw : ∀ d ∈ tables_1, d.before a0 Z = true) : ((Jvm.Cond.instanceMethod ({ cls := "java/lang/Object", name := "<init>", desc := "()V" } : Jvm.MethodName)) : Jvm.Cond).before a0 Z = true := hw _ (List.mem_of_getElem? (i := 16) rfl)
theorem Wd17 {Z : State} {a0 : Array Value} (hw : ∀ d ∈ tables_1, d.before a0 Z = true) : ((Jvm.Cond.code ({ cls := "java/lang/Object", name := "<init>", desc := "()V" } : Jvm.MethodName) object_method_1_code (1 : Nat) (Option.none : Option Jvm.ClassFile.FieldType)) : Jvm.Cond).before a0 Z = true := hw _ (List.mem_of_getElem? (i := 17) rfl)
theorem d9_1 : decode jdk_30_method_1_code 1 = .ok (.invokespecial 1, 3) := by decide +kernel
theorem d9_4 : decode jdk_30_method_1_code 4 = .ok (.return_, 1) := by decide +kernel
theorem ef3 (m : MethodId) (x0 : Addr) (x1 : Addr) (x2 : Int32) : entryFrame m #[(.ref x0), (.ref x1), (.int x2)] 3 = mkF m 0 #[.val (.ref x0), .val (.ref x1), .val (.int x2)] [] := by first | (simp [entryFrame, mkF, argsToLocals, Value.category]; done) | rfl
theorem pn2 : plainName "com/example/querent/querent/trec/ElementReader$Element" = true := by first | (simp [plainName, overriddenIn]; done) | decide +kernel
theorem d8_0 : decode prog_27_method_1_code 0 = .ok (.aload_n 0, 1) := by decide +kernel
theorem Wd41 {Z : State} {a0 : Array Value} (hw : ∀ d ∈ tables_1, d.before a0 Z = true) : ((Jvm.Cond.methodLink "com/example/querent/querent/trec/ElementReader$Element" (1 : Nat) ({ cls := "java/lang/Record", name := "<init>", desc := "()V" } : Jvm.MethodName)) : Jvm.Cond).before a0 Z = true := hw _ (List.mem_of_getElem? (i := 41) rfl)
theorem Wd45 {Z : State} {a0 : Array Value} (hw : ∀ d ∈ tables_1, d.before a0 Z = true) : ((Jvm.Cond.code ({ cls := "java/lang/Record", name := "<init>", desc := "()V" } : Jvm.MethodName) jdk_30_method_1_code (1 : Nat) (Option.none : Option Jvm.ClassFile.FieldType)) : Jvm.Cond).before a0 Z = true := hw _ (List.mem_of_getElem? (i := 45) rfl)
theorem Wd44 {Z : State} {a0 : Array Value} (hw : ∀ d ∈ tables_1, d.before a0 Z = true) : ((Jvm.Cond.initialized "java/lang/Record") : Jvm.Cond).before a0 Z = true := hw _ (List.mem_of_getElem? (i := 44) rfl)
theorem pd0 : parseMethodDescriptor "()V" = some ⟨[], none⟩ := by decide +kernel
theorem d8_1 : decode prog_27_method_1_code 1 = .ok (.invokespecial 1, 3) := by decide +kernel
theorem Wd42 {Z : State} {a0 : Array Value} (hw : ∀ d ∈ tables_1, d.before a0 Z = true) : ((Jvm.Cond.instanceMethod ({ cls := "java/lang/Record", name := "<init>", desc := "()V" } : Jvm.MethodName)) : Jvm.Cond).before a0 Z = true := hw _ (List.mem_of_getElem? (i := 42) rfl)
theorem d8_4 : decode prog_27_method_1_code 4 = .ok (.aload_n 0, 1) := by decide +kernel
theorem d8_5 : decode prog_27_method_1_code 5 = .ok (.aload_n 1, 1) := by decide +kernel
theorem d8_6 : decode prog_27_method_1_code 6 = .ok (.putfield 7, 3) := by decide +kernel
theorem Wd47 {Z : State} {a0 : Array Value} (hw : ∀ d ∈ tables_1, d.before a0 Z = true) : ((Jvm.Cond.fieldLink "com/example/querent/querent/trec/ElementReader$Element" (7 : Nat) "com/example/querent/querent/trec/ElementReader$Element" "body" "Ljava/lang/String;") : Jvm.Cond).before a0 Z = true := hw _ (List.mem_of_getElem? (i := 47) rfl)
theorem Wd48 {Z : State} {a0 : Array Value} (hw : ∀ d ∈ tables_1, d.before a0 Z = true) : ((Jvm.Cond.laysFinal "com/example/querent/querent/trec/ElementReader$Element" "com/example/querent/querent/trec/ElementReader$Element" "body" "Ljava/lang/String;") : Jvm.Cond).before a0 Z = true := hw _ (List.mem_of_getElem? (i := 48) rfl)
theorem Wd36 {Z : State} {a0 : Array Value} (hw : ∀ d ∈ tables_1, d.before a0 Z = true) : ((Jvm.Cond.instantiable "com/example/querent/querent/trec/ElementReader$Element" (2 : Nat)) : Jvm.Cond).before a0 Z = true := hw _ (List.mem_of_getElem? (i := 36) rfl)
theorem d8_9 : decode prog_27_method_1_code 9 = .ok (.aload_n 0, 1) := by decide +kernel
theorem d8_10 : decode prog_27_method_1_code 10 = .ok (.iload_n 2, 1) := by decide +kernel
theorem d8_11 : decode prog_27_method_1_code 11 = .ok (.putfield 13, 3) := by decide +kernel
theorem Wd49 {Z : State} {a0 : Array Value} (hw : ∀ d ∈ tables_1, d.before a0 Z = true) : ((Jvm.Cond.fieldLink "com/example/querent/querent/trec/ElementReader$Element" (13 : Nat) "com/example/querent/querent/trec/ElementReader$Element" "line" "I") : Jvm.Cond).before a0 Z = true := hw _ (List.mem_of_getElem? (i := 49) rfl)
theorem Wd50 {Z : State} {a0 : Array Value} (hw : ∀ d ∈ tables_1, d.before a0 Z = true) : ((Jvm.Cond.laysFinal "com/example/querent/querent/trec/ElementReader$Element" "com/example/querent/querent/trec/ElementReader$Element" "line" "I") : Jvm.Cond).before a0 Z = true := hw _ (List.mem_of_getElem? (i := 50) rfl)
theorem d8_14 : decode prog_27_method_1_code 14 = .ok (.return_, 1) := by decide +kernel
theorem ef4 (m : MethodId) (x0 : Addr) (x1 : Int32) : entryFrame m #[(.ref x0), (.int x1)] 4 = mkF m 0 #[.val (.ref x0), .val (.int x1), .unset, .unset] [] := by first | (simp [entryFrame, mkF, argsToLocals, Value.category]; done) | rfl
theorem d10_0 : decode prog_27_method_2_code 0 = .ok (.aload_n 0, 1) := by decide +kernel
theorem d10_1 : decode prog_27_method_2_code 1 = .ok (.getfield 13, 3) := by decide +kernel
theorem d10_4 : decode prog_27_method_2_code 4 = .ok (.istore_n 2, 1) := by decide +kernel
theorem d10_5 : decode prog_27_method_2_code 5 = .ok (.iconst 0, 1) := by decide +kernel
theorem d10_6 : decode prog_27_method_2_code 6 = .ok (.istore_n 3, 1) := by decide +kernel
theorem d10_7 : decode prog_27_method_2_code 7 = .ok (.iload_n 3, 1) := by decide +kernel
theorem d10_8 : decode prog_27_method_2_code 8 = .ok (.iload_n 1, 1) := by decide +kernel
theorem d10_9 : decode prog_27_method_2_code 9 = .ok (.if_icmp .ge 25, 3) := by decide +kernel
theorem d10_34 : decode prog_27_method_2_code 34 = .ok (.iload_n 2, 1) := by decide +kernel
theorem d10_35 : decode prog_27_method_2_code 35 = .ok (.ireturn, 1) := by decide +kernel
theorem d10_12 : decode prog_27_method_2_code 12 = .ok (.aload_n 0, 1) := by decide +kernel
theorem d10_13 : decode prog_27_method_2_code 13 = .ok (.getfield 7, 3) := by decide +kernel
theorem d10_16 : decode prog_27_method_2_code 16 = .ok (.iload_n 3, 1) := by decide +kernel
theorem Wd56 {Z : State} {a0 : Array Value} (hw : ∀ d ∈ tables_1, d.before a0 Z = true) : ((Jvm.Cond.methodLink "com/example/querent/querent/trec/ElementReader$Element" (17 : Nat) ({ cls := "java/lang/String", name := "charAt", desc := "(I)C" } : Jvm.MethodName)) : Jvm.Cond).before a0 Z = true := hw _ (List.mem_of_getElem? (i := 56) rfl)
theorem Wd59 {Z : State} {a0 : Array Value} (hw : ∀ d ∈ tables_1, d.before a0 Z = true) : ((Jvm.Cond.selects "java/lang/String" ({ cls := "java/lang/String", name := "charAt", desc := "(I)C" } : Jvm.MethodName) ({ cls := "java/lang/String", name := "charAt", desc := "(I)C" } : Jvm.MethodName)) : Jvm.Cond).before a0 Z = true := hw _ (List.mem_of_getElem? (i := 59) rfl)
theorem Wd60 {Z : State} {a0 : Array Value} (hw : ∀ d ∈ tables_1, d.before a0 Z = true) : ((Jvm.Cond.code ({ cls := "java/lang/String", name := "charAt", desc := "(I)C" } : Jvm.MethodName) jdk_42_method_56_code (2 : Nat) (Option.some Jvm.ClassFile.FieldType.char)) : Jvm.Cond).before a0 Z = true := hw _ (List.mem_of_getElem? (i := 60) rfl)
theorem Wd6 {Z : State} {a0 : Array Value} (hw : ∀ d ∈ tables_1, d.before a0 Z = true) : ((Jvm.Cond.instantiable "java/lang/String" (4 : Nat)) : Jvm.Cond).before a0 Z = true := hw _ (List.mem_of_getElem? (i := 6) rfl)
theorem Wd7 {Z : State} {a0 : Array Value} (hw : ∀ d ∈ tables_1, d.before a0 Z = true) : ((Jvm.Cond.initialized "java/lang/String") : Jvm.Cond).before a0 Z = true := hw _ (List.mem_of_getElem? (i := 7) rfl)
theorem pd1 : parseMethodDescriptor "(I)C" = some ⟨[.int], some .char⟩ := by decide +kernel
theorem d10_17 : decode prog_27_method_2_code 17 = .ok (.invokevirtual 17, 3) := by decide +kernel
theorem Wd57 {Z : State} {a0 : Array Value} (hw : ∀ d ∈ tables_1, d.before a0 Z = true) : ((Jvm.Cond.declares ({ cls := "java/lang/String", name := "charAt", desc := "(I)C" } : Jvm.MethodName)) : Jvm.Cond).before a0 Z = true := hw _ (List.mem_of_getElem? (i := 57) rfl)
theorem Wd58 {Z : State} {a0 : Array Value} (hw : ∀ d ∈ tables_1, d.before a0 Z = true) : ((Jvm.Cond.instanceMethod ({ cls := "java/lang/String", name := "charAt", desc := "(I)C" } : Jvm.MethodName)) : Jvm.Cond).before a0 Z = true := hw _ (List.mem_of_getElem? (i := 58) rfl)
theorem d10_20 : decode prog_27_method_2_code 20 = .ok (.bipush 10, 2) := by decide +kernel
theorem d10_22 : decode prog_27_method_2_code 22 = .ok (.if_icmp .ne 6, 3) := by decide +kernel
theorem d10_25 : decode prog_27_method_2_code 25 = .ok (.iinc 2 1, 3) := by decide +kernel
theorem d10_28 : decode prog_27_method_2_code 28 = .ok (.iinc 3 1, 3) := by decide +kernel
theorem d10_31 : decode prog_27_method_2_code 31 = .ok (.goto (-24), 3) := by decide +kernel
theorem ef5 (m : MethodId) (x0 : Int32) (x1 : Int32) (x2 : Int32) (x3 : Int32) : entryFrame m #[(.int x0), (.int x1), (.int x2), (.int x3)] maxLocals = mkF m 0 #[.val (.int x0), .val (.int x1), .val (.int x2), .val (.int x3), .unset, .unset, .unset, .unset, .unset, .unset, .unset, .unset, .unset, .unset, .unset] [] := by first | (simp [entryFrame, mkF, argsToLocals, Value.category, maxLocals]; done) | rfl
theorem Wd0 {Z : State} {a0 : Array Value} (hw : ∀ d ∈ tables_1, d.before a0 Z = true) : ((Jvm.Cond.methodLink "com/example/querent/querent/trec/ElementLineAtPinLaw" (7 : Nat) ({ cls := "com/example/querent/querent/trec/ElementLineAtPinLaw", name := "pick", desc := "(IIII)C" } : Jvm.MethodName)) : Jvm.Cond).before a0 Z = true := hw _ (List.mem_of_getElem? (i := 0) rfl)
theorem Wd3 {Z : State} {a0 : Array Value} (hw : ∀ d ∈ tables_1, d.before a0 Z = true) : ((Jvm.Cond.code ({ cls := "com/example/querent/querent/trec/ElementLineAtPinLaw", name := "pick", desc := "(IIII)C" } : Jvm.MethodName) method_2_code (4 : Nat) (Option.some Jvm.ClassFile.FieldType.char)) : Jvm.Cond).before a0 Z = true := hw _ (List.mem_of_getElem? (i := 3) rfl)
theorem Wd2 {Z : State} {a0 : Array Value} (hw : ∀ d ∈ tables_1, d.before a0 Z = true) : ((Jvm.Cond.initialized "com/example/querent/querent/trec/ElementLineAtPinLaw") : Jvm.Cond).before a0 Z = true := hw _ (List.mem_of_getElem? (i := 2) rfl)
theorem pd2 : parseMethodDescriptor "(IIII)C" = some ⟨[.int, .int, .int, .int], some .char⟩ := by decide +kernel
theorem Wd1 {Z : State} {a0 : Array Value} (hw : ∀ d ∈ tables_1, d.before a0 Z = true) : ((Jvm.Cond.static ({ cls := "com/example/querent/querent/trec/ElementLineAtPinLaw", name := "pick", desc := "(IIII)C" } : Jvm.MethodName)) : Jvm.Cond).before a0 Z = true := hw _ (List.mem_of_getElem? (i := 1) rfl)
theorem Wd4 {Z : State} {a0 : Array Value} (hw : ∀ d ∈ tables_1, d.before a0 Z = true) : ((Jvm.Cond.arrayClass Jvm.ClassFile.FieldType.char) : Jvm.Cond).before a0 Z = true := hw _ (List.mem_of_getElem? (i := 4) rfl)
theorem Wd5 {Z : State} {a0 : Array Value} (hw : ∀ d ∈ tables_1, d.before a0 Z = true) : ((Jvm.Cond.classLink "com/example/querent/querent/trec/ElementLineAtPinLaw" (13 : Nat) "java/lang/String") : Jvm.Cond).before a0 Z = true := hw _ (List.mem_of_getElem? (i := 5) rfl)
theorem Wd31 {Z : State} {a0 : Array Value} (hw : ∀ d ∈ tables_1, d.before a0 Z = true) : ((Jvm.Cond.laysFinal "java/lang/String" "java/lang/String" "coder" "B") : Jvm.Cond).before a0 Z = true := hw _ (List.mem_of_getElem? (i := 31) rfl)
theorem Wd33 {Z : State} {a0 : Array Value} (hw : ∀ d ∈ tables_1, d.before a0 Z = true) : ((Jvm.Cond.laysFinal "java/lang/String" "java/lang/String" "value" "[B") : Jvm.Cond).before a0 Z = true := hw _ (List.mem_of_getElem? (i := 33) rfl)
theorem Wd8 {Z : State} {a0 : Array Value} (hw : ∀ d ∈ tables_1, d.before a0 Z = true) : ((Jvm.Cond.methodLink "com/example/querent/querent/trec/ElementLineAtPinLaw" (15 : Nat) ({ cls := "java/lang/String", name := "<init>", desc := "([C)V" } : Jvm.MethodName)) : Jvm.Cond).before a0 Z = true := hw _ (List.mem_of_getElem? (i := 8) rfl)
theorem Wd10 {Z : State} {a0 : Array Value} (hw : ∀ d ∈ tables_1, d.before a0 Z = true) : ((Jvm.Cond.code ({ cls := "java/lang/String", name := "<init>", desc := "([C)V" } : Jvm.MethodName) jdk_42_method_3_code (2 : Nat) (Option.none : Option Jvm.ClassFile.FieldType)) : Jvm.Cond).before a0 Z = true := hw _ (List.mem_of_getElem? (i := 10) rfl)
theorem pd3 : parseMethodDescriptor "([C)V" = some ⟨[(.array .char)], none⟩ := by decide +kernel
theorem Wd9 {Z : State} {a0 : Array Value} (hw : ∀ d ∈ tables_1, d.before a0 Z = true) : ((Jvm.Cond.instanceMethod ({ cls := "java/lang/String", name := "<init>", desc := "([C)V" } : Jvm.MethodName)) : Jvm.Cond).before a0 Z = true := hw _ (List.mem_of_getElem? (i := 9) rfl)
theorem Wd34 {Z : State} {a0 : Array Value} (hw : ∀ d ∈ tables_1, d.before a0 Z = true) : ((Jvm.Cond.constant "com/example/querent/querent/trec/ElementLineAtPinLaw" (18 : Nat) (2147483647 : Int32)) : Jvm.Cond).before a0 Z = true := hw _ (List.mem_of_getElem? (i := 34) rfl)
theorem Wd35 {Z : State} {a0 : Array Value} (hw : ∀ d ∈ tables_1, d.before a0 Z = true) : ((Jvm.Cond.classLink "com/example/querent/querent/trec/ElementLineAtPinLaw" (19 : Nat) "com/example/querent/querent/trec/ElementReader$Element") : Jvm.Cond).before a0 Z = true := hw _ (List.mem_of_getElem? (i := 35) rfl)
theorem Wd37 {Z : State} {a0 : Array Value} (hw : ∀ d ∈ tables_1, d.before a0 Z = true) : ((Jvm.Cond.initialized "com/example/querent/querent/trec/ElementReader$Element") : Jvm.Cond).before a0 Z = true := hw _ (List.mem_of_getElem? (i := 37) rfl)
theorem Wd38 {Z : State} {a0 : Array Value} (hw : ∀ d ∈ tables_1, d.before a0 Z = true) : ((Jvm.Cond.methodLink "com/example/querent/querent/trec/ElementLineAtPinLaw" (21 : Nat) ({ cls := "com/example/querent/querent/trec/ElementReader$Element", name := "<init>", desc := "(Ljava/lang/String;I)V" } : Jvm.MethodName)) : Jvm.Cond).before a0 Z = true := hw _ (List.mem_of_getElem? (i := 38) rfl)
theorem Wd40 {Z : State} {a0 : Array Value} (hw : ∀ d ∈ tables_1, d.before a0 Z = true) : ((Jvm.Cond.code ({ cls := "com/example/querent/querent/trec/ElementReader$Element", name := "<init>", desc := "(Ljava/lang/String;I)V" } : Jvm.MethodName) prog_27_method_1_code (3 : Nat) (Option.none : Option Jvm.ClassFile.FieldType)) : Jvm.Cond).before a0 Z = true := hw _ (List.mem_of_getElem? (i := 40) rfl)
theorem pd4 : parseMethodDescriptor "(Ljava/lang/String;I)V" = some ⟨[(.object "java/lang/String"), .int], none⟩ := by decide +kernel
theorem Wd39 {Z : State} {a0 : Array Value} (hw : ∀ d ∈ tables_1, d.before a0 Z = true) : ((Jvm.Cond.instanceMethod ({ cls := "com/example/querent/querent/trec/ElementReader$Element", name := "<init>", desc := "(Ljava/lang/String;I)V" } : Jvm.MethodName)) : Jvm.Cond).before a0 Z = true := hw _ (List.mem_of_getElem? (i := 39) rfl)
theorem Wd51 {Z : State} {a0 : Array Value} (hw : ∀ d ∈ tables_1, d.before a0 Z = true) : ((Jvm.Cond.methodLink "com/example/querent/querent/trec/ElementLineAtPinLaw" (24 : Nat) ({ cls := "com/example/querent/querent/trec/ElementReader$Element", name := "lineAt", desc := "(I)I" } : Jvm.MethodName)) : Jvm.Cond).before a0 Z = true := hw _ (List.mem_of_getElem? (i := 51) rfl)
theorem Wd54 {Z : State} {a0 : Array Value} (hw : ∀ d ∈ tables_1, d.before a0 Z = true) : ((Jvm.Cond.selects "com/example/querent/querent/trec/ElementReader$Element" ({ cls := "com/example/querent/querent/trec/ElementReader$Element", name := "lineAt", desc := "(I)I" } : Jvm.MethodName) ({ cls := "com/example/querent/querent/trec/ElementReader$Element", name := "lineAt", desc := "(I)I" } : Jvm.MethodName)) : Jvm.Cond).before a0 Z = true := hw _ (List.mem_of_getElem? (i := 54) rfl)
theorem Wd55 {Z : State} {a0 : Array Value} (hw : ∀ d ∈ tables_1, d.before a0 Z = true) : ((Jvm.Cond.code ({ cls := "com/example/querent/querent/trec/ElementReader$Element", name := "lineAt", desc := "(I)I" } : Jvm.MethodName) prog_27_method_2_code (4 : Nat) (Option.some Jvm.ClassFile.FieldType.int)) : Jvm.Cond).before a0 Z = true := hw _ (List.mem_of_getElem? (i := 55) rfl)
theorem pd5 : parseMethodDescriptor "(I)I" = some ⟨[.int], some .int⟩ := by decide +kernel
theorem Wd52 {Z : State} {a0 : Array Value} (hw : ∀ d ∈ tables_1, d.before a0 Z = true) : ((Jvm.Cond.declares ({ cls := "com/example/querent/querent/trec/ElementReader$Element", name := "lineAt", desc := "(I)I" } : Jvm.MethodName)) : Jvm.Cond).before a0 Z = true := hw _ (List.mem_of_getElem? (i := 52) rfl)
theorem Wd53 {Z : State} {a0 : Array Value} (hw : ∀ d ∈ tables_1, d.before a0 Z = true) : ((Jvm.Cond.instanceMethod ({ cls := "com/example/querent/querent/trec/ElementReader$Element", name := "lineAt", desc := "(I)I" } : Jvm.MethodName)) : Jvm.Cond).before a0 Z = true := hw _ (List.mem_of_getElem? (i := 53) rfl)
theorem Wd78 {Z : State} {a0 : Array Value} (hw : ∀ d ∈ tables_1, d.before a0 Z = true) : ((Jvm.Cond.methodLink "com/example/querent/querent/trec/ElementLineAtPinLaw" (28 : Nat) ({ cls := "com/example/querent/querent/trec/ElementLineAtPinLaw", name := "nl", desc := "(C)I" } : Jvm.MethodName)) : Jvm.Cond).before a0 Z = true := hw _ (List.mem_of_getElem? (i := 78) rfl)
theorem Wd80 {Z : State} {a0 : Array Value} (hw : ∀ d ∈ tables_1, d.before a0 Z = true) : ((Jvm.Cond.code ({ cls := "com/example/querent/querent/trec/ElementLineAtPinLaw", name := "nl", desc := "(C)I" } : Jvm.MethodName) method_3_code (1 : Nat) (Option.some Jvm.ClassFile.FieldType.int)) : Jvm.Cond).before a0 Z = true := hw _ (List.mem_of_getElem? (i := 80) rfl)
theorem pd6 : parseMethodDescriptor "(C)I" = some ⟨[.char], some .int⟩ := by decide +kernel
theorem Wd79 {Z : State} {a0 : Array Value} (hw : ∀ d ∈ tables_1, d.before a0 Z = true) : ((Jvm.Cond.static ({ cls := "com/example/querent/querent/trec/ElementLineAtPinLaw", name := "nl", desc := "(C)I" } : Jvm.MethodName)) : Jvm.Cond).before a0 Z = true := hw _ (List.mem_of_getElem? (i := 79) rfl)
def Q_rmP (Z : State) (x0 : Int32) (x1 : Int32) (x2 : Int32) (x3 : Int32) (h0 : Heap) (v : Option Value) (h : Heap) (L : List Loc) : Prop := v = some (.int (own_pk x0 x1 x2 x3)) ∧ L = [] ∧ h = h0
set_option maxRecDepth 65536 in
set_option maxHeartbeats 40000000 in
theorem rmP (l : Launch) (Z : State) (a0 : Array Value) (hw : ∀ d ∈ tables_1, d.before a0 Z = true) (ws : List Jvm.Cond) (x0 : Int32) (x1 : Int32) (x2 : Int32) (x3 : Int32) (h0 : Heap)  :
    MetFree l (⟨"com/example/querent/querent/trec/ElementLineAtPinLaw", "pick", "(IIII)C"⟩ : MethodName) (head1 (Jvm.Cond.code (⟨"com/example/querent/querent/trec/ElementLineAtPinLaw", "pick", "(IIII)C"⟩ : MethodName) method_2_code 4 (some .char) :: ws) ({ frames := 0, cells := 0, slots := 0, locals := 0 } : Room)) (fun a U => a = #[(.int x0), (.int x1), (.int x2), (.int x3)] ∧ Z.Warmed39 U.vm ∧ U.heap = h0) (fun _ _ _ _ _ => True) (fun _ U o U' => ∃ v L, o = .returned v ∧ Q_rmP Z x0 x1 x2 x3 h0 v U'.heap L ∧ FrameEnd U o U' L ({ frames := 0, cells := 0, slots := 0, locals := 0 } : Room).cells ({ frames := 0, cells := 0, slots := 0, locals := 0 } : Room).slots) := by
  refine MetFree.of_bodySF (plainFor_of_name pn0) hisR ?_
  intro p e s m args below meth c s₁ Bd hml0 hP hK
  obtain ⟨rfl, hZ, hh⟩ := hP
  have hx := Bd.exec
  have hby := Bd.bytes
  have hlk : meth.locks = false := Bd.notSynchronized
  have hml : c.maxLocals = 4 := hml0
  have hown : s.vm.findClass "com/example/querent/querent/trec/ElementLineAtPinLaw" = some m.cls := findClass_of_methodNamed Bd.named
  have hnm := (name_of_methodNamed Bd.named Bd.method).1
  have X0 : Stand p l e ({ frames := 0, cells := 0, slots := 0, locals := 0 } : Room) s m #[(.int x0), (.int x1), (.int x2), (.int x3)] below meth c s₁ [] 0 0 := Stand.of_body Bd
  have e0 : s₁.heap = h0 := by rw [← hh, Bd.state]; rfl
  suffices hgo : OD p e s below (Q_rmP Z x0 x1 x2 x3 h0) ({ frames := 0, cells := 0, slots := 0, locals := 0 } : Room).cells ({ frames := 0, cells := 0, slots := 0, locals := 0 } : Room).slots (s₁.setTop (mkF m 0 #[.val (.int x0), .val (.int x1), .val (.int x2), .val (.int x3)] [])) by
    obtain ⟨s₂, o, q1, q2⟩ := hgo
    exact ⟨s₂, o, castTop (ef0 m x0 x1 x2 x3) q1, q2⟩
  refine OD.go (B := (s₁.setTop (mkF m 1 #[.val (.int x0), .val (.int x1), .val (.int x2), .val (.int x3)] [(.int x0)]))) (fun t k => XS.iloadN X0.here hx rfl (hb hby d1_0) rfl k) ?_
  refine OD.go (B := (s₁.setTop (mkF m 2 #[.val (.int x0), .val (.int x1), .val (.int x2), .val (.int x3)] [(.int x1), (.int x0)]))) (fun t k => XS.iloadN X0.here hx rfl (hb hby d1_1) rfl k) ?_
  refine OD.go (B := (s₁.setTop (mkF m 3 #[.val (.int x0), .val (.int x1), .val (.int x2), .val (.int x3)] [(.int ((x0.toUInt32 >>> (x1 &&& 31).toUInt32).toInt32))]))) (fun t k => XS.iushr X0.here hx rfl (hb hby d1_2) rfl k) ?_
  refine OD.go (B := (s₁.setTop (mkF m 4 #[.val (.int x0), .val (.int x1), .val (.int x2), .val (.int x3)] [(.int (1 : Int32)), (.int ((x0.toUInt32 >>> (x1 &&& 31).toUInt32).toInt32))]))) (fun t k => XS.iconst X0.here hx rfl (hb hby d1_3) k) ?_
  refine OD.go (B := (s₁.setTop (mkF m 5 #[.val (.int x0), .val (.int x1), .val (.int x2), .val (.int x3)] [(.int (((x0.toUInt32 >>> (x1 &&& 31).toUInt32).toInt32) &&& (1 : Int32)))]))) (fun t k => XS.iand X0.here hx rfl (hb hby d1_4) rfl k) ?_
  by_cases c5_1 : (((x0.toUInt32 >>> (x1 &&& 31).toUInt32).toInt32) &&& (1 : Int32)) = (0 : Int32)
  · refine OD.go (B := (s₁.setTop (mkF m 11 #[.val (.int x0), .val (.int x1), .val (.int x2), .val (.int x3)] []))) (fun t k => XS.ifYes X0.here hx rfl (pc0 := 5) (pc' := 11) rfl (hb hby d1_5) rfl (by rw [if0]; exact (teq c5_1).1) (by decide) (by decide) k) ?_
    refine OD.go (B := (s₁.setTop (mkF m 12 #[.val (.int x0), .val (.int x1), .val (.int x2), .val (.int x3)] [(.int x2)]))) (fun t k => XS.iloadN X0.here hx rfl (hb hby d1_11) rfl k) ?_
    refine OD.go (B := (s₁.setTop (mkF m 13 #[.val (.int x0), .val (.int x1), .val (.int x2), .val (.int x3)] [(.int x3), (.int x2)]))) (fun t k => XS.iloadN X0.here hx rfl (hb hby d1_12) rfl k) ?_
    refine OD.go (B := (s₁.setTop (mkF m 14 #[.val (.int x0), .val (.int x1), .val (.int x2), .val (.int x3)] [(.int ((x2.toUInt32 >>> (x3 &&& 31).toUInt32).toInt32))]))) (fun t k => XS.iushr X0.here hx rfl (hb hby d1_13) rfl k) ?_
    refine OD.go (B := (s₁.setTop (mkF m 17 #[.val (.int x0), .val (.int x1), .val (.int x2), .val (.int x3)] [(.int (255 : Int32)), (.int ((x2.toUInt32 >>> (x3 &&& 31).toUInt32).toInt32))]))) (fun t k => XS.sipush X0.here hx rfl (hb hby d1_14) k) ?_
    refine OD.go (B := (s₁.setTop (mkF m 18 #[.val (.int x0), .val (.int x1), .val (.int x2), .val (.int x3)] [(.int (((x2.toUInt32 >>> (x3 &&& 31).toUInt32).toInt32) &&& (255 : Int32)))]))) (fun t k => XS.iand X0.here hx rfl (hb hby d1_17) rfl k) ?_
    refine OD.go (B := (s₁.setTop (mkF m 19 #[.val (.int x0), .val (.int x1), .val (.int x2), .val (.int x3)] [(.int (((x2.toUInt32 >>> (x3 &&& 31).toUInt32).toInt32) &&& (255 : Int32)).toUInt32.toUInt16.toUInt32.toInt32)]))) (fun t k => XS.i2c X0.here hx rfl (hb hby d1_18) rfl k) ?_
    rw [i2c_mask]
    exact OD.ret X0 hx hlk (t := .char) Bd.returns (congrArg Value.int (i2c_mask _)) (Or.inl ⟨rfl, Or.inr (Or.inr (Or.inr (Or.inl rfl))), _, rfl⟩) (hb hby d1_19) (Nat.le_of_ble_eq_true rfl) (Nat.le_of_ble_eq_true rfl) ⟨(show some (Value.int (((x2.toUInt32 >>> (x3 &&& 31).toUInt32).toInt32) &&& (255 : Int32))) = some (Value.int (own_pk x0 x1 x2 x3)) from by rw [own_pk, if_pos c5_1]), rfl, e0⟩
  · refine OD.go (B := (s₁.setTop (mkF m 8 #[.val (.int x0), .val (.int x1), .val (.int x2), .val (.int x3)] []))) (fun t k => XS.ifNo X0.here hx rfl (hb hby d1_5) rfl (by rw [if0]; exact (feq c5_1).1) k) ?_
    refine OD.go (B := (s₁.setTop (mkF m 10 #[.val (.int x0), .val (.int x1), .val (.int x2), .val (.int x3)] [(.int (10 : Int32))]))) (fun t k => XS.bipush X0.here hx rfl (hb hby d1_8) k) ?_
    exact OD.ret X0 hx hlk (t := .char) Bd.returns rfl (Or.inl ⟨rfl, Or.inr (Or.inr (Or.inr (Or.inl rfl))), _, rfl⟩) (hb hby d1_10) (Nat.le_of_ble_eq_true rfl) (Nat.le_of_ble_eq_true rfl) ⟨(show some (Value.int (10 : Int32)) = some (Value.int (own_pk x0 x1 x2 x3)) from by rw [own_pk, if_neg c5_1]), rfl, e0⟩
def Q_rmN (Z : State) (x0 : Int32) (h0 : Heap) (v : Option Value) (h : Heap) (L : List Loc) : Prop := v = some (.int (own_nl x0)) ∧ L = [] ∧ h = h0
set_option maxRecDepth 65536 in
set_option maxHeartbeats 40000000 in
theorem rmN (l : Launch) (Z : State) (a0 : Array Value) (hw : ∀ d ∈ tables_1, d.before a0 Z = true) (ws : List Jvm.Cond) (x0 : Int32) (h0 : Heap)  :
    MetFree l (⟨"com/example/querent/querent/trec/ElementLineAtPinLaw", "nl", "(C)I"⟩ : MethodName) (head1 (Jvm.Cond.code (⟨"com/example/querent/querent/trec/ElementLineAtPinLaw", "nl", "(C)I"⟩ : MethodName) method_3_code 1 (some .int) :: ws) ({ frames := 0, cells := 0, slots := 0, locals := 0 } : Room)) (fun a U => a = #[(.int x0)] ∧ Z.Warmed39 U.vm ∧ U.heap = h0) (fun _ _ _ _ _ => True) (fun _ U o U' => ∃ v L, o = .returned v ∧ Q_rmN Z x0 h0 v U'.heap L ∧ FrameEnd U o U' L ({ frames := 0, cells := 0, slots := 0, locals := 0 } : Room).cells ({ frames := 0, cells := 0, slots := 0, locals := 0 } : Room).slots) := by
  refine MetFree.of_bodySF (plainFor_of_name pn0) hisR ?_
  intro p e s m args below meth c s₁ Bd hml0 hP hK
  obtain ⟨rfl, hZ, hh⟩ := hP
  have hx := Bd.exec
  have hby := Bd.bytes
  have hlk : meth.locks = false := Bd.notSynchronized
  have hml : c.maxLocals = 1 := hml0
  have hown : s.vm.findClass "com/example/querent/querent/trec/ElementLineAtPinLaw" = some m.cls := findClass_of_methodNamed Bd.named
  have hnm := (name_of_methodNamed Bd.named Bd.method).1
  have X0 : Stand p l e ({ frames := 0, cells := 0, slots := 0, locals := 0 } : Room) s m #[(.int x0)] below meth c s₁ [] 0 0 := Stand.of_body Bd
  have e0 : s₁.heap = h0 := by rw [← hh, Bd.state]; rfl
  suffices hgo : OD p e s below (Q_rmN Z x0 h0) ({ frames := 0, cells := 0, slots := 0, locals := 0 } : Room).cells ({ frames := 0, cells := 0, slots := 0, locals := 0 } : Room).slots (s₁.setTop (mkF m 0 #[.val (.int x0)] [])) by
    obtain ⟨s₂, o, q1, q2⟩ := hgo
    exact ⟨s₂, o, castTop (ef1 m x0) q1, q2⟩
  refine OD.go (B := (s₁.setTop (mkF m 1 #[.val (.int x0)] [(.int x0)]))) (fun t k => XS.iloadN X0.here hx rfl (hb hby d16_0) rfl k) ?_
  refine OD.go (B := (s₁.setTop (mkF m 3 #[.val (.int x0)] [(.int (10 : Int32)), (.int x0)]))) (fun t k => XS.bipush X0.here hx rfl (hb hby d16_1) k) ?_
  by_cases c3_1 : x0 = (10 : Int32)
  · refine OD.go (B := (s₁.setTop (mkF m 6 #[.val (.int x0)] []))) (fun t k => XS.icmpNo X0.here hx rfl (hb hby d16_3) rfl (teq c3_1).2 k) ?_
    refine OD.go (B := (s₁.setTop (mkF m 7 #[.val (.int x0)] [(.int (1 : Int32))]))) (fun t k => XS.iconst X0.here hx rfl (hb hby d16_6) k) ?_
    exact OD.ret X0 hx hlk (t := .int) Bd.returns rfl (Or.inl ⟨rfl, Or.inl rfl, _, rfl⟩) (hb hby d16_7) (Nat.le_of_ble_eq_true rfl) (Nat.le_of_ble_eq_true rfl) ⟨(show some (Value.int (1 : Int32)) = some (Value.int (own_nl x0)) from by rw [own_nl, if_pos c3_1]), rfl, e0⟩
  · refine OD.go (B := (s₁.setTop (mkF m 8 #[.val (.int x0)] []))) (fun t k => XS.icmpYes X0.here hx rfl (pc0 := 3) (pc' := 8) rfl (hb hby d16_3) rfl (feq c3_1).2 (by decide) (by decide) k) ?_
    refine OD.go (B := (s₁.setTop (mkF m 9 #[.val (.int x0)] [(.int (0 : Int32))]))) (fun t k => XS.iconst X0.here hx rfl (hb hby d16_8) k) ?_
    exact OD.ret X0 hx hlk (t := .int) Bd.returns rfl (Or.inl ⟨rfl, Or.inl rfl, _, rfl⟩) (hb hby d16_9) (Nat.le_of_ble_eq_true rfl) (Nat.le_of_ble_eq_true rfl) ⟨(show some (Value.int (0 : Int32)) = some (Value.int (own_nl x0)) from by rw [own_nl, if_neg c3_1]), rfl, e0⟩
def Q_rmR (Z : State) (a1 : Addr) (h0 : Heap) (v : Option Value) (h : Heap) (L : List Loc) : Prop := v = none ∧ L = [] ∧ h = h0
set_option maxRecDepth 65536 in
set_option maxHeartbeats 40000000 in
theorem rmR (l : Launch) (Z : State) (a0 : Array Value) (hw : ∀ d ∈ tables_1, d.before a0 Z = true) (ws : List Jvm.Cond) (a1 : Addr) (h0 : Heap)  :
    MetFree l (⟨"java/lang/Record", "<init>", "()V"⟩ : MethodName) (head1 (Jvm.Cond.code (⟨"java/lang/Record", "<init>", "()V"⟩ : MethodName) jdk_30_method_1_code 1 none :: ws) ({ frames := 1, cells := 0, slots := 0, locals := 12 } : Room)) (fun a U => a = #[(.ref a1)] ∧ Z.Warmed39 U.vm ∧ U.heap = h0) (fun _ _ _ _ _ => True) (fun _ U o U' => ∃ v L, o = .returned v ∧ Q_rmR Z a1 h0 v U'.heap L ∧ FrameEnd U o U' L ({ frames := 1, cells := 0, slots := 0, locals := 12 } : Room).cells ({ frames := 1, cells := 0, slots := 0, locals := 12 } : Room).slots) := by
  refine MetFree.of_bodySF (plainFor_of_name pn1) hisR ?_
  intro p e s m args below meth c s₁ Bd hml0 hP hK
  obtain ⟨rfl, hZ, hh⟩ := hP
  have hx := Bd.exec
  have hby := Bd.bytes
  have hlk : meth.locks = false := Bd.notSynchronized
  have hml : c.maxLocals = 1 := hml0
  have hown : s.vm.findClass "java/lang/Record" = some m.cls := findClass_of_methodNamed Bd.named
  have hnm := (name_of_methodNamed Bd.named Bd.method).1
  have X0 : Stand p l e ({ frames := 1, cells := 0, slots := 0, locals := 12 } : Room) s m #[(.ref a1)] below meth c s₁ [] 0 0 := Stand.of_body Bd
  have e0 : s₁.heap = h0 := by rw [← hh, Bd.state]; rfl
  suffices hgo : OD p e s below (Q_rmR Z a1 h0) ({ frames := 1, cells := 0, slots := 0, locals := 12 } : Room).cells ({ frames := 1, cells := 0, slots := 0, locals := 12 } : Room).slots (s₁.setTop (mkF m 0 #[.val (.ref a1)] [])) by
    obtain ⟨s₂, o, q1, q2⟩ := hgo
    exact ⟨s₂, o, castTop (ef2 m a1) q1, q2⟩
  refine OD.go (B := (s₁.setTop (mkF m 1 #[.val (.ref a1)] [(.ref a1)]))) (fun t k => XS.aloadN X0.here hx rfl (hb hby d9_0) rfl rfl k) ?_
  obtain ⟨T1, X1, e1, st1⟩ := initO X0 hx hZ hown (Wd46 hw) (Wd16 hw) (Wd17 hw) e0 (g := (mkF m 1 #[.val (.ref a1)] [(.ref a1)])) rfl (by rw [hml]; rfl) rfl (hb hby d9_1) (by decide) (W := 0) (by show 2 * 0 + _ ≤ _; exact Nat.le_of_eq rfl) (by decide)
  refine OD.go (B := (T1.setTop (mkF m 4 #[.val (.ref a1)] []))) st1 ?_
  exact OD.retV X1 hx hlk Bd.returns (hb hby d9_4) (Nat.le_of_ble_eq_true rfl) (Nat.le_of_ble_eq_true rfl) ⟨rfl, rfl, e1⟩
def Q_rmE (Z : State) (a1 : Addr) (a2 : Addr) (p3 : Int32) (h0 : Heap) (n0 : Nat) (v : Option Value) (h : Heap) (L : List Loc) : Prop := v = none ∧ Fr n0 L ∧ Keep h0 h [a1] ∧ Fld Z h a1 "com/example/querent/querent/trec/ElementReader$Element" "body" "Ljava/lang/String;" (.ref a2) ∧ Fld Z h a1 "com/example/querent/querent/trec/ElementReader$Element" "line" "I" (.int p3)
set_option maxRecDepth 65536 in
set_option maxHeartbeats 40000000 in
theorem rmE (l : Launch) (Z : State) (a0 : Array Value) (hw : ∀ d ∈ tables_1, d.before a0 Z = true) (ws : List Jvm.Cond) (a1 : Addr) (a2 : Addr) (p3 : Int32) (h0 : Heap) (n0 : Nat) (Z0 : n0 ≤ h0.size) (E1 : Exa Z h0 a1 "com/example/querent/querent/trec/ElementReader$Element") (F1 : Fld Z h0 a1 "com/example/querent/querent/trec/ElementReader$Element" "body" "Ljava/lang/String;" .null) (F2 : Fld Z h0 a1 "com/example/querent/querent/trec/ElementReader$Element" "line" "I" (.int (0 : Int32))) (g1 : n0 ≤ a1) :
    MetFree l (⟨"com/example/querent/querent/trec/ElementReader$Element", "<init>", "(Ljava/lang/String;I)V"⟩ : MethodName) (head1 (Jvm.Cond.code (⟨"com/example/querent/querent/trec/ElementReader$Element", "<init>", "(Ljava/lang/String;I)V"⟩ : MethodName) prog_27_method_1_code 3 none :: ws) ({ frames := 2, cells := 0, slots := 0, locals := 24 } : Room)) (fun a U => a = #[(.ref a1), (.ref a2), (.int p3)] ∧ Z.Warmed39 U.vm ∧ U.heap = h0) (fun _ _ _ _ _ => True) (fun _ U o U' => ∃ v L, o = .returned v ∧ Q_rmE Z a1 a2 p3 h0 n0 v U'.heap L ∧ FrameEnd U o U' L ({ frames := 2, cells := 0, slots := 0, locals := 24 } : Room).cells ({ frames := 2, cells := 0, slots := 0, locals := 24 } : Room).slots) := by
  refine MetFree.of_bodySF (plainFor_of_name pn2) hisR ?_
  intro p e s m args below meth c s₁ Bd hml0 hP hK
  obtain ⟨rfl, hZ, hh⟩ := hP
  have hx := Bd.exec
  have hby := Bd.bytes
  have hlk : meth.locks = false := Bd.notSynchronized
  have hml : c.maxLocals = 3 := hml0
  have hown : s.vm.findClass "com/example/querent/querent/trec/ElementReader$Element" = some m.cls := findClass_of_methodNamed Bd.named
  have hnm := (name_of_methodNamed Bd.named Bd.method).1
  have X0 : Stand p l e ({ frames := 2, cells := 0, slots := 0, locals := 24 } : Room) s m #[(.ref a1), (.ref a2), (.int p3)] below meth c s₁ [] 0 0 := Stand.of_body Bd
  have e0 : s₁.heap = h0 := by rw [← hh, Bd.state]; rfl
  have N0 := Fr.nil n0
  suffices hgo : OD p e s below (Q_rmE Z a1 a2 p3 h0 n0) ({ frames := 2, cells := 0, slots := 0, locals := 24 } : Room).cells ({ frames := 2, cells := 0, slots := 0, locals := 24 } : Room).slots (s₁.setTop (mkF m 0 #[.val (.ref a1), .val (.ref a2), .val (.int p3)] [])) by
    obtain ⟨s₂, o, q1, q2⟩ := hgo
    exact ⟨s₂, o, castTop (ef3 m a1 a2 p3) q1, q2⟩
  refine OD.go (B := (s₁.setTop (mkF m 1 #[.val (.ref a1), .val (.ref a2), .val (.int p3)] [(.ref a1)]))) (fun t k => XS.aloadN X0.here hx rfl (hb hby d8_0) rfl rfl k) ?_
  obtain ⟨_, _, ⟨T1, L1, k1, n1⟩, -, X1, ⟨Lc1, hQ1, l1, y1, z1⟩, st1⟩ := X0.specialBack hx (y := (⟨"java/lang/Record", "<init>", "()V"⟩ : MethodName)) rfl hown (mvT hZ (Wd41 hw)) (mvT hZ (Wd42 hw)) (mvT hZ (Wd45 hw)) (by decide) (backOf (W := 0) (rmR l Z a0 hw [] a1 h0) hZ (Wd45 hw) (Wd44 hw) (by decide) (by decide)) (g := (mkF m 1 #[.val (.ref a1), .val (.ref a2), .val (.int p3)] [(.ref a1)])) rfl (by rw [hml]; rfl) (Steps.refl _) (a := a1) (argsL := []) (rest := []) (lenOf pd0 rfl) rfl (by show 2 * 0 + _ ≤ _; exact Nat.le_of_eq rfl) (hb hby d8_1) (fun _ _ => ⟨rfl, e0, (Nat.le_of_ble_eq_true rfl), (Nat.le_of_ble_eq_true rfl)⟩)
  dsimp only [Pt.U, Pt.locs, Pt.cells, Pt.slots] at X1 l1 y1 z1 st1 hQ1
  subst l1 y1 z1
  obtain ⟨rfl, rfl, e1⟩ := hQ1
  have N1 := Fr.app N0 (Fr.nil _)
  refine OD.via (B := (T1.setTop (mkF m 4 #[.val (.ref a1), .val (.ref a2), .val (.int p3)] []))) st1 ?_
  refine OD.go (B := (T1.setTop (mkF m 5 #[.val (.ref a1), .val (.ref a2), .val (.int p3)] [(.ref a1)]))) (fun t k => XS.aloadN X1.here hx rfl (hb hby d8_4) rfl rfl k) ?_
  refine OD.go (B := (T1.setTop (mkF m 6 #[.val (.ref a1), .val (.ref a2), .val (.int p3)] [(.ref a2), (.ref a1)]))) (fun t k => XS.aloadN X1.here hx rfl (hb hby d8_5) rfl rfl k) ?_
  obtain ⟨T2, h2, X2, e2, W2, st2⟩ := putF X1 hx hZ hown (host := "") (Or.inl (Wd47 hw)) Via.refl e1 F1 E1 (Or.inr ⟨(Wd48 hw), rfl, hnm⟩) (Wd36 hw) (ty := (.object "java/lang/String")) (by decide) rfl rfl (g := (mkF m 6 #[.val (.ref a1), .val (.ref a2), .val (.int p3)] [(.ref a2), (.ref a1)])) rfl rfl (hb hby d8_6)
  have Fx2 := F1.same W2
  have N2 := Fr.snoc X2 N1 g1
  refine OD.go (B := (T2.setTop (mkF m 9 #[.val (.ref a1), .val (.ref a2), .val (.int p3)] []))) st2 ?_
  refine OD.go (B := (T2.setTop (mkF m 10 #[.val (.ref a1), .val (.ref a2), .val (.int p3)] [(.ref a1)]))) (fun t k => XS.aloadN X2.here hx rfl (hb hby d8_9) rfl rfl k) ?_
  refine OD.go (B := (T2.setTop (mkF m 11 #[.val (.ref a1), .val (.ref a2), .val (.int p3)] [(.int p3), (.ref a1)]))) (fun t k => XS.iloadN X2.here hx rfl (hb hby d8_10) rfl k) ?_
  have f3 := (F2.other W2 (Or.inr (slot_ne (Or.inr (Wd50 hw)) (Or.inr (Wd48 hw)) (by decide) (t := .int) (t' := (.object "java/lang/String")) (by decide) (by decide))))
  have f4 := (E1.wr W2)
  obtain ⟨T5, h5, X5, e5, W5, st5⟩ := putF X2 hx hZ hown (host := "") (Or.inl (Wd49 hw)) Via.refl e2 f3 f4 (Or.inr ⟨(Wd50 hw), rfl, hnm⟩) (Wd36 hw) (ty := .int) (by decide) rfl rfl (g := (mkF m 11 #[.val (.ref a1), .val (.ref a2), .val (.int p3)] [(.int p3), (.ref a1)])) rfl rfl (hb hby d8_11)
  have Fx5 := f3.same W5
  have N5 := Fr.snoc X5 N2 g1
  refine OD.go (B := (T5.setTop (mkF m 14 #[.val (.ref a1), .val (.ref a2), .val (.int p3)] []))) st5 ?_
  exact OD.retV X5 hx hlk Bd.returns (hb hby d8_14) (Nat.le_of_ble_eq_true rfl) (Nat.le_of_ble_eq_true rfl) ⟨rfl, N5, by rw [e5]; exact (((Keep.refl h0 [a1]).wr W2 (Or.inl (List.mem_of_getElem? (i := 0) rfl))).wr W5 (Or.inl (List.mem_of_getElem? (i := 0) rfl))), by rw [e5]; exact (Fx2.other W5 (Or.inr (slot_ne (Or.inr (Wd48 hw)) (Or.inr (Wd50 hw)) (by decide) (t := (.object "java/lang/String")) (t' := .int) (by decide) (by decide)))), by rw [e5]; exact Fx5⟩
def Q_rmL0 (Z : State) (a1 : Addr) (h0 : Heap) (ln : Int32) (v : Option Value) (h : Heap) (L : List Loc) : Prop := v = some (.int ln) ∧ L = [] ∧ h = h0
set_option maxRecDepth 65536 in
set_option maxHeartbeats 40000000 in
theorem rmL0 (l : Launch) (Z : State) (a0 : Array Value) (hw : ∀ d ∈ tables_1, d.before a0 Z = true) (ws : List Jvm.Cond) (a1 : Addr) (h0 : Heap) (n0 : Nat) (X00 : Old Z n0 h0) (ln : Int32) (b t : Addr) (kb : ClassId) (c0 c1 c2 c3 : Int32) (E1 : Exa Z h0 a1 "com/example/querent/querent/trec/ElementReader$Element") (F1 : Fld Z h0 a1 "com/example/querent/querent/trec/ElementReader$Element" "body" "Ljava/lang/String;" (.ref b)) (F2 : Fld Z h0 a1 "com/example/querent/querent/trec/ElementReader$Element" "line" "I" (.int ln)) (Eb : Exa Z h0 b "java/lang/String") (Vb : Fld Z h0 b "java/lang/String" "value" "[B" (.ref t)) (Cb : Fld Z h0 b "java/lang/String" "coder" "B" (.int 0)) (At : Arv Z h0 t kb .byte (4 : Int32) ((([c0, c1, c2, c3] : List Int32).map (fun c => c.toInt8.toInt32)).map Value.int) (.int 0)) (hp : ∀ x ∈ ([c0, c1, c2, c3] : List Int32), ¬ x < 0 ∧ ¬ (255 : Int32) < x) (zc : Int32) (O2 : Sta Z Z.heap "java/lang/String" "COMPACT_STRINGS" "Z" (.int zc)) (P5 : ¬ zc = 0) (fm : Value) (O4 : Sta Z Z.heap "jdk/internal/util/Preconditions" "SIOOBE_FORMATTER" "Ljava/util/function/BiFunction;" fm) (rG : fm.isRef = true) :
    MetFree l (⟨"com/example/querent/querent/trec/ElementReader$Element", "lineAt", "(I)I"⟩ : MethodName) (head1 (Jvm.Cond.code (⟨"com/example/querent/querent/trec/ElementReader$Element", "lineAt", "(I)I"⟩ : MethodName) prog_27_method_2_code 4 (some .int) :: ws) ({ frames := 4, cells := 0, slots := 0, locals := 53 } : Room)) (fun a U => a = #[(.ref a1), (.int (0 : Int32))] ∧ Z.Warmed39 U.vm ∧ U.heap = h0) (fun _ _ _ _ _ => True) (fun _ U o U' => ∃ v L, o = .returned v ∧ Q_rmL0 Z a1 h0 ln v U'.heap L ∧ FrameEnd U o U' L ({ frames := 4, cells := 0, slots := 0, locals := 53 } : Room).cells ({ frames := 4, cells := 0, slots := 0, locals := 53 } : Room).slots) := by
  refine MetFree.of_bodySF (plainFor_of_name pn2) hisR ?_
  intro p e s m args below meth c s₁ Bd hml0 hP hK
  obtain ⟨rfl, hZ, hh⟩ := hP
  have hx := Bd.exec
  have hby := Bd.bytes
  have hlk : meth.locks = false := Bd.notSynchronized
  have hml : c.maxLocals = 4 := hml0
  have hown : s.vm.findClass "com/example/querent/querent/trec/ElementReader$Element" = some m.cls := findClass_of_methodNamed Bd.named
  have hnm := (name_of_methodNamed Bd.named Bd.method).1
  have X0 : Stand p l e ({ frames := 4, cells := 0, slots := 0, locals := 53 } : Room) s m #[(.ref a1), (.int (0 : Int32))] below meth c s₁ [] 0 0 := Stand.of_body Bd
  have e0 : s₁.heap = h0 := by rw [← hh, Bd.state]; rfl
  have hch : ∀ d ∈ StrChars.Road.wordsChN, d.before a0 Z = true := fun d hd => hw d ((by decide +kernel : ∀ d ∈ StrChars.Road.wordsChN, d ∈ tables_1) d hd)
  have hcd : StrChars.Road.CodA ([c0, c1, c2, c3] : List Int32) 0 (4 : Int32) ((([c0, c1, c2, c3] : List Int32).map (fun c => c.toInt8.toInt32)).map Value.int) := StrChars.Road.codOf (n := 4) rfl (fun x hx => (hp x hx).2)
  have hbd := own_up hp
  suffices hgo : OD p e s below (Q_rmL0 Z a1 h0 ln) ({ frames := 4, cells := 0, slots := 0, locals := 53 } : Room).cells ({ frames := 4, cells := 0, slots := 0, locals := 53 } : Room).slots (s₁.setTop (mkF m 0 #[.val (.ref a1), .val (.int (0 : Int32)), .unset, .unset] [])) by
    obtain ⟨s₂, o, q1, q2⟩ := hgo
    exact ⟨s₂, o, castTop (ef4 m a1 (0 : Int32)) q1, q2⟩
  refine OD.go (B := (s₁.setTop (mkF m 1 #[.val (.ref a1), .val (.int (0 : Int32)), .unset, .unset] [(.ref a1)]))) (fun t k => XS.aloadN X0.here hx rfl (hb hby d10_0) rfl rfl k) ?_
  obtain ⟨T1, X1, e1, st1⟩ := getF X0 hx hZ hown (host := "") (Or.inl (Wd49 hw)) Via.refl e0 F2 (g := (mkF m 1 #[.val (.ref a1), .val (.int (0 : Int32)), .unset, .unset] [(.ref a1)])) rfl rfl (hb hby d10_1)
  refine OD.go (B := (T1.setTop (mkF m 4 #[.val (.ref a1), .val (.int (0 : Int32)), .unset, .unset] [(.int ln)]))) st1 ?_
  refine OD.go (B := (T1.setTop (mkF m 5 #[.val (.ref a1), .val (.int (0 : Int32)), .val (.int ln), .unset] []))) (fun t k => XS.istoreN X1.here hx rfl (hb hby d10_4) rfl (l' := #[.val (.ref a1), .val (.int (0 : Int32)), .val (.int ln), .unset]) rfl k) ?_
  refine OD.go (B := (T1.setTop (mkF m 6 #[.val (.ref a1), .val (.int (0 : Int32)), .val (.int ln), .unset] [(.int (0 : Int32))]))) (fun t k => XS.iconst X1.here hx rfl (hb hby d10_5) k) ?_
  refine OD.go (B := (T1.setTop (mkF m 7 #[.val (.ref a1), .val (.int (0 : Int32)), .val (.int ln), .val (.int (0 : Int32))] []))) (fun t k => XS.istoreN X1.here hx rfl (hb hby d10_6) rfl (l' := #[.val (.ref a1), .val (.int (0 : Int32)), .val (.int ln), .val (.int (0 : Int32))]) rfl k) ?_
  refine OD.go (B := (T1.setTop (mkF m 8 #[.val (.ref a1), .val (.int (0 : Int32)), .val (.int ln), .val (.int (0 : Int32))] [(.int (0 : Int32))]))) (fun t k => XS.iloadN X1.here hx rfl (hb hby d10_7) rfl k) ?_
  refine OD.go (B := (T1.setTop (mkF m 9 #[.val (.ref a1), .val (.int (0 : Int32)), .val (.int ln), .val (.int (0 : Int32))] [(.int (0 : Int32)), (.int (0 : Int32))]))) (fun t k => XS.iloadN X1.here hx rfl (hb hby d10_8) rfl k) ?_
  refine OD.go (B := (T1.setTop (mkF m 34 #[.val (.ref a1), .val (.int (0 : Int32)), .val (.int ln), .val (.int (0 : Int32))] []))) (fun t k => XS.icmpYes X1.here hx rfl (pc0 := 9) (pc' := 34) rfl (hb hby d10_9) rfl (flt (by decide : ¬ (0 : Int32) < (0 : Int32))).2.1 (by decide) (by decide) k) ?_
  refine OD.go (B := (T1.setTop (mkF m 35 #[.val (.ref a1), .val (.int (0 : Int32)), .val (.int ln), .val (.int (0 : Int32))] [(.int ln)]))) (fun t k => XS.iloadN X1.here hx rfl (hb hby d10_34) rfl k) ?_
  exact OD.ret X1 hx hlk (t := .int) Bd.returns rfl (Or.inl ⟨rfl, Or.inl rfl, _, rfl⟩) (hb hby d10_35) (Nat.le_of_ble_eq_true rfl) (Nat.le_of_ble_eq_true rfl) ⟨(show some (Value.int ln) = some (Value.int ln) from by rfl), rfl, e1⟩
def Q_rmL1 (Z : State) (a1 : Addr) (h0 : Heap) (ln : Int32) (c0 : Int32) (v : Option Value) (h : Heap) (L : List Loc) : Prop := v = some (.int (own_st ln c0)) ∧ L = [] ∧ h = h0
set_option maxRecDepth 65536 in
set_option maxHeartbeats 40000000 in
theorem rmL1 (l : Launch) (Z : State) (a0 : Array Value) (hw : ∀ d ∈ tables_1, d.before a0 Z = true) (ws : List Jvm.Cond) (a1 : Addr) (h0 : Heap) (n0 : Nat) (X00 : Old Z n0 h0) (ln : Int32) (b t : Addr) (kb : ClassId) (c0 c1 c2 c3 : Int32) (E1 : Exa Z h0 a1 "com/example/querent/querent/trec/ElementReader$Element") (F1 : Fld Z h0 a1 "com/example/querent/querent/trec/ElementReader$Element" "body" "Ljava/lang/String;" (.ref b)) (F2 : Fld Z h0 a1 "com/example/querent/querent/trec/ElementReader$Element" "line" "I" (.int ln)) (Eb : Exa Z h0 b "java/lang/String") (Vb : Fld Z h0 b "java/lang/String" "value" "[B" (.ref t)) (Cb : Fld Z h0 b "java/lang/String" "coder" "B" (.int 0)) (At : Arv Z h0 t kb .byte (4 : Int32) ((([c0, c1, c2, c3] : List Int32).map (fun c => c.toInt8.toInt32)).map Value.int) (.int 0)) (hp : ∀ x ∈ ([c0, c1, c2, c3] : List Int32), ¬ x < 0 ∧ ¬ (255 : Int32) < x) (zc : Int32) (O2 : Sta Z Z.heap "java/lang/String" "COMPACT_STRINGS" "Z" (.int zc)) (P5 : ¬ zc = 0) (fm : Value) (O4 : Sta Z Z.heap "jdk/internal/util/Preconditions" "SIOOBE_FORMATTER" "Ljava/util/function/BiFunction;" fm) (rG : fm.isRef = true) :
    MetFree l (⟨"com/example/querent/querent/trec/ElementReader$Element", "lineAt", "(I)I"⟩ : MethodName) (head1 (Jvm.Cond.code (⟨"com/example/querent/querent/trec/ElementReader$Element", "lineAt", "(I)I"⟩ : MethodName) prog_27_method_2_code 4 (some .int) :: ws) ({ frames := 4, cells := 0, slots := 0, locals := 53 } : Room)) (fun a U => a = #[(.ref a1), (.int (1 : Int32))] ∧ Z.Warmed39 U.vm ∧ U.heap = h0) (fun _ _ _ _ _ => True) (fun _ U o U' => ∃ v L, o = .returned v ∧ Q_rmL1 Z a1 h0 ln c0 v U'.heap L ∧ FrameEnd U o U' L ({ frames := 4, cells := 0, slots := 0, locals := 53 } : Room).cells ({ frames := 4, cells := 0, slots := 0, locals := 53 } : Room).slots) := by
  refine MetFree.of_bodySF (plainFor_of_name pn2) hisR ?_
  intro p e s m args below meth c s₁ Bd hml0 hP hK
  obtain ⟨rfl, hZ, hh⟩ := hP
  have hx := Bd.exec
  have hby := Bd.bytes
  have hlk : meth.locks = false := Bd.notSynchronized
  have hml : c.maxLocals = 4 := hml0
  have hown : s.vm.findClass "com/example/querent/querent/trec/ElementReader$Element" = some m.cls := findClass_of_methodNamed Bd.named
  have hnm := (name_of_methodNamed Bd.named Bd.method).1
  have X0 : Stand p l e ({ frames := 4, cells := 0, slots := 0, locals := 53 } : Room) s m #[(.ref a1), (.int (1 : Int32))] below meth c s₁ [] 0 0 := Stand.of_body Bd
  have e0 : s₁.heap = h0 := by rw [← hh, Bd.state]; rfl
  have hch : ∀ d ∈ StrChars.Road.wordsChN, d.before a0 Z = true := fun d hd => hw d ((by decide +kernel : ∀ d ∈ StrChars.Road.wordsChN, d ∈ tables_1) d hd)
  have hcd : StrChars.Road.CodA ([c0, c1, c2, c3] : List Int32) 0 (4 : Int32) ((([c0, c1, c2, c3] : List Int32).map (fun c => c.toInt8.toInt32)).map Value.int) := StrChars.Road.codOf (n := 4) rfl (fun x hx => (hp x hx).2)
  have hbd := own_up hp
  suffices hgo : OD p e s below (Q_rmL1 Z a1 h0 ln c0) ({ frames := 4, cells := 0, slots := 0, locals := 53 } : Room).cells ({ frames := 4, cells := 0, slots := 0, locals := 53 } : Room).slots (s₁.setTop (mkF m 0 #[.val (.ref a1), .val (.int (1 : Int32)), .unset, .unset] [])) by
    obtain ⟨s₂, o, q1, q2⟩ := hgo
    exact ⟨s₂, o, castTop (ef4 m a1 (1 : Int32)) q1, q2⟩
  refine OD.go (B := (s₁.setTop (mkF m 1 #[.val (.ref a1), .val (.int (1 : Int32)), .unset, .unset] [(.ref a1)]))) (fun t k => XS.aloadN X0.here hx rfl (hb hby d10_0) rfl rfl k) ?_
  obtain ⟨T1, X1, e1, st1⟩ := getF X0 hx hZ hown (host := "") (Or.inl (Wd49 hw)) Via.refl e0 F2 (g := (mkF m 1 #[.val (.ref a1), .val (.int (1 : Int32)), .unset, .unset] [(.ref a1)])) rfl rfl (hb hby d10_1)
  refine OD.go (B := (T1.setTop (mkF m 4 #[.val (.ref a1), .val (.int (1 : Int32)), .unset, .unset] [(.int ln)]))) st1 ?_
  refine OD.go (B := (T1.setTop (mkF m 5 #[.val (.ref a1), .val (.int (1 : Int32)), .val (.int ln), .unset] []))) (fun t k => XS.istoreN X1.here hx rfl (hb hby d10_4) rfl (l' := #[.val (.ref a1), .val (.int (1 : Int32)), .val (.int ln), .unset]) rfl k) ?_
  refine OD.go (B := (T1.setTop (mkF m 6 #[.val (.ref a1), .val (.int (1 : Int32)), .val (.int ln), .unset] [(.int (0 : Int32))]))) (fun t k => XS.iconst X1.here hx rfl (hb hby d10_5) k) ?_
  refine OD.go (B := (T1.setTop (mkF m 7 #[.val (.ref a1), .val (.int (1 : Int32)), .val (.int ln), .val (.int (0 : Int32))] []))) (fun t k => XS.istoreN X1.here hx rfl (hb hby d10_6) rfl (l' := #[.val (.ref a1), .val (.int (1 : Int32)), .val (.int ln), .val (.int (0 : Int32))]) rfl k) ?_
  refine OD.go (B := (T1.setTop (mkF m 8 #[.val (.ref a1), .val (.int (1 : Int32)), .val (.int ln), .val (.int (0 : Int32))] [(.int (0 : Int32))]))) (fun t k => XS.iloadN X1.here hx rfl (hb hby d10_7) rfl k) ?_
  refine OD.go (B := (T1.setTop (mkF m 9 #[.val (.ref a1), .val (.int (1 : Int32)), .val (.int ln), .val (.int (0 : Int32))] [(.int (1 : Int32)), (.int (0 : Int32))]))) (fun t k => XS.iloadN X1.here hx rfl (hb hby d10_8) rfl k) ?_
  refine OD.go (B := (T1.setTop (mkF m 12 #[.val (.ref a1), .val (.int (1 : Int32)), .val (.int ln), .val (.int (0 : Int32))] []))) (fun t k => XS.icmpNo X1.here hx rfl (hb hby d10_9) rfl (tlt (by decide : (0 : Int32) < (1 : Int32))).2.1 k) ?_
  refine OD.go (B := (T1.setTop (mkF m 13 #[.val (.ref a1), .val (.int (1 : Int32)), .val (.int ln), .val (.int (0 : Int32))] [(.ref a1)]))) (fun t k => XS.aloadN X1.here hx rfl (hb hby d10_12) rfl rfl k) ?_
  obtain ⟨T2, X2, e2, st2⟩ := getF X1 hx hZ hown (host := "") (Or.inl (Wd47 hw)) Via.refl e1 F1 (g := (mkF m 13 #[.val (.ref a1), .val (.int (1 : Int32)), .val (.int ln), .val (.int (0 : Int32))] [(.ref a1)])) rfl rfl (hb hby d10_13)
  refine OD.go (B := (T2.setTop (mkF m 16 #[.val (.ref a1), .val (.int (1 : Int32)), .val (.int ln), .val (.int (0 : Int32))] [(.ref b)]))) st2 ?_
  refine OD.go (B := (T2.setTop (mkF m 17 #[.val (.ref a1), .val (.int (1 : Int32)), .val (.int ln), .val (.int (0 : Int32))] [(.int (0 : Int32)), (.ref b)]))) (fun t k => XS.iloadN X2.here hx rfl (hb hby d10_16) rfl k) ?_
  obtain ⟨cq3, kq3, qa3, qb3, qc3⟩ := isOf hZ e2 Eb
  obtain ⟨_, _, ⟨T3, L3, k3, n3⟩, -, X3, ⟨Lc3, hQ3, l3, y3, z3⟩, st3⟩ := X2.virtualBack hx (y := (⟨"java/lang/String", "charAt", "(I)C"⟩ : MethodName)) (z := (⟨"java/lang/String", "charAt", "(I)C"⟩ : MethodName)) hown (mvT hZ (Wd56 hw)) (mvT hZ (Wd57 hw)) (notFace_of_selects (args := #[]) (mvT hZ (Wd59 hw))) (mvT hZ (Wd59 hw)) (mvT hZ (Wd58 hw)) (by decide) (StrChars.Road.chN (W := 0) hZ hch (kI := 4) (Wd6 hw) Eb Vb Cb At hcd hbd (O2.ext X00.2) P5 (O4.ext X00.2) rG (Nat.le_of_ble_eq_true rfl) (i := 0) (Nat.le_of_ble_eq_true rfl) (j := (0 : Int32)) rfl (by decide) (by decide)) qa3 qc3 (g := (mkF m 17 #[.val (.ref a1), .val (.int (1 : Int32)), .val (.int ln), .val (.int (0 : Int32))] [(.int (0 : Int32)), (.ref b)])) rfl (by rw [hml]; rfl) (Steps.refl _) (argsL := [(.int (0 : Int32))]) (rest := []) (lenOf pd1 rfl) rfl (by show 2 * 0 + _ ≤ _; exact Nat.le_of_eq rfl) (hb hby d10_17) (fun _ _ => ⟨rfl, e2, (Nat.le_of_ble_eq_true rfl), (Nat.le_of_ble_eq_true rfl)⟩)
  dsimp only [Pt.U, Pt.locs, Pt.cells, Pt.slots] at X3 l3 y3 z3 st3 hQ3
  subst l3 y3 z3
  obtain ⟨rfl, rfl, e3⟩ := hQ3
  refine OD.via (B := (T3.setTop (mkF m 20 #[.val (.ref a1), .val (.int (1 : Int32)), .val (.int ln), .val (.int (0 : Int32))] [(.int c0)]))) st3 ?_
  refine OD.go (B := (T3.setTop (mkF m 22 #[.val (.ref a1), .val (.int (1 : Int32)), .val (.int ln), .val (.int (0 : Int32))] [(.int (10 : Int32)), (.int c0)]))) (fun t k => XS.bipush X3.here hx rfl (hb hby d10_20) k) ?_
  obtain ⟨v28_4, hv28_4⟩ : ∃ z : Int32, z = (if c0 = (10 : Int32) then (ln + (1 : Int32)) else ln) := ⟨_, rfl⟩
  refine OD.cut (B := (T3.setTop (mkF m 28 #[.val (.ref a1), .val (.int (1 : Int32)), .val (.int v28_4), .val (.int (0 : Int32))] []))) (fun J28_5 => ?_) ?_
  · skip
    by_cases c22_6 : c0 = (10 : Int32)
    · refine OD.go (B := (T3.setTop (mkF m 25 #[.val (.ref a1), .val (.int (1 : Int32)), .val (.int ln), .val (.int (0 : Int32))] []))) (fun t k => XS.icmpNo X3.here hx rfl (hb hby d10_22) rfl (teq c22_6).2 k) ?_
      refine OD.go (B := (T3.setTop (mkF m 28 #[.val (.ref a1), .val (.int (1 : Int32)), .val (.int (ln + (1 : Int32))), .val (.int (0 : Int32))] []))) (fun t k => XS.iinc X3.here hx rfl (hb hby d10_25) rfl (l' := #[.val (.ref a1), .val (.int (1 : Int32)), .val (.int (ln + (1 : Int32))), .val (.int (0 : Int32))]) rfl k) ?_
      rw [if_pos c22_6] at hv28_4
      rw [hv28_4] at J28_5
      exact J28_5
    · refine OD.go (B := (T3.setTop (mkF m 28 #[.val (.ref a1), .val (.int (1 : Int32)), .val (.int ln), .val (.int (0 : Int32))] []))) (fun t k => XS.icmpYes X3.here hx rfl (pc0 := 22) (pc' := 28) rfl (hb hby d10_22) rfl (feq c22_6).2 (by decide) (by decide) k) ?_
      rw [if_neg c22_6] at hv28_4
      rw [hv28_4] at J28_5
      exact J28_5
  refine OD.go (B := (T3.setTop (mkF m 31 #[.val (.ref a1), .val (.int (1 : Int32)), .val (.int v28_4), .val (.int (1 : Int32))] []))) (fun t k => XS.iinc X3.here hx rfl (hb hby d10_28) rfl (l' := #[.val (.ref a1), .val (.int (1 : Int32)), .val (.int v28_4), .val (.int (1 : Int32))]) rfl k) ?_
  refine OD.go (B := (T3.setTop (mkF m 7 #[.val (.ref a1), .val (.int (1 : Int32)), .val (.int v28_4), .val (.int (1 : Int32))] []))) (fun t k => XS.goto X3.here hx rfl (pc0 := 31) (pc' := 7) rfl (hb hby d10_31) (by decide) (by decide) k) ?_
  refine OD.go (B := (T3.setTop (mkF m 8 #[.val (.ref a1), .val (.int (1 : Int32)), .val (.int v28_4), .val (.int (1 : Int32))] [(.int (1 : Int32))]))) (fun t k => XS.iloadN X3.here hx rfl (hb hby d10_7) rfl k) ?_
  refine OD.go (B := (T3.setTop (mkF m 9 #[.val (.ref a1), .val (.int (1 : Int32)), .val (.int v28_4), .val (.int (1 : Int32))] [(.int (1 : Int32)), (.int (1 : Int32))]))) (fun t k => XS.iloadN X3.here hx rfl (hb hby d10_8) rfl k) ?_
  refine OD.go (B := (T3.setTop (mkF m 34 #[.val (.ref a1), .val (.int (1 : Int32)), .val (.int v28_4), .val (.int (1 : Int32))] []))) (fun t k => XS.icmpYes X3.here hx rfl (pc0 := 9) (pc' := 34) rfl (hb hby d10_9) rfl (flt (by decide : ¬ (1 : Int32) < (1 : Int32))).2.1 (by decide) (by decide) k) ?_
  refine OD.go (B := (T3.setTop (mkF m 35 #[.val (.ref a1), .val (.int (1 : Int32)), .val (.int v28_4), .val (.int (1 : Int32))] [(.int v28_4)]))) (fun t k => XS.iloadN X3.here hx rfl (hb hby d10_34) rfl k) ?_
  exact OD.ret X3 hx hlk (t := .int) Bd.returns rfl (Or.inl ⟨rfl, Or.inl rfl, _, rfl⟩) (hb hby d10_35) (Nat.le_of_ble_eq_true rfl) (Nat.le_of_ble_eq_true rfl) ⟨(show some (Value.int v28_4) = some (Value.int (own_st ln c0)) from by rw [hv28_4]; rfl), rfl, e3⟩
def Q_rmL2 (Z : State) (a1 : Addr) (h0 : Heap) (ln : Int32) (c0 c1 : Int32) (v : Option Value) (h : Heap) (L : List Loc) : Prop := v = some (.int (own_st (own_st ln c0) c1)) ∧ L = [] ∧ h = h0
set_option maxRecDepth 65536 in
set_option maxHeartbeats 40000000 in
theorem rmL2 (l : Launch) (Z : State) (a0 : Array Value) (hw : ∀ d ∈ tables_1, d.before a0 Z = true) (ws : List Jvm.Cond) (a1 : Addr) (h0 : Heap) (n0 : Nat) (X00 : Old Z n0 h0) (ln : Int32) (b t : Addr) (kb : ClassId) (c0 c1 c2 c3 : Int32) (E1 : Exa Z h0 a1 "com/example/querent/querent/trec/ElementReader$Element") (F1 : Fld Z h0 a1 "com/example/querent/querent/trec/ElementReader$Element" "body" "Ljava/lang/String;" (.ref b)) (F2 : Fld Z h0 a1 "com/example/querent/querent/trec/ElementReader$Element" "line" "I" (.int ln)) (Eb : Exa Z h0 b "java/lang/String") (Vb : Fld Z h0 b "java/lang/String" "value" "[B" (.ref t)) (Cb : Fld Z h0 b "java/lang/String" "coder" "B" (.int 0)) (At : Arv Z h0 t kb .byte (4 : Int32) ((([c0, c1, c2, c3] : List Int32).map (fun c => c.toInt8.toInt32)).map Value.int) (.int 0)) (hp : ∀ x ∈ ([c0, c1, c2, c3] : List Int32), ¬ x < 0 ∧ ¬ (255 : Int32) < x) (zc : Int32) (O2 : Sta Z Z.heap "java/lang/String" "COMPACT_STRINGS" "Z" (.int zc)) (P5 : ¬ zc = 0) (fm : Value) (O4 : Sta Z Z.heap "jdk/internal/util/Preconditions" "SIOOBE_FORMATTER" "Ljava/util/function/BiFunction;" fm) (rG : fm.isRef = true) :
    MetFree l (⟨"com/example/querent/querent/trec/ElementReader$Element", "lineAt", "(I)I"⟩ : MethodName) (head1 (Jvm.Cond.code (⟨"com/example/querent/querent/trec/ElementReader$Element", "lineAt", "(I)I"⟩ : MethodName) prog_27_method_2_code 4 (some .int) :: ws) ({ frames := 4, cells := 0, slots := 0, locals := 53 } : Room)) (fun a U => a = #[(.ref a1), (.int (2 : Int32))] ∧ Z.Warmed39 U.vm ∧ U.heap = h0) (fun _ _ _ _ _ => True) (fun _ U o U' => ∃ v L, o = .returned v ∧ Q_rmL2 Z a1 h0 ln c0 c1 v U'.heap L ∧ FrameEnd U o U' L ({ frames := 4, cells := 0, slots := 0, locals := 53 } : Room).cells ({ frames := 4, cells := 0, slots := 0, locals := 53 } : Room).slots) := by
  refine MetFree.of_bodySF (plainFor_of_name pn2) hisR ?_
  intro p e s m args below meth c s₁ Bd hml0 hP hK
  obtain ⟨rfl, hZ, hh⟩ := hP
  have hx := Bd.exec
  have hby := Bd.bytes
  have hlk : meth.locks = false := Bd.notSynchronized
  have hml : c.maxLocals = 4 := hml0
  have hown : s.vm.findClass "com/example/querent/querent/trec/ElementReader$Element" = some m.cls := findClass_of_methodNamed Bd.named
  have hnm := (name_of_methodNamed Bd.named Bd.method).1
  have X0 : Stand p l e ({ frames := 4, cells := 0, slots := 0, locals := 53 } : Room) s m #[(.ref a1), (.int (2 : Int32))] below meth c s₁ [] 0 0 := Stand.of_body Bd
  have e0 : s₁.heap = h0 := by rw [← hh, Bd.state]; rfl
  have hch : ∀ d ∈ StrChars.Road.wordsChN, d.before a0 Z = true := fun d hd => hw d ((by decide +kernel : ∀ d ∈ StrChars.Road.wordsChN, d ∈ tables_1) d hd)
  have hcd : StrChars.Road.CodA ([c0, c1, c2, c3] : List Int32) 0 (4 : Int32) ((([c0, c1, c2, c3] : List Int32).map (fun c => c.toInt8.toInt32)).map Value.int) := StrChars.Road.codOf (n := 4) rfl (fun x hx => (hp x hx).2)
  have hbd := own_up hp
  suffices hgo : OD p e s below (Q_rmL2 Z a1 h0 ln c0 c1) ({ frames := 4, cells := 0, slots := 0, locals := 53 } : Room).cells ({ frames := 4, cells := 0, slots := 0, locals := 53 } : Room).slots (s₁.setTop (mkF m 0 #[.val (.ref a1), .val (.int (2 : Int32)), .unset, .unset] [])) by
    obtain ⟨s₂, o, q1, q2⟩ := hgo
    exact ⟨s₂, o, castTop (ef4 m a1 (2 : Int32)) q1, q2⟩
  refine OD.go (B := (s₁.setTop (mkF m 1 #[.val (.ref a1), .val (.int (2 : Int32)), .unset, .unset] [(.ref a1)]))) (fun t k => XS.aloadN X0.here hx rfl (hb hby d10_0) rfl rfl k) ?_
  obtain ⟨T1, X1, e1, st1⟩ := getF X0 hx hZ hown (host := "") (Or.inl (Wd49 hw)) Via.refl e0 F2 (g := (mkF m 1 #[.val (.ref a1), .val (.int (2 : Int32)), .unset, .unset] [(.ref a1)])) rfl rfl (hb hby d10_1)
  refine OD.go (B := (T1.setTop (mkF m 4 #[.val (.ref a1), .val (.int (2 : Int32)), .unset, .unset] [(.int ln)]))) st1 ?_
  refine OD.go (B := (T1.setTop (mkF m 5 #[.val (.ref a1), .val (.int (2 : Int32)), .val (.int ln), .unset] []))) (fun t k => XS.istoreN X1.here hx rfl (hb hby d10_4) rfl (l' := #[.val (.ref a1), .val (.int (2 : Int32)), .val (.int ln), .unset]) rfl k) ?_
  refine OD.go (B := (T1.setTop (mkF m 6 #[.val (.ref a1), .val (.int (2 : Int32)), .val (.int ln), .unset] [(.int (0 : Int32))]))) (fun t k => XS.iconst X1.here hx rfl (hb hby d10_5) k) ?_
  refine OD.go (B := (T1.setTop (mkF m 7 #[.val (.ref a1), .val (.int (2 : Int32)), .val (.int ln), .val (.int (0 : Int32))] []))) (fun t k => XS.istoreN X1.here hx rfl (hb hby d10_6) rfl (l' := #[.val (.ref a1), .val (.int (2 : Int32)), .val (.int ln), .val (.int (0 : Int32))]) rfl k) ?_
  refine OD.go (B := (T1.setTop (mkF m 8 #[.val (.ref a1), .val (.int (2 : Int32)), .val (.int ln), .val (.int (0 : Int32))] [(.int (0 : Int32))]))) (fun t k => XS.iloadN X1.here hx rfl (hb hby d10_7) rfl k) ?_
  refine OD.go (B := (T1.setTop (mkF m 9 #[.val (.ref a1), .val (.int (2 : Int32)), .val (.int ln), .val (.int (0 : Int32))] [(.int (2 : Int32)), (.int (0 : Int32))]))) (fun t k => XS.iloadN X1.here hx rfl (hb hby d10_8) rfl k) ?_
  refine OD.go (B := (T1.setTop (mkF m 12 #[.val (.ref a1), .val (.int (2 : Int32)), .val (.int ln), .val (.int (0 : Int32))] []))) (fun t k => XS.icmpNo X1.here hx rfl (hb hby d10_9) rfl (tlt (by decide : (0 : Int32) < (2 : Int32))).2.1 k) ?_
  refine OD.go (B := (T1.setTop (mkF m 13 #[.val (.ref a1), .val (.int (2 : Int32)), .val (.int ln), .val (.int (0 : Int32))] [(.ref a1)]))) (fun t k => XS.aloadN X1.here hx rfl (hb hby d10_12) rfl rfl k) ?_
  obtain ⟨T2, X2, e2, st2⟩ := getF X1 hx hZ hown (host := "") (Or.inl (Wd47 hw)) Via.refl e1 F1 (g := (mkF m 13 #[.val (.ref a1), .val (.int (2 : Int32)), .val (.int ln), .val (.int (0 : Int32))] [(.ref a1)])) rfl rfl (hb hby d10_13)
  refine OD.go (B := (T2.setTop (mkF m 16 #[.val (.ref a1), .val (.int (2 : Int32)), .val (.int ln), .val (.int (0 : Int32))] [(.ref b)]))) st2 ?_
  refine OD.go (B := (T2.setTop (mkF m 17 #[.val (.ref a1), .val (.int (2 : Int32)), .val (.int ln), .val (.int (0 : Int32))] [(.int (0 : Int32)), (.ref b)]))) (fun t k => XS.iloadN X2.here hx rfl (hb hby d10_16) rfl k) ?_
  obtain ⟨cq3, kq3, qa3, qb3, qc3⟩ := isOf hZ e2 Eb
  obtain ⟨_, _, ⟨T3, L3, k3, n3⟩, -, X3, ⟨Lc3, hQ3, l3, y3, z3⟩, st3⟩ := X2.virtualBack hx (y := (⟨"java/lang/String", "charAt", "(I)C"⟩ : MethodName)) (z := (⟨"java/lang/String", "charAt", "(I)C"⟩ : MethodName)) hown (mvT hZ (Wd56 hw)) (mvT hZ (Wd57 hw)) (notFace_of_selects (args := #[]) (mvT hZ (Wd59 hw))) (mvT hZ (Wd59 hw)) (mvT hZ (Wd58 hw)) (by decide) (StrChars.Road.chN (W := 0) hZ hch (kI := 4) (Wd6 hw) Eb Vb Cb At hcd hbd (O2.ext X00.2) P5 (O4.ext X00.2) rG (Nat.le_of_ble_eq_true rfl) (i := 0) (Nat.le_of_ble_eq_true rfl) (j := (0 : Int32)) rfl (by decide) (by decide)) qa3 qc3 (g := (mkF m 17 #[.val (.ref a1), .val (.int (2 : Int32)), .val (.int ln), .val (.int (0 : Int32))] [(.int (0 : Int32)), (.ref b)])) rfl (by rw [hml]; rfl) (Steps.refl _) (argsL := [(.int (0 : Int32))]) (rest := []) (lenOf pd1 rfl) rfl (by show 2 * 0 + _ ≤ _; exact Nat.le_of_eq rfl) (hb hby d10_17) (fun _ _ => ⟨rfl, e2, (Nat.le_of_ble_eq_true rfl), (Nat.le_of_ble_eq_true rfl)⟩)
  dsimp only [Pt.U, Pt.locs, Pt.cells, Pt.slots] at X3 l3 y3 z3 st3 hQ3
  subst l3 y3 z3
  obtain ⟨rfl, rfl, e3⟩ := hQ3
  refine OD.via (B := (T3.setTop (mkF m 20 #[.val (.ref a1), .val (.int (2 : Int32)), .val (.int ln), .val (.int (0 : Int32))] [(.int c0)]))) st3 ?_
  refine OD.go (B := (T3.setTop (mkF m 22 #[.val (.ref a1), .val (.int (2 : Int32)), .val (.int ln), .val (.int (0 : Int32))] [(.int (10 : Int32)), (.int c0)]))) (fun t k => XS.bipush X3.here hx rfl (hb hby d10_20) k) ?_
  obtain ⟨v28_4, hv28_4⟩ : ∃ z : Int32, z = (if c0 = (10 : Int32) then (ln + (1 : Int32)) else ln) := ⟨_, rfl⟩
  refine OD.cut (B := (T3.setTop (mkF m 28 #[.val (.ref a1), .val (.int (2 : Int32)), .val (.int v28_4), .val (.int (0 : Int32))] []))) (fun J28_5 => ?_) ?_
  · skip
    by_cases c22_6 : c0 = (10 : Int32)
    · refine OD.go (B := (T3.setTop (mkF m 25 #[.val (.ref a1), .val (.int (2 : Int32)), .val (.int ln), .val (.int (0 : Int32))] []))) (fun t k => XS.icmpNo X3.here hx rfl (hb hby d10_22) rfl (teq c22_6).2 k) ?_
      refine OD.go (B := (T3.setTop (mkF m 28 #[.val (.ref a1), .val (.int (2 : Int32)), .val (.int (ln + (1 : Int32))), .val (.int (0 : Int32))] []))) (fun t k => XS.iinc X3.here hx rfl (hb hby d10_25) rfl (l' := #[.val (.ref a1), .val (.int (2 : Int32)), .val (.int (ln + (1 : Int32))), .val (.int (0 : Int32))]) rfl k) ?_
      rw [if_pos c22_6] at hv28_4
      rw [hv28_4] at J28_5
      exact J28_5
    · refine OD.go (B := (T3.setTop (mkF m 28 #[.val (.ref a1), .val (.int (2 : Int32)), .val (.int ln), .val (.int (0 : Int32))] []))) (fun t k => XS.icmpYes X3.here hx rfl (pc0 := 22) (pc' := 28) rfl (hb hby d10_22) rfl (feq c22_6).2 (by decide) (by decide) k) ?_
      rw [if_neg c22_6] at hv28_4
      rw [hv28_4] at J28_5
      exact J28_5
  refine OD.go (B := (T3.setTop (mkF m 31 #[.val (.ref a1), .val (.int (2 : Int32)), .val (.int v28_4), .val (.int (1 : Int32))] []))) (fun t k => XS.iinc X3.here hx rfl (hb hby d10_28) rfl (l' := #[.val (.ref a1), .val (.int (2 : Int32)), .val (.int v28_4), .val (.int (1 : Int32))]) rfl k) ?_
  refine OD.go (B := (T3.setTop (mkF m 7 #[.val (.ref a1), .val (.int (2 : Int32)), .val (.int v28_4), .val (.int (1 : Int32))] []))) (fun t k => XS.goto X3.here hx rfl (pc0 := 31) (pc' := 7) rfl (hb hby d10_31) (by decide) (by decide) k) ?_
  refine OD.go (B := (T3.setTop (mkF m 8 #[.val (.ref a1), .val (.int (2 : Int32)), .val (.int v28_4), .val (.int (1 : Int32))] [(.int (1 : Int32))]))) (fun t k => XS.iloadN X3.here hx rfl (hb hby d10_7) rfl k) ?_
  refine OD.go (B := (T3.setTop (mkF m 9 #[.val (.ref a1), .val (.int (2 : Int32)), .val (.int v28_4), .val (.int (1 : Int32))] [(.int (2 : Int32)), (.int (1 : Int32))]))) (fun t k => XS.iloadN X3.here hx rfl (hb hby d10_8) rfl k) ?_
  refine OD.go (B := (T3.setTop (mkF m 12 #[.val (.ref a1), .val (.int (2 : Int32)), .val (.int v28_4), .val (.int (1 : Int32))] []))) (fun t k => XS.icmpNo X3.here hx rfl (hb hby d10_9) rfl (tlt (by decide : (1 : Int32) < (2 : Int32))).2.1 k) ?_
  refine OD.go (B := (T3.setTop (mkF m 13 #[.val (.ref a1), .val (.int (2 : Int32)), .val (.int v28_4), .val (.int (1 : Int32))] [(.ref a1)]))) (fun t k => XS.aloadN X3.here hx rfl (hb hby d10_12) rfl rfl k) ?_
  obtain ⟨T7, X7, e7, st7⟩ := getF X3 hx hZ hown (host := "") (Or.inl (Wd47 hw)) Via.refl e3 F1 (g := (mkF m 13 #[.val (.ref a1), .val (.int (2 : Int32)), .val (.int v28_4), .val (.int (1 : Int32))] [(.ref a1)])) rfl rfl (hb hby d10_13)
  refine OD.go (B := (T7.setTop (mkF m 16 #[.val (.ref a1), .val (.int (2 : Int32)), .val (.int v28_4), .val (.int (1 : Int32))] [(.ref b)]))) st7 ?_
  refine OD.go (B := (T7.setTop (mkF m 17 #[.val (.ref a1), .val (.int (2 : Int32)), .val (.int v28_4), .val (.int (1 : Int32))] [(.int (1 : Int32)), (.ref b)]))) (fun t k => XS.iloadN X7.here hx rfl (hb hby d10_16) rfl k) ?_
  obtain ⟨cq8, kq8, qa8, qb8, qc8⟩ := isOf hZ e7 Eb
  obtain ⟨_, _, ⟨T8, L8, k8, n8⟩, -, X8, ⟨Lc8, hQ8, l8, y8, z8⟩, st8⟩ := X7.virtualBack hx (y := (⟨"java/lang/String", "charAt", "(I)C"⟩ : MethodName)) (z := (⟨"java/lang/String", "charAt", "(I)C"⟩ : MethodName)) hown (mvT hZ (Wd56 hw)) (mvT hZ (Wd57 hw)) (notFace_of_selects (args := #[]) (mvT hZ (Wd59 hw))) (mvT hZ (Wd59 hw)) (mvT hZ (Wd58 hw)) (by decide) (StrChars.Road.chN (W := 0) hZ hch (kI := 4) (Wd6 hw) Eb Vb Cb At hcd hbd (O2.ext X00.2) P5 (O4.ext X00.2) rG (Nat.le_of_ble_eq_true rfl) (i := 1) (Nat.le_of_ble_eq_true rfl) (j := (1 : Int32)) rfl (by decide) (by decide)) qa8 qc8 (g := (mkF m 17 #[.val (.ref a1), .val (.int (2 : Int32)), .val (.int v28_4), .val (.int (1 : Int32))] [(.int (1 : Int32)), (.ref b)])) rfl (by rw [hml]; rfl) (Steps.refl _) (argsL := [(.int (1 : Int32))]) (rest := []) (lenOf pd1 rfl) rfl (by show 2 * 0 + _ ≤ _; exact Nat.le_of_eq rfl) (hb hby d10_17) (fun _ _ => ⟨rfl, e7, (Nat.le_of_ble_eq_true rfl), (Nat.le_of_ble_eq_true rfl)⟩)
  dsimp only [Pt.U, Pt.locs, Pt.cells, Pt.slots] at X8 l8 y8 z8 st8 hQ8
  subst l8 y8 z8
  obtain ⟨rfl, rfl, e8⟩ := hQ8
  refine OD.via (B := (T8.setTop (mkF m 20 #[.val (.ref a1), .val (.int (2 : Int32)), .val (.int v28_4), .val (.int (1 : Int32))] [(.int c1)]))) st8 ?_
  refine OD.go (B := (T8.setTop (mkF m 22 #[.val (.ref a1), .val (.int (2 : Int32)), .val (.int v28_4), .val (.int (1 : Int32))] [(.int (10 : Int32)), (.int c1)]))) (fun t k => XS.bipush X8.here hx rfl (hb hby d10_20) k) ?_
  obtain ⟨v28_9, hv28_9⟩ : ∃ z : Int32, z = (if c1 = (10 : Int32) then (v28_4 + (1 : Int32)) else v28_4) := ⟨_, rfl⟩
  refine OD.cut (B := (T8.setTop (mkF m 28 #[.val (.ref a1), .val (.int (2 : Int32)), .val (.int v28_9), .val (.int (1 : Int32))] []))) (fun J28_10 => ?_) ?_
  · skip
    by_cases c22_11 : c1 = (10 : Int32)
    · refine OD.go (B := (T8.setTop (mkF m 25 #[.val (.ref a1), .val (.int (2 : Int32)), .val (.int v28_4), .val (.int (1 : Int32))] []))) (fun t k => XS.icmpNo X8.here hx rfl (hb hby d10_22) rfl (teq c22_11).2 k) ?_
      refine OD.go (B := (T8.setTop (mkF m 28 #[.val (.ref a1), .val (.int (2 : Int32)), .val (.int (v28_4 + (1 : Int32))), .val (.int (1 : Int32))] []))) (fun t k => XS.iinc X8.here hx rfl (hb hby d10_25) rfl (l' := #[.val (.ref a1), .val (.int (2 : Int32)), .val (.int (v28_4 + (1 : Int32))), .val (.int (1 : Int32))]) rfl k) ?_
      rw [if_pos c22_11] at hv28_9
      rw [hv28_9] at J28_10
      exact J28_10
    · refine OD.go (B := (T8.setTop (mkF m 28 #[.val (.ref a1), .val (.int (2 : Int32)), .val (.int v28_4), .val (.int (1 : Int32))] []))) (fun t k => XS.icmpYes X8.here hx rfl (pc0 := 22) (pc' := 28) rfl (hb hby d10_22) rfl (feq c22_11).2 (by decide) (by decide) k) ?_
      rw [if_neg c22_11] at hv28_9
      rw [hv28_9] at J28_10
      exact J28_10
  refine OD.go (B := (T8.setTop (mkF m 31 #[.val (.ref a1), .val (.int (2 : Int32)), .val (.int v28_9), .val (.int (2 : Int32))] []))) (fun t k => XS.iinc X8.here hx rfl (hb hby d10_28) rfl (l' := #[.val (.ref a1), .val (.int (2 : Int32)), .val (.int v28_9), .val (.int (2 : Int32))]) rfl k) ?_
  refine OD.go (B := (T8.setTop (mkF m 7 #[.val (.ref a1), .val (.int (2 : Int32)), .val (.int v28_9), .val (.int (2 : Int32))] []))) (fun t k => XS.goto X8.here hx rfl (pc0 := 31) (pc' := 7) rfl (hb hby d10_31) (by decide) (by decide) k) ?_
  refine OD.go (B := (T8.setTop (mkF m 8 #[.val (.ref a1), .val (.int (2 : Int32)), .val (.int v28_9), .val (.int (2 : Int32))] [(.int (2 : Int32))]))) (fun t k => XS.iloadN X8.here hx rfl (hb hby d10_7) rfl k) ?_
  refine OD.go (B := (T8.setTop (mkF m 9 #[.val (.ref a1), .val (.int (2 : Int32)), .val (.int v28_9), .val (.int (2 : Int32))] [(.int (2 : Int32)), (.int (2 : Int32))]))) (fun t k => XS.iloadN X8.here hx rfl (hb hby d10_8) rfl k) ?_
  refine OD.go (B := (T8.setTop (mkF m 34 #[.val (.ref a1), .val (.int (2 : Int32)), .val (.int v28_9), .val (.int (2 : Int32))] []))) (fun t k => XS.icmpYes X8.here hx rfl (pc0 := 9) (pc' := 34) rfl (hb hby d10_9) rfl (flt (by decide : ¬ (2 : Int32) < (2 : Int32))).2.1 (by decide) (by decide) k) ?_
  refine OD.go (B := (T8.setTop (mkF m 35 #[.val (.ref a1), .val (.int (2 : Int32)), .val (.int v28_9), .val (.int (2 : Int32))] [(.int v28_9)]))) (fun t k => XS.iloadN X8.here hx rfl (hb hby d10_34) rfl k) ?_
  exact OD.ret X8 hx hlk (t := .int) Bd.returns rfl (Or.inl ⟨rfl, Or.inl rfl, _, rfl⟩) (hb hby d10_35) (Nat.le_of_ble_eq_true rfl) (Nat.le_of_ble_eq_true rfl) ⟨(show some (Value.int v28_9) = some (Value.int (own_st (own_st ln c0) c1)) from by rw [hv28_9, hv28_4]; rfl), rfl, e8⟩
def Q_rmL3 (Z : State) (a1 : Addr) (h0 : Heap) (ln : Int32) (c0 c1 c2 : Int32) (v : Option Value) (h : Heap) (L : List Loc) : Prop := v = some (.int (own_st (own_st (own_st ln c0) c1) c2)) ∧ L = [] ∧ h = h0
set_option maxRecDepth 65536 in
set_option maxHeartbeats 40000000 in
theorem rmL3 (l : Launch) (Z : State) (a0 : Array Value) (hw : ∀ d ∈ tables_1, d.before a0 Z = true) (ws : List Jvm.Cond) (a1 : Addr) (h0 : Heap) (n0 : Nat) (X00 : Old Z n0 h0) (ln : Int32) (b t : Addr) (kb : ClassId) (c0 c1 c2 c3 : Int32) (E1 : Exa Z h0 a1 "com/example/querent/querent/trec/ElementReader$Element") (F1 : Fld Z h0 a1 "com/example/querent/querent/trec/ElementReader$Element" "body" "Ljava/lang/String;" (.ref b)) (F2 : Fld Z h0 a1 "com/example/querent/querent/trec/ElementReader$Element" "line" "I" (.int ln)) (Eb : Exa Z h0 b "java/lang/String") (Vb : Fld Z h0 b "java/lang/String" "value" "[B" (.ref t)) (Cb : Fld Z h0 b "java/lang/String" "coder" "B" (.int 0)) (At : Arv Z h0 t kb .byte (4 : Int32) ((([c0, c1, c2, c3] : List Int32).map (fun c => c.toInt8.toInt32)).map Value.int) (.int 0)) (hp : ∀ x ∈ ([c0, c1, c2, c3] : List Int32), ¬ x < 0 ∧ ¬ (255 : Int32) < x) (zc : Int32) (O2 : Sta Z Z.heap "java/lang/String" "COMPACT_STRINGS" "Z" (.int zc)) (P5 : ¬ zc = 0) (fm : Value) (O4 : Sta Z Z.heap "jdk/internal/util/Preconditions" "SIOOBE_FORMATTER" "Ljava/util/function/BiFunction;" fm) (rG : fm.isRef = true) :
    MetFree l (⟨"com/example/querent/querent/trec/ElementReader$Element", "lineAt", "(I)I"⟩ : MethodName) (head1 (Jvm.Cond.code (⟨"com/example/querent/querent/trec/ElementReader$Element", "lineAt", "(I)I"⟩ : MethodName) prog_27_method_2_code 4 (some .int) :: ws) ({ frames := 4, cells := 0, slots := 0, locals := 53 } : Room)) (fun a U => a = #[(.ref a1), (.int (3 : Int32))] ∧ Z.Warmed39 U.vm ∧ U.heap = h0) (fun _ _ _ _ _ => True) (fun _ U o U' => ∃ v L, o = .returned v ∧ Q_rmL3 Z a1 h0 ln c0 c1 c2 v U'.heap L ∧ FrameEnd U o U' L ({ frames := 4, cells := 0, slots := 0, locals := 53 } : Room).cells ({ frames := 4, cells := 0, slots := 0, locals := 53 } : Room).slots) := by
  refine MetFree.of_bodySF (plainFor_of_name pn2) hisR ?_
  intro p e s m args below meth c s₁ Bd hml0 hP hK
  obtain ⟨rfl, hZ, hh⟩ := hP
  have hx := Bd.exec
  have hby := Bd.bytes
  have hlk : meth.locks = false := Bd.notSynchronized
  have hml : c.maxLocals = 4 := hml0
  have hown : s.vm.findClass "com/example/querent/querent/trec/ElementReader$Element" = some m.cls := findClass_of_methodNamed Bd.named
  have hnm := (name_of_methodNamed Bd.named Bd.method).1
  have X0 : Stand p l e ({ frames := 4, cells := 0, slots := 0, locals := 53 } : Room) s m #[(.ref a1), (.int (3 : Int32))] below meth c s₁ [] 0 0 := Stand.of_body Bd
  have e0 : s₁.heap = h0 := by rw [← hh, Bd.state]; rfl
  have hch : ∀ d ∈ StrChars.Road.wordsChN, d.before a0 Z = true := fun d hd => hw d ((by decide +kernel : ∀ d ∈ StrChars.Road.wordsChN, d ∈ tables_1) d hd)
  have hcd : StrChars.Road.CodA ([c0, c1, c2, c3] : List Int32) 0 (4 : Int32) ((([c0, c1, c2, c3] : List Int32).map (fun c => c.toInt8.toInt32)).map Value.int) := StrChars.Road.codOf (n := 4) rfl (fun x hx => (hp x hx).2)
  have hbd := own_up hp
  suffices hgo : OD p e s below (Q_rmL3 Z a1 h0 ln c0 c1 c2) ({ frames := 4, cells := 0, slots := 0, locals := 53 } : Room).cells ({ frames := 4, cells := 0, slots := 0, locals := 53 } : Room).slots (s₁.setTop (mkF m 0 #[.val (.ref a1), .val (.int (3 : Int32)), .unset, .unset] [])) by
    obtain ⟨s₂, o, q1, q2⟩ := hgo
    exact ⟨s₂, o, castTop (ef4 m a1 (3 : Int32)) q1, q2⟩
  refine OD.go (B := (s₁.setTop (mkF m 1 #[.val (.ref a1), .val (.int (3 : Int32)), .unset, .unset] [(.ref a1)]))) (fun t k => XS.aloadN X0.here hx rfl (hb hby d10_0) rfl rfl k) ?_
  obtain ⟨T1, X1, e1, st1⟩ := getF X0 hx hZ hown (host := "") (Or.inl (Wd49 hw)) Via.refl e0 F2 (g := (mkF m 1 #[.val (.ref a1), .val (.int (3 : Int32)), .unset, .unset] [(.ref a1)])) rfl rfl (hb hby d10_1)
  refine OD.go (B := (T1.setTop (mkF m 4 #[.val (.ref a1), .val (.int (3 : Int32)), .unset, .unset] [(.int ln)]))) st1 ?_
  refine OD.go (B := (T1.setTop (mkF m 5 #[.val (.ref a1), .val (.int (3 : Int32)), .val (.int ln), .unset] []))) (fun t k => XS.istoreN X1.here hx rfl (hb hby d10_4) rfl (l' := #[.val (.ref a1), .val (.int (3 : Int32)), .val (.int ln), .unset]) rfl k) ?_
  refine OD.go (B := (T1.setTop (mkF m 6 #[.val (.ref a1), .val (.int (3 : Int32)), .val (.int ln), .unset] [(.int (0 : Int32))]))) (fun t k => XS.iconst X1.here hx rfl (hb hby d10_5) k) ?_
  refine OD.go (B := (T1.setTop (mkF m 7 #[.val (.ref a1), .val (.int (3 : Int32)), .val (.int ln), .val (.int (0 : Int32))] []))) (fun t k => XS.istoreN X1.here hx rfl (hb hby d10_6) rfl (l' := #[.val (.ref a1), .val (.int (3 : Int32)), .val (.int ln), .val (.int (0 : Int32))]) rfl k) ?_
  refine OD.go (B := (T1.setTop (mkF m 8 #[.val (.ref a1), .val (.int (3 : Int32)), .val (.int ln), .val (.int (0 : Int32))] [(.int (0 : Int32))]))) (fun t k => XS.iloadN X1.here hx rfl (hb hby d10_7) rfl k) ?_
  refine OD.go (B := (T1.setTop (mkF m 9 #[.val (.ref a1), .val (.int (3 : Int32)), .val (.int ln), .val (.int (0 : Int32))] [(.int (3 : Int32)), (.int (0 : Int32))]))) (fun t k => XS.iloadN X1.here hx rfl (hb hby d10_8) rfl k) ?_
  refine OD.go (B := (T1.setTop (mkF m 12 #[.val (.ref a1), .val (.int (3 : Int32)), .val (.int ln), .val (.int (0 : Int32))] []))) (fun t k => XS.icmpNo X1.here hx rfl (hb hby d10_9) rfl (tlt (by decide : (0 : Int32) < (3 : Int32))).2.1 k) ?_
  refine OD.go (B := (T1.setTop (mkF m 13 #[.val (.ref a1), .val (.int (3 : Int32)), .val (.int ln), .val (.int (0 : Int32))] [(.ref a1)]))) (fun t k => XS.aloadN X1.here hx rfl (hb hby d10_12) rfl rfl k) ?_
  obtain ⟨T2, X2, e2, st2⟩ := getF X1 hx hZ hown (host := "") (Or.inl (Wd47 hw)) Via.refl e1 F1 (g := (mkF m 13 #[.val (.ref a1), .val (.int (3 : Int32)), .val (.int ln), .val (.int (0 : Int32))] [(.ref a1)])) rfl rfl (hb hby d10_13)
  refine OD.go (B := (T2.setTop (mkF m 16 #[.val (.ref a1), .val (.int (3 : Int32)), .val (.int ln), .val (.int (0 : Int32))] [(.ref b)]))) st2 ?_
  refine OD.go (B := (T2.setTop (mkF m 17 #[.val (.ref a1), .val (.int (3 : Int32)), .val (.int ln), .val (.int (0 : Int32))] [(.int (0 : Int32)), (.ref b)]))) (fun t k => XS.iloadN X2.here hx rfl (hb hby d10_16) rfl k) ?_
  obtain ⟨cq3, kq3, qa3, qb3, qc3⟩ := isOf hZ e2 Eb
  obtain ⟨_, _, ⟨T3, L3, k3, n3⟩, -, X3, ⟨Lc3, hQ3, l3, y3, z3⟩, st3⟩ := X2.virtualBack hx (y := (⟨"java/lang/String", "charAt", "(I)C"⟩ : MethodName)) (z := (⟨"java/lang/String", "charAt", "(I)C"⟩ : MethodName)) hown (mvT hZ (Wd56 hw)) (mvT hZ (Wd57 hw)) (notFace_of_selects (args := #[]) (mvT hZ (Wd59 hw))) (mvT hZ (Wd59 hw)) (mvT hZ (Wd58 hw)) (by decide) (StrChars.Road.chN (W := 0) hZ hch (kI := 4) (Wd6 hw) Eb Vb Cb At hcd hbd (O2.ext X00.2) P5 (O4.ext X00.2) rG (Nat.le_of_ble_eq_true rfl) (i := 0) (Nat.le_of_ble_eq_true rfl) (j := (0 : Int32)) rfl (by decide) (by decide)) qa3 qc3 (g := (mkF m 17 #[.val (.ref a1), .val (.int (3 : Int32)), .val (.int ln), .val (.int (0 : Int32))] [(.int (0 : Int32)), (.ref b)])) rfl (by rw [hml]; rfl) (Steps.refl _) (argsL := [(.int (0 : Int32))]) (rest := []) (lenOf pd1 rfl) rfl (by show 2 * 0 + _ ≤ _; exact Nat.le_of_eq rfl) (hb hby d10_17) (fun _ _ => ⟨rfl, e2, (Nat.le_of_ble_eq_true rfl), (Nat.le_of_ble_eq_true rfl)⟩)
  dsimp only [Pt.U, Pt.locs, Pt.cells, Pt.slots] at X3 l3 y3 z3 st3 hQ3
  subst l3 y3 z3
  obtain ⟨rfl, rfl, e3⟩ := hQ3
  refine OD.via (B := (T3.setTop (mkF m 20 #[.val (.ref a1), .val (.int (3 : Int32)), .val (.int ln), .val (.int (0 : Int32))] [(.int c0)]))) st3 ?_
  refine OD.go (B := (T3.setTop (mkF m 22 #[.val (.ref a1), .val (.int (3 : Int32)), .val (.int ln), .val (.int (0 : Int32))] [(.int (10 : Int32)), (.int c0)]))) (fun t k => XS.bipush X3.here hx rfl (hb hby d10_20) k) ?_
  obtain ⟨v28_4, hv28_4⟩ : ∃ z : Int32, z = (if c0 = (10 : Int32) then (ln + (1 : Int32)) else ln) := ⟨_, rfl⟩
  refine OD.cut (B := (T3.setTop (mkF m 28 #[.val (.ref a1), .val (.int (3 : Int32)), .val (.int v28_4), .val (.int (0 : Int32))] []))) (fun J28_5 => ?_) ?_
  · skip
    by_cases c22_6 : c0 = (10 : Int32)
    · refine OD.go (B := (T3.setTop (mkF m 25 #[.val (.ref a1), .val (.int (3 : Int32)), .val (.int ln), .val (.int (0 : Int32))] []))) (fun t k => XS.icmpNo X3.here hx rfl (hb hby d10_22) rfl (teq c22_6).2 k) ?_
      refine OD.go (B := (T3.setTop (mkF m 28 #[.val (.ref a1), .val (.int (3 : Int32)), .val (.int (ln + (1 : Int32))), .val (.int (0 : Int32))] []))) (fun t k => XS.iinc X3.here hx rfl (hb hby d10_25) rfl (l' := #[.val (.ref a1), .val (.int (3 : Int32)), .val (.int (ln + (1 : Int32))), .val (.int (0 : Int32))]) rfl k) ?_
      rw [if_pos c22_6] at hv28_4
      rw [hv28_4] at J28_5
      exact J28_5
    · refine OD.go (B := (T3.setTop (mkF m 28 #[.val (.ref a1), .val (.int (3 : Int32)), .val (.int ln), .val (.int (0 : Int32))] []))) (fun t k => XS.icmpYes X3.here hx rfl (pc0 := 22) (pc' := 28) rfl (hb hby d10_22) rfl (feq c22_6).2 (by decide) (by decide) k) ?_
      rw [if_neg c22_6] at hv28_4
      rw [hv28_4] at J28_5
      exact J28_5
  refine OD.go (B := (T3.setTop (mkF m 31 #[.val (.ref a1), .val (.int (3 : Int32)), .val (.int v28_4), .val (.int (1 : Int32))] []))) (fun t k => XS.iinc X3.here hx rfl (hb hby d10_28) rfl (l' := #[.val (.ref a1), .val (.int (3 : Int32)), .val (.int v28_4), .val (.int (1 : Int32))]) rfl k) ?_
  refine OD.go (B := (T3.setTop (mkF m 7 #[.val (.ref a1), .val (.int (3 : Int32)), .val (.int v28_4), .val (.int (1 : Int32))] []))) (fun t k => XS.goto X3.here hx rfl (pc0 := 31) (pc' := 7) rfl (hb hby d10_31) (by decide) (by decide) k) ?_
  refine OD.go (B := (T3.setTop (mkF m 8 #[.val (.ref a1), .val (.int (3 : Int32)), .val (.int v28_4), .val (.int (1 : Int32))] [(.int (1 : Int32))]))) (fun t k => XS.iloadN X3.here hx rfl (hb hby d10_7) rfl k) ?_
  refine OD.go (B := (T3.setTop (mkF m 9 #[.val (.ref a1), .val (.int (3 : Int32)), .val (.int v28_4), .val (.int (1 : Int32))] [(.int (3 : Int32)), (.int (1 : Int32))]))) (fun t k => XS.iloadN X3.here hx rfl (hb hby d10_8) rfl k) ?_
  refine OD.go (B := (T3.setTop (mkF m 12 #[.val (.ref a1), .val (.int (3 : Int32)), .val (.int v28_4), .val (.int (1 : Int32))] []))) (fun t k => XS.icmpNo X3.here hx rfl (hb hby d10_9) rfl (tlt (by decide : (1 : Int32) < (3 : Int32))).2.1 k) ?_
  refine OD.go (B := (T3.setTop (mkF m 13 #[.val (.ref a1), .val (.int (3 : Int32)), .val (.int v28_4), .val (.int (1 : Int32))] [(.ref a1)]))) (fun t k => XS.aloadN X3.here hx rfl (hb hby d10_12) rfl rfl k) ?_
  obtain ⟨T7, X7, e7, st7⟩ := getF X3 hx hZ hown (host := "") (Or.inl (Wd47 hw)) Via.refl e3 F1 (g := (mkF m 13 #[.val (.ref a1), .val (.int (3 : Int32)), .val (.int v28_4), .val (.int (1 : Int32))] [(.ref a1)])) rfl rfl (hb hby d10_13)
  refine OD.go (B := (T7.setTop (mkF m 16 #[.val (.ref a1), .val (.int (3 : Int32)), .val (.int v28_4), .val (.int (1 : Int32))] [(.ref b)]))) st7 ?_
  refine OD.go (B := (T7.setTop (mkF m 17 #[.val (.ref a1), .val (.int (3 : Int32)), .val (.int v28_4), .val (.int (1 : Int32))] [(.int (1 : Int32)), (.ref b)]))) (fun t k => XS.iloadN X7.here hx rfl (hb hby d10_16) rfl k) ?_
  obtain ⟨cq8, kq8, qa8, qb8, qc8⟩ := isOf hZ e7 Eb
  obtain ⟨_, _, ⟨T8, L8, k8, n8⟩, -, X8, ⟨Lc8, hQ8, l8, y8, z8⟩, st8⟩ := X7.virtualBack hx (y := (⟨"java/lang/String", "charAt", "(I)C"⟩ : MethodName)) (z := (⟨"java/lang/String", "charAt", "(I)C"⟩ : MethodName)) hown (mvT hZ (Wd56 hw)) (mvT hZ (Wd57 hw)) (notFace_of_selects (args := #[]) (mvT hZ (Wd59 hw))) (mvT hZ (Wd59 hw)) (mvT hZ (Wd58 hw)) (by decide) (StrChars.Road.chN (W := 0) hZ hch (kI := 4) (Wd6 hw) Eb Vb Cb At hcd hbd (O2.ext X00.2) P5 (O4.ext X00.2) rG (Nat.le_of_ble_eq_true rfl) (i := 1) (Nat.le_of_ble_eq_true rfl) (j := (1 : Int32)) rfl (by decide) (by decide)) qa8 qc8 (g := (mkF m 17 #[.val (.ref a1), .val (.int (3 : Int32)), .val (.int v28_4), .val (.int (1 : Int32))] [(.int (1 : Int32)), (.ref b)])) rfl (by rw [hml]; rfl) (Steps.refl _) (argsL := [(.int (1 : Int32))]) (rest := []) (lenOf pd1 rfl) rfl (by show 2 * 0 + _ ≤ _; exact Nat.le_of_eq rfl) (hb hby d10_17) (fun _ _ => ⟨rfl, e7, (Nat.le_of_ble_eq_true rfl), (Nat.le_of_ble_eq_true rfl)⟩)
  dsimp only [Pt.U, Pt.locs, Pt.cells, Pt.slots] at X8 l8 y8 z8 st8 hQ8
  subst l8 y8 z8
  obtain ⟨rfl, rfl, e8⟩ := hQ8
  refine OD.via (B := (T8.setTop (mkF m 20 #[.val (.ref a1), .val (.int (3 : Int32)), .val (.int v28_4), .val (.int (1 : Int32))] [(.int c1)]))) st8 ?_
  refine OD.go (B := (T8.setTop (mkF m 22 #[.val (.ref a1), .val (.int (3 : Int32)), .val (.int v28_4), .val (.int (1 : Int32))] [(.int (10 : Int32)), (.int c1)]))) (fun t k => XS.bipush X8.here hx rfl (hb hby d10_20) k) ?_
  obtain ⟨v28_9, hv28_9⟩ : ∃ z : Int32, z = (if c1 = (10 : Int32) then (v28_4 + (1 : Int32)) else v28_4) := ⟨_, rfl⟩
  refine OD.cut (B := (T8.setTop (mkF m 28 #[.val (.ref a1), .val (.int (3 : Int32)), .val (.int v28_9), .val (.int (1 : Int32))] []))) (fun J28_10 => ?_) ?_
  · skip
    by_cases c22_11 : c1 = (10 : Int32)
    · refine OD.go (B := (T8.setTop (mkF m 25 #[.val (.ref a1), .val (.int (3 : Int32)), .val (.int v28_4), .val (.int (1 : Int32))] []))) (fun t k => XS.icmpNo X8.here hx rfl (hb hby d10_22) rfl (teq c22_11).2 k) ?_
      refine OD.go (B := (T8.setTop (mkF m 28 #[.val (.ref a1), .val (.int (3 : Int32)), .val (.int (v28_4 + (1 : Int32))), .val (.int (1 : Int32))] []))) (fun t k => XS.iinc X8.here hx rfl (hb hby d10_25) rfl (l' := #[.val (.ref a1), .val (.int (3 : Int32)), .val (.int (v28_4 + (1 : Int32))), .val (.int (1 : Int32))]) rfl k) ?_
      rw [if_pos c22_11] at hv28_9
      rw [hv28_9] at J28_10
      exact J28_10
    · refine OD.go (B := (T8.setTop (mkF m 28 #[.val (.ref a1), .val (.int (3 : Int32)), .val (.int v28_4), .val (.int (1 : Int32))] []))) (fun t k => XS.icmpYes X8.here hx rfl (pc0 := 22) (pc' := 28) rfl (hb hby d10_22) rfl (feq c22_11).2 (by decide) (by decide) k) ?_
      rw [if_neg c22_11] at hv28_9
      rw [hv28_9] at J28_10
      exact J28_10
  refine OD.go (B := (T8.setTop (mkF m 31 #[.val (.ref a1), .val (.int (3 : Int32)), .val (.int v28_9), .val (.int (2 : Int32))] []))) (fun t k => XS.iinc X8.here hx rfl (hb hby d10_28) rfl (l' := #[.val (.ref a1), .val (.int (3 : Int32)), .val (.int v28_9), .val (.int (2 : Int32))]) rfl k) ?_
  refine OD.go (B := (T8.setTop (mkF m 7 #[.val (.ref a1), .val (.int (3 : Int32)), .val (.int v28_9), .val (.int (2 : Int32))] []))) (fun t k => XS.goto X8.here hx rfl (pc0 := 31) (pc' := 7) rfl (hb hby d10_31) (by decide) (by decide) k) ?_
  refine OD.go (B := (T8.setTop (mkF m 8 #[.val (.ref a1), .val (.int (3 : Int32)), .val (.int v28_9), .val (.int (2 : Int32))] [(.int (2 : Int32))]))) (fun t k => XS.iloadN X8.here hx rfl (hb hby d10_7) rfl k) ?_
  refine OD.go (B := (T8.setTop (mkF m 9 #[.val (.ref a1), .val (.int (3 : Int32)), .val (.int v28_9), .val (.int (2 : Int32))] [(.int (3 : Int32)), (.int (2 : Int32))]))) (fun t k => XS.iloadN X8.here hx rfl (hb hby d10_8) rfl k) ?_
  refine OD.go (B := (T8.setTop (mkF m 12 #[.val (.ref a1), .val (.int (3 : Int32)), .val (.int v28_9), .val (.int (2 : Int32))] []))) (fun t k => XS.icmpNo X8.here hx rfl (hb hby d10_9) rfl (tlt (by decide : (2 : Int32) < (3 : Int32))).2.1 k) ?_
  refine OD.go (B := (T8.setTop (mkF m 13 #[.val (.ref a1), .val (.int (3 : Int32)), .val (.int v28_9), .val (.int (2 : Int32))] [(.ref a1)]))) (fun t k => XS.aloadN X8.here hx rfl (hb hby d10_12) rfl rfl k) ?_
  obtain ⟨T12, X12, e12, st12⟩ := getF X8 hx hZ hown (host := "") (Or.inl (Wd47 hw)) Via.refl e8 F1 (g := (mkF m 13 #[.val (.ref a1), .val (.int (3 : Int32)), .val (.int v28_9), .val (.int (2 : Int32))] [(.ref a1)])) rfl rfl (hb hby d10_13)
  refine OD.go (B := (T12.setTop (mkF m 16 #[.val (.ref a1), .val (.int (3 : Int32)), .val (.int v28_9), .val (.int (2 : Int32))] [(.ref b)]))) st12 ?_
  refine OD.go (B := (T12.setTop (mkF m 17 #[.val (.ref a1), .val (.int (3 : Int32)), .val (.int v28_9), .val (.int (2 : Int32))] [(.int (2 : Int32)), (.ref b)]))) (fun t k => XS.iloadN X12.here hx rfl (hb hby d10_16) rfl k) ?_
  obtain ⟨cq13, kq13, qa13, qb13, qc13⟩ := isOf hZ e12 Eb
  obtain ⟨_, _, ⟨T13, L13, k13, n13⟩, -, X13, ⟨Lc13, hQ13, l13, y13, z13⟩, st13⟩ := X12.virtualBack hx (y := (⟨"java/lang/String", "charAt", "(I)C"⟩ : MethodName)) (z := (⟨"java/lang/String", "charAt", "(I)C"⟩ : MethodName)) hown (mvT hZ (Wd56 hw)) (mvT hZ (Wd57 hw)) (notFace_of_selects (args := #[]) (mvT hZ (Wd59 hw))) (mvT hZ (Wd59 hw)) (mvT hZ (Wd58 hw)) (by decide) (StrChars.Road.chN (W := 0) hZ hch (kI := 4) (Wd6 hw) Eb Vb Cb At hcd hbd (O2.ext X00.2) P5 (O4.ext X00.2) rG (Nat.le_of_ble_eq_true rfl) (i := 2) (Nat.le_of_ble_eq_true rfl) (j := (2 : Int32)) rfl (by decide) (by decide)) qa13 qc13 (g := (mkF m 17 #[.val (.ref a1), .val (.int (3 : Int32)), .val (.int v28_9), .val (.int (2 : Int32))] [(.int (2 : Int32)), (.ref b)])) rfl (by rw [hml]; rfl) (Steps.refl _) (argsL := [(.int (2 : Int32))]) (rest := []) (lenOf pd1 rfl) rfl (by show 2 * 0 + _ ≤ _; exact Nat.le_of_eq rfl) (hb hby d10_17) (fun _ _ => ⟨rfl, e12, (Nat.le_of_ble_eq_true rfl), (Nat.le_of_ble_eq_true rfl)⟩)
  dsimp only [Pt.U, Pt.locs, Pt.cells, Pt.slots] at X13 l13 y13 z13 st13 hQ13
  subst l13 y13 z13
  obtain ⟨rfl, rfl, e13⟩ := hQ13
  refine OD.via (B := (T13.setTop (mkF m 20 #[.val (.ref a1), .val (.int (3 : Int32)), .val (.int v28_9), .val (.int (2 : Int32))] [(.int c2)]))) st13 ?_
  refine OD.go (B := (T13.setTop (mkF m 22 #[.val (.ref a1), .val (.int (3 : Int32)), .val (.int v28_9), .val (.int (2 : Int32))] [(.int (10 : Int32)), (.int c2)]))) (fun t k => XS.bipush X13.here hx rfl (hb hby d10_20) k) ?_
  obtain ⟨v28_14, hv28_14⟩ : ∃ z : Int32, z = (if c2 = (10 : Int32) then (v28_9 + (1 : Int32)) else v28_9) := ⟨_, rfl⟩
  refine OD.cut (B := (T13.setTop (mkF m 28 #[.val (.ref a1), .val (.int (3 : Int32)), .val (.int v28_14), .val (.int (2 : Int32))] []))) (fun J28_15 => ?_) ?_
  · skip
    by_cases c22_16 : c2 = (10 : Int32)
    · refine OD.go (B := (T13.setTop (mkF m 25 #[.val (.ref a1), .val (.int (3 : Int32)), .val (.int v28_9), .val (.int (2 : Int32))] []))) (fun t k => XS.icmpNo X13.here hx rfl (hb hby d10_22) rfl (teq c22_16).2 k) ?_
      refine OD.go (B := (T13.setTop (mkF m 28 #[.val (.ref a1), .val (.int (3 : Int32)), .val (.int (v28_9 + (1 : Int32))), .val (.int (2 : Int32))] []))) (fun t k => XS.iinc X13.here hx rfl (hb hby d10_25) rfl (l' := #[.val (.ref a1), .val (.int (3 : Int32)), .val (.int (v28_9 + (1 : Int32))), .val (.int (2 : Int32))]) rfl k) ?_
      rw [if_pos c22_16] at hv28_14
      rw [hv28_14] at J28_15
      exact J28_15
    · refine OD.go (B := (T13.setTop (mkF m 28 #[.val (.ref a1), .val (.int (3 : Int32)), .val (.int v28_9), .val (.int (2 : Int32))] []))) (fun t k => XS.icmpYes X13.here hx rfl (pc0 := 22) (pc' := 28) rfl (hb hby d10_22) rfl (feq c22_16).2 (by decide) (by decide) k) ?_
      rw [if_neg c22_16] at hv28_14
      rw [hv28_14] at J28_15
      exact J28_15
  refine OD.go (B := (T13.setTop (mkF m 31 #[.val (.ref a1), .val (.int (3 : Int32)), .val (.int v28_14), .val (.int (3 : Int32))] []))) (fun t k => XS.iinc X13.here hx rfl (hb hby d10_28) rfl (l' := #[.val (.ref a1), .val (.int (3 : Int32)), .val (.int v28_14), .val (.int (3 : Int32))]) rfl k) ?_
  refine OD.go (B := (T13.setTop (mkF m 7 #[.val (.ref a1), .val (.int (3 : Int32)), .val (.int v28_14), .val (.int (3 : Int32))] []))) (fun t k => XS.goto X13.here hx rfl (pc0 := 31) (pc' := 7) rfl (hb hby d10_31) (by decide) (by decide) k) ?_
  refine OD.go (B := (T13.setTop (mkF m 8 #[.val (.ref a1), .val (.int (3 : Int32)), .val (.int v28_14), .val (.int (3 : Int32))] [(.int (3 : Int32))]))) (fun t k => XS.iloadN X13.here hx rfl (hb hby d10_7) rfl k) ?_
  refine OD.go (B := (T13.setTop (mkF m 9 #[.val (.ref a1), .val (.int (3 : Int32)), .val (.int v28_14), .val (.int (3 : Int32))] [(.int (3 : Int32)), (.int (3 : Int32))]))) (fun t k => XS.iloadN X13.here hx rfl (hb hby d10_8) rfl k) ?_
  refine OD.go (B := (T13.setTop (mkF m 34 #[.val (.ref a1), .val (.int (3 : Int32)), .val (.int v28_14), .val (.int (3 : Int32))] []))) (fun t k => XS.icmpYes X13.here hx rfl (pc0 := 9) (pc' := 34) rfl (hb hby d10_9) rfl (flt (by decide : ¬ (3 : Int32) < (3 : Int32))).2.1 (by decide) (by decide) k) ?_
  refine OD.go (B := (T13.setTop (mkF m 35 #[.val (.ref a1), .val (.int (3 : Int32)), .val (.int v28_14), .val (.int (3 : Int32))] [(.int v28_14)]))) (fun t k => XS.iloadN X13.here hx rfl (hb hby d10_34) rfl k) ?_
  exact OD.ret X13 hx hlk (t := .int) Bd.returns rfl (Or.inl ⟨rfl, Or.inl rfl, _, rfl⟩) (hb hby d10_35) (Nat.le_of_ble_eq_true rfl) (Nat.le_of_ble_eq_true rfl) ⟨(show some (Value.int v28_14) = some (Value.int (own_st (own_st (own_st ln c0) c1) c2)) from by rw [hv28_14, hv28_9, hv28_4]; rfl), rfl, e13⟩
def Q_rmL4 (Z : State) (a1 : Addr) (h0 : Heap) (ln : Int32) (c0 c1 c2 c3 : Int32) (v : Option Value) (h : Heap) (L : List Loc) : Prop := v = some (.int (own_st (own_st (own_st (own_st ln c0) c1) c2) c3)) ∧ L = [] ∧ h = h0
set_option maxRecDepth 65536 in
set_option maxHeartbeats 40000000 in
theorem rmL4 (l : Launch) (Z : State) (a0 : Array Value) (hw : ∀ d ∈ tables_1, d.before a0 Z = true) (ws : List Jvm.Cond) (a1 : Addr) (h0 : Heap) (n0 : Nat) (X00 : Old Z n0 h0) (ln : Int32) (b t : Addr) (kb : ClassId) (c0 c1 c2 c3 : Int32) (E1 : Exa Z h0 a1 "com/example/querent/querent/trec/ElementReader$Element") (F1 : Fld Z h0 a1 "com/example/querent/querent/trec/ElementReader$Element" "body" "Ljava/lang/String;" (.ref b)) (F2 : Fld Z h0 a1 "com/example/querent/querent/trec/ElementReader$Element" "line" "I" (.int ln)) (Eb : Exa Z h0 b "java/lang/String") (Vb : Fld Z h0 b "java/lang/String" "value" "[B" (.ref t)) (Cb : Fld Z h0 b "java/lang/String" "coder" "B" (.int 0)) (At : Arv Z h0 t kb .byte (4 : Int32) ((([c0, c1, c2, c3] : List Int32).map (fun c => c.toInt8.toInt32)).map Value.int) (.int 0)) (hp : ∀ x ∈ ([c0, c1, c2, c3] : List Int32), ¬ x < 0 ∧ ¬ (255 : Int32) < x) (zc : Int32) (O2 : Sta Z Z.heap "java/lang/String" "COMPACT_STRINGS" "Z" (.int zc)) (P5 : ¬ zc = 0) (fm : Value) (O4 : Sta Z Z.heap "jdk/internal/util/Preconditions" "SIOOBE_FORMATTER" "Ljava/util/function/BiFunction;" fm) (rG : fm.isRef = true) :
    MetFree l (⟨"com/example/querent/querent/trec/ElementReader$Element", "lineAt", "(I)I"⟩ : MethodName) (head1 (Jvm.Cond.code (⟨"com/example/querent/querent/trec/ElementReader$Element", "lineAt", "(I)I"⟩ : MethodName) prog_27_method_2_code 4 (some .int) :: ws) ({ frames := 4, cells := 0, slots := 0, locals := 53 } : Room)) (fun a U => a = #[(.ref a1), (.int (4 : Int32))] ∧ Z.Warmed39 U.vm ∧ U.heap = h0) (fun _ _ _ _ _ => True) (fun _ U o U' => ∃ v L, o = .returned v ∧ Q_rmL4 Z a1 h0 ln c0 c1 c2 c3 v U'.heap L ∧ FrameEnd U o U' L ({ frames := 4, cells := 0, slots := 0, locals := 53 } : Room).cells ({ frames := 4, cells := 0, slots := 0, locals := 53 } : Room).slots) := by
  refine MetFree.of_bodySF (plainFor_of_name pn2) hisR ?_
  intro p e s m args below meth c s₁ Bd hml0 hP hK
  obtain ⟨rfl, hZ, hh⟩ := hP
  have hx := Bd.exec
  have hby := Bd.bytes
  have hlk : meth.locks = false := Bd.notSynchronized
  have hml : c.maxLocals = 4 := hml0
  have hown : s.vm.findClass "com/example/querent/querent/trec/ElementReader$Element" = some m.cls := findClass_of_methodNamed Bd.named
  have hnm := (name_of_methodNamed Bd.named Bd.method).1
  have X0 : Stand p l e ({ frames := 4, cells := 0, slots := 0, locals := 53 } : Room) s m #[(.ref a1), (.int (4 : Int32))] below meth c s₁ [] 0 0 := Stand.of_body Bd
  have e0 : s₁.heap = h0 := by rw [← hh, Bd.state]; rfl
  have hch : ∀ d ∈ StrChars.Road.wordsChN, d.before a0 Z = true := fun d hd => hw d ((by decide +kernel : ∀ d ∈ StrChars.Road.wordsChN, d ∈ tables_1) d hd)
  have hcd : StrChars.Road.CodA ([c0, c1, c2, c3] : List Int32) 0 (4 : Int32) ((([c0, c1, c2, c3] : List Int32).map (fun c => c.toInt8.toInt32)).map Value.int) := StrChars.Road.codOf (n := 4) rfl (fun x hx => (hp x hx).2)
  have hbd := own_up hp
  suffices hgo : OD p e s below (Q_rmL4 Z a1 h0 ln c0 c1 c2 c3) ({ frames := 4, cells := 0, slots := 0, locals := 53 } : Room).cells ({ frames := 4, cells := 0, slots := 0, locals := 53 } : Room).slots (s₁.setTop (mkF m 0 #[.val (.ref a1), .val (.int (4 : Int32)), .unset, .unset] [])) by
    obtain ⟨s₂, o, q1, q2⟩ := hgo
    exact ⟨s₂, o, castTop (ef4 m a1 (4 : Int32)) q1, q2⟩
  refine OD.go (B := (s₁.setTop (mkF m 1 #[.val (.ref a1), .val (.int (4 : Int32)), .unset, .unset] [(.ref a1)]))) (fun t k => XS.aloadN X0.here hx rfl (hb hby d10_0) rfl rfl k) ?_
  obtain ⟨T1, X1, e1, st1⟩ := getF X0 hx hZ hown (host := "") (Or.inl (Wd49 hw)) Via.refl e0 F2 (g := (mkF m 1 #[.val (.ref a1), .val (.int (4 : Int32)), .unset, .unset] [(.ref a1)])) rfl rfl (hb hby d10_1)
  refine OD.go (B := (T1.setTop (mkF m 4 #[.val (.ref a1), .val (.int (4 : Int32)), .unset, .unset] [(.int ln)]))) st1 ?_
  refine OD.go (B := (T1.setTop (mkF m 5 #[.val (.ref a1), .val (.int (4 : Int32)), .val (.int ln), .unset] []))) (fun t k => XS.istoreN X1.here hx rfl (hb hby d10_4) rfl (l' := #[.val (.ref a1), .val (.int (4 : Int32)), .val (.int ln), .unset]) rfl k) ?_
  refine OD.go (B := (T1.setTop (mkF m 6 #[.val (.ref a1), .val (.int (4 : Int32)), .val (.int ln), .unset] [(.int (0 : Int32))]))) (fun t k => XS.iconst X1.here hx rfl (hb hby d10_5) k) ?_
  refine OD.go (B := (T1.setTop (mkF m 7 #[.val (.ref a1), .val (.int (4 : Int32)), .val (.int ln), .val (.int (0 : Int32))] []))) (fun t k => XS.istoreN X1.here hx rfl (hb hby d10_6) rfl (l' := #[.val (.ref a1), .val (.int (4 : Int32)), .val (.int ln), .val (.int (0 : Int32))]) rfl k) ?_
  refine OD.go (B := (T1.setTop (mkF m 8 #[.val (.ref a1), .val (.int (4 : Int32)), .val (.int ln), .val (.int (0 : Int32))] [(.int (0 : Int32))]))) (fun t k => XS.iloadN X1.here hx rfl (hb hby d10_7) rfl k) ?_
  refine OD.go (B := (T1.setTop (mkF m 9 #[.val (.ref a1), .val (.int (4 : Int32)), .val (.int ln), .val (.int (0 : Int32))] [(.int (4 : Int32)), (.int (0 : Int32))]))) (fun t k => XS.iloadN X1.here hx rfl (hb hby d10_8) rfl k) ?_
  refine OD.go (B := (T1.setTop (mkF m 12 #[.val (.ref a1), .val (.int (4 : Int32)), .val (.int ln), .val (.int (0 : Int32))] []))) (fun t k => XS.icmpNo X1.here hx rfl (hb hby d10_9) rfl (tlt (by decide : (0 : Int32) < (4 : Int32))).2.1 k) ?_
  refine OD.go (B := (T1.setTop (mkF m 13 #[.val (.ref a1), .val (.int (4 : Int32)), .val (.int ln), .val (.int (0 : Int32))] [(.ref a1)]))) (fun t k => XS.aloadN X1.here hx rfl (hb hby d10_12) rfl rfl k) ?_
  obtain ⟨T2, X2, e2, st2⟩ := getF X1 hx hZ hown (host := "") (Or.inl (Wd47 hw)) Via.refl e1 F1 (g := (mkF m 13 #[.val (.ref a1), .val (.int (4 : Int32)), .val (.int ln), .val (.int (0 : Int32))] [(.ref a1)])) rfl rfl (hb hby d10_13)
  refine OD.go (B := (T2.setTop (mkF m 16 #[.val (.ref a1), .val (.int (4 : Int32)), .val (.int ln), .val (.int (0 : Int32))] [(.ref b)]))) st2 ?_
  refine OD.go (B := (T2.setTop (mkF m 17 #[.val (.ref a1), .val (.int (4 : Int32)), .val (.int ln), .val (.int (0 : Int32))] [(.int (0 : Int32)), (.ref b)]))) (fun t k => XS.iloadN X2.here hx rfl (hb hby d10_16) rfl k) ?_
  obtain ⟨cq3, kq3, qa3, qb3, qc3⟩ := isOf hZ e2 Eb
  obtain ⟨_, _, ⟨T3, L3, k3, n3⟩, -, X3, ⟨Lc3, hQ3, l3, y3, z3⟩, st3⟩ := X2.virtualBack hx (y := (⟨"java/lang/String", "charAt", "(I)C"⟩ : MethodName)) (z := (⟨"java/lang/String", "charAt", "(I)C"⟩ : MethodName)) hown (mvT hZ (Wd56 hw)) (mvT hZ (Wd57 hw)) (notFace_of_selects (args := #[]) (mvT hZ (Wd59 hw))) (mvT hZ (Wd59 hw)) (mvT hZ (Wd58 hw)) (by decide) (StrChars.Road.chN (W := 0) hZ hch (kI := 4) (Wd6 hw) Eb Vb Cb At hcd hbd (O2.ext X00.2) P5 (O4.ext X00.2) rG (Nat.le_of_ble_eq_true rfl) (i := 0) (Nat.le_of_ble_eq_true rfl) (j := (0 : Int32)) rfl (by decide) (by decide)) qa3 qc3 (g := (mkF m 17 #[.val (.ref a1), .val (.int (4 : Int32)), .val (.int ln), .val (.int (0 : Int32))] [(.int (0 : Int32)), (.ref b)])) rfl (by rw [hml]; rfl) (Steps.refl _) (argsL := [(.int (0 : Int32))]) (rest := []) (lenOf pd1 rfl) rfl (by show 2 * 0 + _ ≤ _; exact Nat.le_of_eq rfl) (hb hby d10_17) (fun _ _ => ⟨rfl, e2, (Nat.le_of_ble_eq_true rfl), (Nat.le_of_ble_eq_true rfl)⟩)
  dsimp only [Pt.U, Pt.locs, Pt.cells, Pt.slots] at X3 l3 y3 z3 st3 hQ3
  subst l3 y3 z3
  obtain ⟨rfl, rfl, e3⟩ := hQ3
  refine OD.via (B := (T3.setTop (mkF m 20 #[.val (.ref a1), .val (.int (4 : Int32)), .val (.int ln), .val (.int (0 : Int32))] [(.int c0)]))) st3 ?_
  refine OD.go (B := (T3.setTop (mkF m 22 #[.val (.ref a1), .val (.int (4 : Int32)), .val (.int ln), .val (.int (0 : Int32))] [(.int (10 : Int32)), (.int c0)]))) (fun t k => XS.bipush X3.here hx rfl (hb hby d10_20) k) ?_
  obtain ⟨v28_4, hv28_4⟩ : ∃ z : Int32, z = (if c0 = (10 : Int32) then (ln + (1 : Int32)) else ln) := ⟨_, rfl⟩
  refine OD.cut (B := (T3.setTop (mkF m 28 #[.val (.ref a1), .val (.int (4 : Int32)), .val (.int v28_4), .val (.int (0 : Int32))] []))) (fun J28_5 => ?_) ?_
  · skip
    by_cases c22_6 : c0 = (10 : Int32)
    · refine OD.go (B := (T3.setTop (mkF m 25 #[.val (.ref a1), .val (.int (4 : Int32)), .val (.int ln), .val (.int (0 : Int32))] []))) (fun t k => XS.icmpNo X3.here hx rfl (hb hby d10_22) rfl (teq c22_6).2 k) ?_
      refine OD.go (B := (T3.setTop (mkF m 28 #[.val (.ref a1), .val (.int (4 : Int32)), .val (.int (ln + (1 : Int32))), .val (.int (0 : Int32))] []))) (fun t k => XS.iinc X3.here hx rfl (hb hby d10_25) rfl (l' := #[.val (.ref a1), .val (.int (4 : Int32)), .val (.int (ln + (1 : Int32))), .val (.int (0 : Int32))]) rfl k) ?_
      rw [if_pos c22_6] at hv28_4
      rw [hv28_4] at J28_5
      exact J28_5
    · refine OD.go (B := (T3.setTop (mkF m 28 #[.val (.ref a1), .val (.int (4 : Int32)), .val (.int ln), .val (.int (0 : Int32))] []))) (fun t k => XS.icmpYes X3.here hx rfl (pc0 := 22) (pc' := 28) rfl (hb hby d10_22) rfl (feq c22_6).2 (by decide) (by decide) k) ?_
      rw [if_neg c22_6] at hv28_4
      rw [hv28_4] at J28_5
      exact J28_5
  refine OD.go (B := (T3.setTop (mkF m 31 #[.val (.ref a1), .val (.int (4 : Int32)), .val (.int v28_4), .val (.int (1 : Int32))] []))) (fun t k => XS.iinc X3.here hx rfl (hb hby d10_28) rfl (l' := #[.val (.ref a1), .val (.int (4 : Int32)), .val (.int v28_4), .val (.int (1 : Int32))]) rfl k) ?_
  refine OD.go (B := (T3.setTop (mkF m 7 #[.val (.ref a1), .val (.int (4 : Int32)), .val (.int v28_4), .val (.int (1 : Int32))] []))) (fun t k => XS.goto X3.here hx rfl (pc0 := 31) (pc' := 7) rfl (hb hby d10_31) (by decide) (by decide) k) ?_
  refine OD.go (B := (T3.setTop (mkF m 8 #[.val (.ref a1), .val (.int (4 : Int32)), .val (.int v28_4), .val (.int (1 : Int32))] [(.int (1 : Int32))]))) (fun t k => XS.iloadN X3.here hx rfl (hb hby d10_7) rfl k) ?_
  refine OD.go (B := (T3.setTop (mkF m 9 #[.val (.ref a1), .val (.int (4 : Int32)), .val (.int v28_4), .val (.int (1 : Int32))] [(.int (4 : Int32)), (.int (1 : Int32))]))) (fun t k => XS.iloadN X3.here hx rfl (hb hby d10_8) rfl k) ?_
  refine OD.go (B := (T3.setTop (mkF m 12 #[.val (.ref a1), .val (.int (4 : Int32)), .val (.int v28_4), .val (.int (1 : Int32))] []))) (fun t k => XS.icmpNo X3.here hx rfl (hb hby d10_9) rfl (tlt (by decide : (1 : Int32) < (4 : Int32))).2.1 k) ?_
  refine OD.go (B := (T3.setTop (mkF m 13 #[.val (.ref a1), .val (.int (4 : Int32)), .val (.int v28_4), .val (.int (1 : Int32))] [(.ref a1)]))) (fun t k => XS.aloadN X3.here hx rfl (hb hby d10_12) rfl rfl k) ?_
  obtain ⟨T7, X7, e7, st7⟩ := getF X3 hx hZ hown (host := "") (Or.inl (Wd47 hw)) Via.refl e3 F1 (g := (mkF m 13 #[.val (.ref a1), .val (.int (4 : Int32)), .val (.int v28_4), .val (.int (1 : Int32))] [(.ref a1)])) rfl rfl (hb hby d10_13)
  refine OD.go (B := (T7.setTop (mkF m 16 #[.val (.ref a1), .val (.int (4 : Int32)), .val (.int v28_4), .val (.int (1 : Int32))] [(.ref b)]))) st7 ?_
  refine OD.go (B := (T7.setTop (mkF m 17 #[.val (.ref a1), .val (.int (4 : Int32)), .val (.int v28_4), .val (.int (1 : Int32))] [(.int (1 : Int32)), (.ref b)]))) (fun t k => XS.iloadN X7.here hx rfl (hb hby d10_16) rfl k) ?_
  obtain ⟨cq8, kq8, qa8, qb8, qc8⟩ := isOf hZ e7 Eb
  obtain ⟨_, _, ⟨T8, L8, k8, n8⟩, -, X8, ⟨Lc8, hQ8, l8, y8, z8⟩, st8⟩ := X7.virtualBack hx (y := (⟨"java/lang/String", "charAt", "(I)C"⟩ : MethodName)) (z := (⟨"java/lang/String", "charAt", "(I)C"⟩ : MethodName)) hown (mvT hZ (Wd56 hw)) (mvT hZ (Wd57 hw)) (notFace_of_selects (args := #[]) (mvT hZ (Wd59 hw))) (mvT hZ (Wd59 hw)) (mvT hZ (Wd58 hw)) (by decide) (StrChars.Road.chN (W := 0) hZ hch (kI := 4) (Wd6 hw) Eb Vb Cb At hcd hbd (O2.ext X00.2) P5 (O4.ext X00.2) rG (Nat.le_of_ble_eq_true rfl) (i := 1) (Nat.le_of_ble_eq_true rfl) (j := (1 : Int32)) rfl (by decide) (by decide)) qa8 qc8 (g := (mkF m 17 #[.val (.ref a1), .val (.int (4 : Int32)), .val (.int v28_4), .val (.int (1 : Int32))] [(.int (1 : Int32)), (.ref b)])) rfl (by rw [hml]; rfl) (Steps.refl _) (argsL := [(.int (1 : Int32))]) (rest := []) (lenOf pd1 rfl) rfl (by show 2 * 0 + _ ≤ _; exact Nat.le_of_eq rfl) (hb hby d10_17) (fun _ _ => ⟨rfl, e7, (Nat.le_of_ble_eq_true rfl), (Nat.le_of_ble_eq_true rfl)⟩)
  dsimp only [Pt.U, Pt.locs, Pt.cells, Pt.slots] at X8 l8 y8 z8 st8 hQ8
  subst l8 y8 z8
  obtain ⟨rfl, rfl, e8⟩ := hQ8
  refine OD.via (B := (T8.setTop (mkF m 20 #[.val (.ref a1), .val (.int (4 : Int32)), .val (.int v28_4), .val (.int (1 : Int32))] [(.int c1)]))) st8 ?_
  refine OD.go (B := (T8.setTop (mkF m 22 #[.val (.ref a1), .val (.int (4 : Int32)), .val (.int v28_4), .val (.int (1 : Int32))] [(.int (10 : Int32)), (.int c1)]))) (fun t k => XS.bipush X8.here hx rfl (hb hby d10_20) k) ?_
  obtain ⟨v28_9, hv28_9⟩ : ∃ z : Int32, z = (if c1 = (10 : Int32) then (v28_4 + (1 : Int32)) else v28_4) := ⟨_, rfl⟩
  refine OD.cut (B := (T8.setTop (mkF m 28 #[.val (.ref a1), .val (.int (4 : Int32)), .val (.int v28_9), .val (.int (1 : Int32))] []))) (fun J28_10 => ?_) ?_
  · skip
    by_cases c22_11 : c1 = (10 : Int32)
    · refine OD.go (B := (T8.setTop (mkF m 25 #[.val (.ref a1), .val (.int (4 : Int32)), .val (.int v28_4), .val (.int (1 : Int32))] []))) (fun t k => XS.icmpNo X8.here hx rfl (hb hby d10_22) rfl (teq c22_11).2 k) ?_
      refine OD.go (B := (T8.setTop (mkF m 28 #[.val (.ref a1), .val (.int (4 : Int32)), .val (.int (v28_4 + (1 : Int32))), .val (.int (1 : Int32))] []))) (fun t k => XS.iinc X8.here hx rfl (hb hby d10_25) rfl (l' := #[.val (.ref a1), .val (.int (4 : Int32)), .val (.int (v28_4 + (1 : Int32))), .val (.int (1 : Int32))]) rfl k) ?_
      rw [if_pos c22_11] at hv28_9
      rw [hv28_9] at J28_10
      exact J28_10
    · refine OD.go (B := (T8.setTop (mkF m 28 #[.val (.ref a1), .val (.int (4 : Int32)), .val (.int v28_4), .val (.int (1 : Int32))] []))) (fun t k => XS.icmpYes X8.here hx rfl (pc0 := 22) (pc' := 28) rfl (hb hby d10_22) rfl (feq c22_11).2 (by decide) (by decide) k) ?_
      rw [if_neg c22_11] at hv28_9
      rw [hv28_9] at J28_10
      exact J28_10
  refine OD.go (B := (T8.setTop (mkF m 31 #[.val (.ref a1), .val (.int (4 : Int32)), .val (.int v28_9), .val (.int (2 : Int32))] []))) (fun t k => XS.iinc X8.here hx rfl (hb hby d10_28) rfl (l' := #[.val (.ref a1), .val (.int (4 : Int32)), .val (.int v28_9), .val (.int (2 : Int32))]) rfl k) ?_
  refine OD.go (B := (T8.setTop (mkF m 7 #[.val (.ref a1), .val (.int (4 : Int32)), .val (.int v28_9), .val (.int (2 : Int32))] []))) (fun t k => XS.goto X8.here hx rfl (pc0 := 31) (pc' := 7) rfl (hb hby d10_31) (by decide) (by decide) k) ?_
  refine OD.go (B := (T8.setTop (mkF m 8 #[.val (.ref a1), .val (.int (4 : Int32)), .val (.int v28_9), .val (.int (2 : Int32))] [(.int (2 : Int32))]))) (fun t k => XS.iloadN X8.here hx rfl (hb hby d10_7) rfl k) ?_
  refine OD.go (B := (T8.setTop (mkF m 9 #[.val (.ref a1), .val (.int (4 : Int32)), .val (.int v28_9), .val (.int (2 : Int32))] [(.int (4 : Int32)), (.int (2 : Int32))]))) (fun t k => XS.iloadN X8.here hx rfl (hb hby d10_8) rfl k) ?_
  refine OD.go (B := (T8.setTop (mkF m 12 #[.val (.ref a1), .val (.int (4 : Int32)), .val (.int v28_9), .val (.int (2 : Int32))] []))) (fun t k => XS.icmpNo X8.here hx rfl (hb hby d10_9) rfl (tlt (by decide : (2 : Int32) < (4 : Int32))).2.1 k) ?_
  refine OD.go (B := (T8.setTop (mkF m 13 #[.val (.ref a1), .val (.int (4 : Int32)), .val (.int v28_9), .val (.int (2 : Int32))] [(.ref a1)]))) (fun t k => XS.aloadN X8.here hx rfl (hb hby d10_12) rfl rfl k) ?_
  obtain ⟨T12, X12, e12, st12⟩ := getF X8 hx hZ hown (host := "") (Or.inl (Wd47 hw)) Via.refl e8 F1 (g := (mkF m 13 #[.val (.ref a1), .val (.int (4 : Int32)), .val (.int v28_9), .val (.int (2 : Int32))] [(.ref a1)])) rfl rfl (hb hby d10_13)
  refine OD.go (B := (T12.setTop (mkF m 16 #[.val (.ref a1), .val (.int (4 : Int32)), .val (.int v28_9), .val (.int (2 : Int32))] [(.ref b)]))) st12 ?_
  refine OD.go (B := (T12.setTop (mkF m 17 #[.val (.ref a1), .val (.int (4 : Int32)), .val (.int v28_9), .val (.int (2 : Int32))] [(.int (2 : Int32)), (.ref b)]))) (fun t k => XS.iloadN X12.here hx rfl (hb hby d10_16) rfl k) ?_
  obtain ⟨cq13, kq13, qa13, qb13, qc13⟩ := isOf hZ e12 Eb
  obtain ⟨_, _, ⟨T13, L13, k13, n13⟩, -, X13, ⟨Lc13, hQ13, l13, y13, z13⟩, st13⟩ := X12.virtualBack hx (y := (⟨"java/lang/String", "charAt", "(I)C"⟩ : MethodName)) (z := (⟨"java/lang/String", "charAt", "(I)C"⟩ : MethodName)) hown (mvT hZ (Wd56 hw)) (mvT hZ (Wd57 hw)) (notFace_of_selects (args := #[]) (mvT hZ (Wd59 hw))) (mvT hZ (Wd59 hw)) (mvT hZ (Wd58 hw)) (by decide) (StrChars.Road.chN (W := 0) hZ hch (kI := 4) (Wd6 hw) Eb Vb Cb At hcd hbd (O2.ext X00.2) P5 (O4.ext X00.2) rG (Nat.le_of_ble_eq_true rfl) (i := 2) (Nat.le_of_ble_eq_true rfl) (j := (2 : Int32)) rfl (by decide) (by decide)) qa13 qc13 (g := (mkF m 17 #[.val (.ref a1), .val (.int (4 : Int32)), .val (.int v28_9), .val (.int (2 : Int32))] [(.int (2 : Int32)), (.ref b)])) rfl (by rw [hml]; rfl) (Steps.refl _) (argsL := [(.int (2 : Int32))]) (rest := []) (lenOf pd1 rfl) rfl (by show 2 * 0 + _ ≤ _; exact Nat.le_of_eq rfl) (hb hby d10_17) (fun _ _ => ⟨rfl, e12, (Nat.le_of_ble_eq_true rfl), (Nat.le_of_ble_eq_true rfl)⟩)
  dsimp only [Pt.U, Pt.locs, Pt.cells, Pt.slots] at X13 l13 y13 z13 st13 hQ13
  subst l13 y13 z13
  obtain ⟨rfl, rfl, e13⟩ := hQ13
  refine OD.via (B := (T13.setTop (mkF m 20 #[.val (.ref a1), .val (.int (4 : Int32)), .val (.int v28_9), .val (.int (2 : Int32))] [(.int c2)]))) st13 ?_
  refine OD.go (B := (T13.setTop (mkF m 22 #[.val (.ref a1), .val (.int (4 : Int32)), .val (.int v28_9), .val (.int (2 : Int32))] [(.int (10 : Int32)), (.int c2)]))) (fun t k => XS.bipush X13.here hx rfl (hb hby d10_20) k) ?_
  obtain ⟨v28_14, hv28_14⟩ : ∃ z : Int32, z = (if c2 = (10 : Int32) then (v28_9 + (1 : Int32)) else v28_9) := ⟨_, rfl⟩
  refine OD.cut (B := (T13.setTop (mkF m 28 #[.val (.ref a1), .val (.int (4 : Int32)), .val (.int v28_14), .val (.int (2 : Int32))] []))) (fun J28_15 => ?_) ?_
  · skip
    by_cases c22_16 : c2 = (10 : Int32)
    · refine OD.go (B := (T13.setTop (mkF m 25 #[.val (.ref a1), .val (.int (4 : Int32)), .val (.int v28_9), .val (.int (2 : Int32))] []))) (fun t k => XS.icmpNo X13.here hx rfl (hb hby d10_22) rfl (teq c22_16).2 k) ?_
      refine OD.go (B := (T13.setTop (mkF m 28 #[.val (.ref a1), .val (.int (4 : Int32)), .val (.int (v28_9 + (1 : Int32))), .val (.int (2 : Int32))] []))) (fun t k => XS.iinc X13.here hx rfl (hb hby d10_25) rfl (l' := #[.val (.ref a1), .val (.int (4 : Int32)), .val (.int (v28_9 + (1 : Int32))), .val (.int (2 : Int32))]) rfl k) ?_
      rw [if_pos c22_16] at hv28_14
      rw [hv28_14] at J28_15
      exact J28_15
    · refine OD.go (B := (T13.setTop (mkF m 28 #[.val (.ref a1), .val (.int (4 : Int32)), .val (.int v28_9), .val (.int (2 : Int32))] []))) (fun t k => XS.icmpYes X13.here hx rfl (pc0 := 22) (pc' := 28) rfl (hb hby d10_22) rfl (feq c22_16).2 (by decide) (by decide) k) ?_
      rw [if_neg c22_16] at hv28_14
      rw [hv28_14] at J28_15
      exact J28_15
  refine OD.go (B := (T13.setTop (mkF m 31 #[.val (.ref a1), .val (.int (4 : Int32)), .val (.int v28_14), .val (.int (3 : Int32))] []))) (fun t k => XS.iinc X13.here hx rfl (hb hby d10_28) rfl (l' := #[.val (.ref a1), .val (.int (4 : Int32)), .val (.int v28_14), .val (.int (3 : Int32))]) rfl k) ?_
  refine OD.go (B := (T13.setTop (mkF m 7 #[.val (.ref a1), .val (.int (4 : Int32)), .val (.int v28_14), .val (.int (3 : Int32))] []))) (fun t k => XS.goto X13.here hx rfl (pc0 := 31) (pc' := 7) rfl (hb hby d10_31) (by decide) (by decide) k) ?_
  refine OD.go (B := (T13.setTop (mkF m 8 #[.val (.ref a1), .val (.int (4 : Int32)), .val (.int v28_14), .val (.int (3 : Int32))] [(.int (3 : Int32))]))) (fun t k => XS.iloadN X13.here hx rfl (hb hby d10_7) rfl k) ?_
  refine OD.go (B := (T13.setTop (mkF m 9 #[.val (.ref a1), .val (.int (4 : Int32)), .val (.int v28_14), .val (.int (3 : Int32))] [(.int (4 : Int32)), (.int (3 : Int32))]))) (fun t k => XS.iloadN X13.here hx rfl (hb hby d10_8) rfl k) ?_
  refine OD.go (B := (T13.setTop (mkF m 12 #[.val (.ref a1), .val (.int (4 : Int32)), .val (.int v28_14), .val (.int (3 : Int32))] []))) (fun t k => XS.icmpNo X13.here hx rfl (hb hby d10_9) rfl (tlt (by decide : (3 : Int32) < (4 : Int32))).2.1 k) ?_
  refine OD.go (B := (T13.setTop (mkF m 13 #[.val (.ref a1), .val (.int (4 : Int32)), .val (.int v28_14), .val (.int (3 : Int32))] [(.ref a1)]))) (fun t k => XS.aloadN X13.here hx rfl (hb hby d10_12) rfl rfl k) ?_
  obtain ⟨T17, X17, e17, st17⟩ := getF X13 hx hZ hown (host := "") (Or.inl (Wd47 hw)) Via.refl e13 F1 (g := (mkF m 13 #[.val (.ref a1), .val (.int (4 : Int32)), .val (.int v28_14), .val (.int (3 : Int32))] [(.ref a1)])) rfl rfl (hb hby d10_13)
  refine OD.go (B := (T17.setTop (mkF m 16 #[.val (.ref a1), .val (.int (4 : Int32)), .val (.int v28_14), .val (.int (3 : Int32))] [(.ref b)]))) st17 ?_
  refine OD.go (B := (T17.setTop (mkF m 17 #[.val (.ref a1), .val (.int (4 : Int32)), .val (.int v28_14), .val (.int (3 : Int32))] [(.int (3 : Int32)), (.ref b)]))) (fun t k => XS.iloadN X17.here hx rfl (hb hby d10_16) rfl k) ?_
  obtain ⟨cq18, kq18, qa18, qb18, qc18⟩ := isOf hZ e17 Eb
  obtain ⟨_, _, ⟨T18, L18, k18, n18⟩, -, X18, ⟨Lc18, hQ18, l18, y18, z18⟩, st18⟩ := X17.virtualBack hx (y := (⟨"java/lang/String", "charAt", "(I)C"⟩ : MethodName)) (z := (⟨"java/lang/String", "charAt", "(I)C"⟩ : MethodName)) hown (mvT hZ (Wd56 hw)) (mvT hZ (Wd57 hw)) (notFace_of_selects (args := #[]) (mvT hZ (Wd59 hw))) (mvT hZ (Wd59 hw)) (mvT hZ (Wd58 hw)) (by decide) (StrChars.Road.chN (W := 0) hZ hch (kI := 4) (Wd6 hw) Eb Vb Cb At hcd hbd (O2.ext X00.2) P5 (O4.ext X00.2) rG (Nat.le_of_ble_eq_true rfl) (i := 3) (Nat.le_of_ble_eq_true rfl) (j := (3 : Int32)) rfl (by decide) (by decide)) qa18 qc18 (g := (mkF m 17 #[.val (.ref a1), .val (.int (4 : Int32)), .val (.int v28_14), .val (.int (3 : Int32))] [(.int (3 : Int32)), (.ref b)])) rfl (by rw [hml]; rfl) (Steps.refl _) (argsL := [(.int (3 : Int32))]) (rest := []) (lenOf pd1 rfl) rfl (by show 2 * 0 + _ ≤ _; exact Nat.le_of_eq rfl) (hb hby d10_17) (fun _ _ => ⟨rfl, e17, (Nat.le_of_ble_eq_true rfl), (Nat.le_of_ble_eq_true rfl)⟩)
  dsimp only [Pt.U, Pt.locs, Pt.cells, Pt.slots] at X18 l18 y18 z18 st18 hQ18
  subst l18 y18 z18
  obtain ⟨rfl, rfl, e18⟩ := hQ18
  refine OD.via (B := (T18.setTop (mkF m 20 #[.val (.ref a1), .val (.int (4 : Int32)), .val (.int v28_14), .val (.int (3 : Int32))] [(.int c3)]))) st18 ?_
  refine OD.go (B := (T18.setTop (mkF m 22 #[.val (.ref a1), .val (.int (4 : Int32)), .val (.int v28_14), .val (.int (3 : Int32))] [(.int (10 : Int32)), (.int c3)]))) (fun t k => XS.bipush X18.here hx rfl (hb hby d10_20) k) ?_
  obtain ⟨v28_19, hv28_19⟩ : ∃ z : Int32, z = (if c3 = (10 : Int32) then (v28_14 + (1 : Int32)) else v28_14) := ⟨_, rfl⟩
  refine OD.cut (B := (T18.setTop (mkF m 28 #[.val (.ref a1), .val (.int (4 : Int32)), .val (.int v28_19), .val (.int (3 : Int32))] []))) (fun J28_20 => ?_) ?_
  · skip
    by_cases c22_21 : c3 = (10 : Int32)
    · refine OD.go (B := (T18.setTop (mkF m 25 #[.val (.ref a1), .val (.int (4 : Int32)), .val (.int v28_14), .val (.int (3 : Int32))] []))) (fun t k => XS.icmpNo X18.here hx rfl (hb hby d10_22) rfl (teq c22_21).2 k) ?_
      refine OD.go (B := (T18.setTop (mkF m 28 #[.val (.ref a1), .val (.int (4 : Int32)), .val (.int (v28_14 + (1 : Int32))), .val (.int (3 : Int32))] []))) (fun t k => XS.iinc X18.here hx rfl (hb hby d10_25) rfl (l' := #[.val (.ref a1), .val (.int (4 : Int32)), .val (.int (v28_14 + (1 : Int32))), .val (.int (3 : Int32))]) rfl k) ?_
      rw [if_pos c22_21] at hv28_19
      rw [hv28_19] at J28_20
      exact J28_20
    · refine OD.go (B := (T18.setTop (mkF m 28 #[.val (.ref a1), .val (.int (4 : Int32)), .val (.int v28_14), .val (.int (3 : Int32))] []))) (fun t k => XS.icmpYes X18.here hx rfl (pc0 := 22) (pc' := 28) rfl (hb hby d10_22) rfl (feq c22_21).2 (by decide) (by decide) k) ?_
      rw [if_neg c22_21] at hv28_19
      rw [hv28_19] at J28_20
      exact J28_20
  refine OD.go (B := (T18.setTop (mkF m 31 #[.val (.ref a1), .val (.int (4 : Int32)), .val (.int v28_19), .val (.int (4 : Int32))] []))) (fun t k => XS.iinc X18.here hx rfl (hb hby d10_28) rfl (l' := #[.val (.ref a1), .val (.int (4 : Int32)), .val (.int v28_19), .val (.int (4 : Int32))]) rfl k) ?_
  refine OD.go (B := (T18.setTop (mkF m 7 #[.val (.ref a1), .val (.int (4 : Int32)), .val (.int v28_19), .val (.int (4 : Int32))] []))) (fun t k => XS.goto X18.here hx rfl (pc0 := 31) (pc' := 7) rfl (hb hby d10_31) (by decide) (by decide) k) ?_
  refine OD.go (B := (T18.setTop (mkF m 8 #[.val (.ref a1), .val (.int (4 : Int32)), .val (.int v28_19), .val (.int (4 : Int32))] [(.int (4 : Int32))]))) (fun t k => XS.iloadN X18.here hx rfl (hb hby d10_7) rfl k) ?_
  refine OD.go (B := (T18.setTop (mkF m 9 #[.val (.ref a1), .val (.int (4 : Int32)), .val (.int v28_19), .val (.int (4 : Int32))] [(.int (4 : Int32)), (.int (4 : Int32))]))) (fun t k => XS.iloadN X18.here hx rfl (hb hby d10_8) rfl k) ?_
  refine OD.go (B := (T18.setTop (mkF m 34 #[.val (.ref a1), .val (.int (4 : Int32)), .val (.int v28_19), .val (.int (4 : Int32))] []))) (fun t k => XS.icmpYes X18.here hx rfl (pc0 := 9) (pc' := 34) rfl (hb hby d10_9) rfl (flt (by decide : ¬ (4 : Int32) < (4 : Int32))).2.1 (by decide) (by decide) k) ?_
  refine OD.go (B := (T18.setTop (mkF m 35 #[.val (.ref a1), .val (.int (4 : Int32)), .val (.int v28_19), .val (.int (4 : Int32))] [(.int v28_19)]))) (fun t k => XS.iloadN X18.here hx rfl (hb hby d10_34) rfl k) ?_
  exact OD.ret X18 hx hlk (t := .int) Bd.returns rfl (Or.inl ⟨rfl, Or.inl rfl, _, rfl⟩) (hb hby d10_35) (Nat.le_of_ble_eq_true rfl) (Nat.le_of_ble_eq_true rfl) ⟨(show some (Value.int v28_19) = some (Value.int (own_st (own_st (own_st (own_st ln c0) c1) c2) c3)) from by rw [hv28_19, hv28_14, hv28_9, hv28_4]; rfl), rfl, e18⟩
def Q_rm0 (Z : State) (p0 : Int32) (p1 : Int32) (p2 : Int32) (p3 : Int32) (h0 : Heap) (v : Option Value) (h : Heap) (L : List Loc) : Prop := v = some (.int 1) ∧ Fr h0.size L
set_option maxRecDepth 65536 in
set_option maxHeartbeats 40000000 in
theorem rm0 (l : Launch) (Z : State) (a0 : Array Value) (hw : ∀ d ∈ tables_1, d.before a0 Z = true) (ws : List Jvm.Cond) (p0 : Int32) (p1 : Int32) (p2 : Int32) (p3 : Int32) (h0 : Heap) (X00 : Old Z h0.size h0) (zc : Int32) (O2 : Sta Z Z.heap "java/lang/String" "COMPACT_STRINGS" "Z" (.int zc)) (P5 : ¬ zc = 0) (fm : Value) (O4 : Sta Z Z.heap "jdk/internal/util/Preconditions" "SIOOBE_FORMATTER" "Ljava/util/function/BiFunction;" fm) (rG : fm.isRef = true) :
    MetFree l x (head1 (Jvm.Cond.code x code maxLocals ret :: ws) room_1) (fun a U => a = #[(.int p0), (.int p1), (.int p2), (.int p3)] ∧ Z.Warmed39 U.vm ∧ U.heap = h0) (fun _ _ _ _ _ => True) (fun _ U o U' => ∃ v L, o = .returned v ∧ Q_rm0 Z p0 p1 p2 p3 h0 v U'.heap L ∧ FrameEnd U o U' L 16 128) := by
  refine MetFree.of_bodySF (plainFor_of_name pn0) hisR ?_
  intro p e s m args below meth c s₁ Bd hml0 hP hK
  obtain ⟨rfl, hZ, hh⟩ := hP
  have hx := Bd.exec
  have hby := Bd.bytes
  have hlk : meth.locks = false := Bd.notSynchronized
  have hml : c.maxLocals = 15 := hml0
  have hown : s.vm.findClass "com/example/querent/querent/trec/ElementLineAtPinLaw" = some m.cls := findClass_of_methodNamed Bd.named
  have hnm := (name_of_methodNamed Bd.named Bd.method).1
  have X0 : Stand p l e room_1 s m #[(.int p0), (.int p1), (.int p2), (.int p3)] below meth c s₁ [] 0 0 := Stand.of_body Bd
  have e0 : s₁.heap = h0 := by rw [← hh, Bd.state]; rfl
  have N0 := Fr.nil h0.size
  have hws : ∀ d ∈ StrChars.Road.words, d.before a0 Z = true := fun d hd => hw d ((by decide +kernel : ∀ d ∈ StrChars.Road.words, d ∈ tables_1) d hd)
  suffices hgo : OD p e s below (Q_rm0 Z p0 p1 p2 p3 h0) 16 128 (s₁.setTop (mkF m 0 #[.val (.int p0), .val (.int p1), .val (.int p2), .val (.int p3), .unset, .unset, .unset, .unset, .unset, .unset, .unset, .unset, .unset, .unset, .unset] [])) by
    obtain ⟨s₂, o, q1, q2⟩ := hgo
    exact ⟨s₂, o, castTop (ef5 m p0 p1 p2 p3) q1, q2⟩
  refine OD.go (B := (s₁.setTop (mkF m 1 #[.val (.int p0), .val (.int p1), .val (.int p2), .val (.int p3), .unset, .unset, .unset, .unset, .unset, .unset, .unset, .unset, .unset, .unset, .unset] [(.int p3)]))) (fun t k => XS.iloadN X0.here hx rfl (hb hby at_0) rfl k) ?_
  refine OD.go (B := (s₁.setTop (mkF m 2 #[.val (.int p0), .val (.int p1), .val (.int p2), .val (.int p3), .unset, .unset, .unset, .unset, .unset, .unset, .unset, .unset, .unset, .unset, .unset] [(.int (0 : Int32)), (.int p3)]))) (fun t k => XS.iconst X0.here hx rfl (hb hby at_1) k) ?_
  refine OD.go (B := (s₁.setTop (mkF m 3 #[.val (.int p0), .val (.int p1), .val (.int p2), .val (.int p3), .unset, .unset, .unset, .unset, .unset, .unset, .unset, .unset, .unset, .unset, .unset] [(.int p2), (.int (0 : Int32)), (.int p3)]))) (fun t k => XS.iloadN X0.here hx rfl (hb hby at_2) rfl k) ?_
  refine OD.go (B := (s₁.setTop (mkF m 4 #[.val (.int p0), .val (.int p1), .val (.int p2), .val (.int p3), .unset, .unset, .unset, .unset, .unset, .unset, .unset, .unset, .unset, .unset, .unset] [(.int (0 : Int32)), (.int p2), (.int (0 : Int32)), (.int p3)]))) (fun t k => XS.iconst X0.here hx rfl (hb hby at_3) k) ?_
  obtain ⟨_, _, ⟨T1, L1, k1, n1⟩, -, X1, ⟨Lc1, hQ1, l1, y1, z1⟩, st1⟩ := Jvm.LawKit.callS X0 hx (y := (⟨"com/example/querent/querent/trec/ElementLineAtPinLaw", "pick", "(IIII)C"⟩ : MethodName)) hown (mvT hZ (Wd0 hw)) (mvT hZ (Wd1 hw)) (mvT hZ (Wd2 hw)) (mvT hZ (Wd3 hw)) (by decide) (backOf (W := 0) (rmP l Z a0 hw [] p3 (0 : Int32) p2 (0 : Int32) h0) hZ (Wd3 hw) (Wd2 hw) (by decide) (by decide)) (g := (mkF m 4 #[.val (.int p0), .val (.int p1), .val (.int p2), .val (.int p3), .unset, .unset, .unset, .unset, .unset, .unset, .unset, .unset, .unset, .unset, .unset] [(.int (0 : Int32)), (.int p2), (.int (0 : Int32)), (.int p3)])) rfl (by rw [hml]; rfl) (argsL := [(.int p3), (.int (0 : Int32)), (.int p2), (.int (0 : Int32))]) (rest := []) (lenOf pd2 rfl) rfl (by show 2 * 0 + _ ≤ _; exact Nat.le_of_eq rfl) (hb hby at_4) (fun _ _ => ⟨rfl, e0, (Nat.le_of_ble_eq_true rfl), (Nat.le_of_ble_eq_true rfl)⟩)
  dsimp only [Pt.U, Pt.locs, Pt.cells, Pt.slots] at X1 l1 y1 z1 st1 hQ1
  subst l1 y1 z1
  obtain ⟨rfl, rfl, e1⟩ := hQ1
  have N1 := Fr.app N0 (Fr.nil _)
  refine OD.go (B := (T1.setTop (mkF m 7 #[.val (.int p0), .val (.int p1), .val (.int p2), .val (.int p3), .unset, .unset, .unset, .unset, .unset, .unset, .unset, .unset, .unset, .unset, .unset] [(.int (own_pk p3 (0 : Int32) p2 (0 : Int32)))]))) st1 ?_
  refine OD.go (B := (T1.setTop (mkF m 9 #[.val (.int p0), .val (.int p1), .val (.int p2), .val (.int p3), .val (.int (own_pk p3 (0 : Int32) p2 (0 : Int32))), .unset, .unset, .unset, .unset, .unset, .unset, .unset, .unset, .unset, .unset] []))) (fun t k => XS.istore X1.here hx rfl (hb hby at_7) rfl (l' := #[.val (.int p0), .val (.int p1), .val (.int p2), .val (.int p3), .val (.int (own_pk p3 (0 : Int32) p2 (0 : Int32))), .unset, .unset, .unset, .unset, .unset, .unset, .unset, .unset, .unset, .unset]) rfl k) ?_
  generalize hu7_2 : (own_pk p3 (0 : Int32) p2 (0 : Int32)) = u7_2
  refine OD.go (B := (T1.setTop (mkF m 10 #[.val (.int p0), .val (.int p1), .val (.int p2), .val (.int p3), .val (.int u7_2), .unset, .unset, .unset, .unset, .unset, .unset, .unset, .unset, .unset, .unset] [(.int p3)]))) (fun t k => XS.iloadN X1.here hx rfl (hb hby at_9) rfl k) ?_
  refine OD.go (B := (T1.setTop (mkF m 11 #[.val (.int p0), .val (.int p1), .val (.int p2), .val (.int p3), .val (.int u7_2), .unset, .unset, .unset, .unset, .unset, .unset, .unset, .unset, .unset, .unset] [(.int (1 : Int32)), (.int p3)]))) (fun t k => XS.iconst X1.here hx rfl (hb hby at_10) k) ?_
  refine OD.go (B := (T1.setTop (mkF m 12 #[.val (.int p0), .val (.int p1), .val (.int p2), .val (.int p3), .val (.int u7_2), .unset, .unset, .unset, .unset, .unset, .unset, .unset, .unset, .unset, .unset] [(.int p2), (.int (1 : Int32)), (.int p3)]))) (fun t k => XS.iloadN X1.here hx rfl (hb hby at_11) rfl k) ?_
  refine OD.go (B := (T1.setTop (mkF m 14 #[.val (.int p0), .val (.int p1), .val (.int p2), .val (.int p3), .val (.int u7_2), .unset, .unset, .unset, .unset, .unset, .unset, .unset, .unset, .unset, .unset] [(.int (8 : Int32)), (.int p2), (.int (1 : Int32)), (.int p3)]))) (fun t k => XS.bipush X1.here hx rfl (hb hby at_12) k) ?_
  obtain ⟨_, _, ⟨T3, L3, k3, n3⟩, -, X3, ⟨Lc3, hQ3, l3, y3, z3⟩, st3⟩ := Jvm.LawKit.callS X1 hx (y := (⟨"com/example/querent/querent/trec/ElementLineAtPinLaw", "pick", "(IIII)C"⟩ : MethodName)) hown (mvT hZ (Wd0 hw)) (mvT hZ (Wd1 hw)) (mvT hZ (Wd2 hw)) (mvT hZ (Wd3 hw)) (by decide) (backOf (W := 0) (rmP l Z a0 hw [] p3 (1 : Int32) p2 (8 : Int32) h0) hZ (Wd3 hw) (Wd2 hw) (by decide) (by decide)) (g := (mkF m 14 #[.val (.int p0), .val (.int p1), .val (.int p2), .val (.int p3), .val (.int u7_2), .unset, .unset, .unset, .unset, .unset, .unset, .unset, .unset, .unset, .unset] [(.int (8 : Int32)), (.int p2), (.int (1 : Int32)), (.int p3)])) rfl (by rw [hml]; rfl) (argsL := [(.int p3), (.int (1 : Int32)), (.int p2), (.int (8 : Int32))]) (rest := []) (lenOf pd2 rfl) rfl (by show 2 * 0 + _ ≤ _; exact Nat.le_of_eq rfl) (hb hby at_14) (fun _ _ => ⟨rfl, e1, (Nat.le_of_ble_eq_true rfl), (Nat.le_of_ble_eq_true rfl)⟩)
  dsimp only [Pt.U, Pt.locs, Pt.cells, Pt.slots] at X3 l3 y3 z3 st3 hQ3
  subst l3 y3 z3
  obtain ⟨rfl, rfl, e3⟩ := hQ3
  have N3 := Fr.app N1 (Fr.nil _)
  refine OD.go (B := (T3.setTop (mkF m 17 #[.val (.int p0), .val (.int p1), .val (.int p2), .val (.int p3), .val (.int u7_2), .unset, .unset, .unset, .unset, .unset, .unset, .unset, .unset, .unset, .unset] [(.int (own_pk p3 (1 : Int32) p2 (8 : Int32)))]))) st3 ?_
  refine OD.go (B := (T3.setTop (mkF m 19 #[.val (.int p0), .val (.int p1), .val (.int p2), .val (.int p3), .val (.int u7_2), .val (.int (own_pk p3 (1 : Int32) p2 (8 : Int32))), .unset, .unset, .unset, .unset, .unset, .unset, .unset, .unset, .unset] []))) (fun t k => XS.istore X3.here hx rfl (hb hby at_17) rfl (l' := #[.val (.int p0), .val (.int p1), .val (.int p2), .val (.int p3), .val (.int u7_2), .val (.int (own_pk p3 (1 : Int32) p2 (8 : Int32))), .unset, .unset, .unset, .unset, .unset, .unset, .unset, .unset, .unset]) rfl k) ?_
  generalize hu17_4 : (own_pk p3 (1 : Int32) p2 (8 : Int32)) = u17_4
  refine OD.go (B := (T3.setTop (mkF m 20 #[.val (.int p0), .val (.int p1), .val (.int p2), .val (.int p3), .val (.int u7_2), .val (.int u17_4), .unset, .unset, .unset, .unset, .unset, .unset, .unset, .unset, .unset] [(.int p3)]))) (fun t k => XS.iloadN X3.here hx rfl (hb hby at_19) rfl k) ?_
  refine OD.go (B := (T3.setTop (mkF m 21 #[.val (.int p0), .val (.int p1), .val (.int p2), .val (.int p3), .val (.int u7_2), .val (.int u17_4), .unset, .unset, .unset, .unset, .unset, .unset, .unset, .unset, .unset] [(.int (2 : Int32)), (.int p3)]))) (fun t k => XS.iconst X3.here hx rfl (hb hby at_20) k) ?_
  refine OD.go (B := (T3.setTop (mkF m 22 #[.val (.int p0), .val (.int p1), .val (.int p2), .val (.int p3), .val (.int u7_2), .val (.int u17_4), .unset, .unset, .unset, .unset, .unset, .unset, .unset, .unset, .unset] [(.int p2), (.int (2 : Int32)), (.int p3)]))) (fun t k => XS.iloadN X3.here hx rfl (hb hby at_21) rfl k) ?_
  refine OD.go (B := (T3.setTop (mkF m 24 #[.val (.int p0), .val (.int p1), .val (.int p2), .val (.int p3), .val (.int u7_2), .val (.int u17_4), .unset, .unset, .unset, .unset, .unset, .unset, .unset, .unset, .unset] [(.int (16 : Int32)), (.int p2), (.int (2 : Int32)), (.int p3)]))) (fun t k => XS.bipush X3.here hx rfl (hb hby at_22) k) ?_
  obtain ⟨_, _, ⟨T5, L5, k5, n5⟩, -, X5, ⟨Lc5, hQ5, l5, y5, z5⟩, st5⟩ := Jvm.LawKit.callS X3 hx (y := (⟨"com/example/querent/querent/trec/ElementLineAtPinLaw", "pick", "(IIII)C"⟩ : MethodName)) hown (mvT hZ (Wd0 hw)) (mvT hZ (Wd1 hw)) (mvT hZ (Wd2 hw)) (mvT hZ (Wd3 hw)) (by decide) (backOf (W := 0) (rmP l Z a0 hw [] p3 (2 : Int32) p2 (16 : Int32) h0) hZ (Wd3 hw) (Wd2 hw) (by decide) (by decide)) (g := (mkF m 24 #[.val (.int p0), .val (.int p1), .val (.int p2), .val (.int p3), .val (.int u7_2), .val (.int u17_4), .unset, .unset, .unset, .unset, .unset, .unset, .unset, .unset, .unset] [(.int (16 : Int32)), (.int p2), (.int (2 : Int32)), (.int p3)])) rfl (by rw [hml]; rfl) (argsL := [(.int p3), (.int (2 : Int32)), (.int p2), (.int (16 : Int32))]) (rest := []) (lenOf pd2 rfl) rfl (by show 2 * 0 + _ ≤ _; exact Nat.le_of_eq rfl) (hb hby at_24) (fun _ _ => ⟨rfl, e3, (Nat.le_of_ble_eq_true rfl), (Nat.le_of_ble_eq_true rfl)⟩)
  dsimp only [Pt.U, Pt.locs, Pt.cells, Pt.slots] at X5 l5 y5 z5 st5 hQ5
  subst l5 y5 z5
  obtain ⟨rfl, rfl, e5⟩ := hQ5
  have N5 := Fr.app N3 (Fr.nil _)
  refine OD.go (B := (T5.setTop (mkF m 27 #[.val (.int p0), .val (.int p1), .val (.int p2), .val (.int p3), .val (.int u7_2), .val (.int u17_4), .unset, .unset, .unset, .unset, .unset, .unset, .unset, .unset, .unset] [(.int (own_pk p3 (2 : Int32) p2 (16 : Int32)))]))) st5 ?_
  refine OD.go (B := (T5.setTop (mkF m 29 #[.val (.int p0), .val (.int p1), .val (.int p2), .val (.int p3), .val (.int u7_2), .val (.int u17_4), .val (.int (own_pk p3 (2 : Int32) p2 (16 : Int32))), .unset, .unset, .unset, .unset, .unset, .unset, .unset, .unset] []))) (fun t k => XS.istore X5.here hx rfl (hb hby at_27) rfl (l' := #[.val (.int p0), .val (.int p1), .val (.int p2), .val (.int p3), .val (.int u7_2), .val (.int u17_4), .val (.int (own_pk p3 (2 : Int32) p2 (16 : Int32))), .unset, .unset, .unset, .unset, .unset, .unset, .unset, .unset]) rfl k) ?_
  generalize hu27_6 : (own_pk p3 (2 : Int32) p2 (16 : Int32)) = u27_6
  refine OD.go (B := (T5.setTop (mkF m 30 #[.val (.int p0), .val (.int p1), .val (.int p2), .val (.int p3), .val (.int u7_2), .val (.int u17_4), .val (.int u27_6), .unset, .unset, .unset, .unset, .unset, .unset, .unset, .unset] [(.int p3)]))) (fun t k => XS.iloadN X5.here hx rfl (hb hby at_29) rfl k) ?_
  refine OD.go (B := (T5.setTop (mkF m 31 #[.val (.int p0), .val (.int p1), .val (.int p2), .val (.int p3), .val (.int u7_2), .val (.int u17_4), .val (.int u27_6), .unset, .unset, .unset, .unset, .unset, .unset, .unset, .unset] [(.int (3 : Int32)), (.int p3)]))) (fun t k => XS.iconst X5.here hx rfl (hb hby at_30) k) ?_
  refine OD.go (B := (T5.setTop (mkF m 32 #[.val (.int p0), .val (.int p1), .val (.int p2), .val (.int p3), .val (.int u7_2), .val (.int u17_4), .val (.int u27_6), .unset, .unset, .unset, .unset, .unset, .unset, .unset, .unset] [(.int p2), (.int (3 : Int32)), (.int p3)]))) (fun t k => XS.iloadN X5.here hx rfl (hb hby at_31) rfl k) ?_
  refine OD.go (B := (T5.setTop (mkF m 34 #[.val (.int p0), .val (.int p1), .val (.int p2), .val (.int p3), .val (.int u7_2), .val (.int u17_4), .val (.int u27_6), .unset, .unset, .unset, .unset, .unset, .unset, .unset, .unset] [(.int (24 : Int32)), (.int p2), (.int (3 : Int32)), (.int p3)]))) (fun t k => XS.bipush X5.here hx rfl (hb hby at_32) k) ?_
  obtain ⟨_, _, ⟨T7, L7, k7, n7⟩, -, X7, ⟨Lc7, hQ7, l7, y7, z7⟩, st7⟩ := Jvm.LawKit.callS X5 hx (y := (⟨"com/example/querent/querent/trec/ElementLineAtPinLaw", "pick", "(IIII)C"⟩ : MethodName)) hown (mvT hZ (Wd0 hw)) (mvT hZ (Wd1 hw)) (mvT hZ (Wd2 hw)) (mvT hZ (Wd3 hw)) (by decide) (backOf (W := 0) (rmP l Z a0 hw [] p3 (3 : Int32) p2 (24 : Int32) h0) hZ (Wd3 hw) (Wd2 hw) (by decide) (by decide)) (g := (mkF m 34 #[.val (.int p0), .val (.int p1), .val (.int p2), .val (.int p3), .val (.int u7_2), .val (.int u17_4), .val (.int u27_6), .unset, .unset, .unset, .unset, .unset, .unset, .unset, .unset] [(.int (24 : Int32)), (.int p2), (.int (3 : Int32)), (.int p3)])) rfl (by rw [hml]; rfl) (argsL := [(.int p3), (.int (3 : Int32)), (.int p2), (.int (24 : Int32))]) (rest := []) (lenOf pd2 rfl) rfl (by show 2 * 0 + _ ≤ _; exact Nat.le_of_eq rfl) (hb hby at_34) (fun _ _ => ⟨rfl, e5, (Nat.le_of_ble_eq_true rfl), (Nat.le_of_ble_eq_true rfl)⟩)
  dsimp only [Pt.U, Pt.locs, Pt.cells, Pt.slots] at X7 l7 y7 z7 st7 hQ7
  subst l7 y7 z7
  obtain ⟨rfl, rfl, e7⟩ := hQ7
  have N7 := Fr.app N5 (Fr.nil _)
  refine OD.go (B := (T7.setTop (mkF m 37 #[.val (.int p0), .val (.int p1), .val (.int p2), .val (.int p3), .val (.int u7_2), .val (.int u17_4), .val (.int u27_6), .unset, .unset, .unset, .unset, .unset, .unset, .unset, .unset] [(.int (own_pk p3 (3 : Int32) p2 (24 : Int32)))]))) st7 ?_
  refine OD.go (B := (T7.setTop (mkF m 39 #[.val (.int p0), .val (.int p1), .val (.int p2), .val (.int p3), .val (.int u7_2), .val (.int u17_4), .val (.int u27_6), .val (.int (own_pk p3 (3 : Int32) p2 (24 : Int32))), .unset, .unset, .unset, .unset, .unset, .unset, .unset] []))) (fun t k => XS.istore X7.here hx rfl (hb hby at_37) rfl (l' := #[.val (.int p0), .val (.int p1), .val (.int p2), .val (.int p3), .val (.int u7_2), .val (.int u17_4), .val (.int u27_6), .val (.int (own_pk p3 (3 : Int32) p2 (24 : Int32))), .unset, .unset, .unset, .unset, .unset, .unset, .unset]) rfl k) ?_
  generalize hu37_8 : (own_pk p3 (3 : Int32) p2 (24 : Int32)) = u37_8
  have b0 := own_pkb hu7_2
  have b1 := own_pkb hu17_4
  have b2 := own_pkb hu27_6
  have b3 := own_pkb hu37_8
  have hp := own_all4 b0 b1 b2 b3
  refine OD.go (B := (T7.setTop (mkF m 40 #[.val (.int p0), .val (.int p1), .val (.int p2), .val (.int p3), .val (.int u7_2), .val (.int u17_4), .val (.int u27_6), .val (.int u37_8), .unset, .unset, .unset, .unset, .unset, .unset, .unset] [(.int (4 : Int32))]))) (fun t k => XS.iconst X7.here hx rfl (hb hby at_39) k) ?_
  obtain ⟨T9, h9, k9, X9, e9, E9, A9, st9⟩ := newP X7 hx hZ (aty := .char) (Wd4 hw) e7 (g := (mkF m 40 #[.val (.int p0), .val (.int p1), .val (.int p2), .val (.int p3), .val (.int u7_2), .val (.int u17_4), .val (.int u27_6), .val (.int u37_8), .unset, .unset, .unset, .unset, .unset, .unset, .unset] [(.int (4 : Int32))])) rfl (hb hby at_40) rfl (by decide) (cap := 4) (by decide) (by decide) (Nat.le_of_ble_eq_true rfl) (Nat.le_of_ble_eq_true rfl)
  obtain ⟨b9, g9⟩ : ∃ z, z = h0.size := ⟨_, rfl⟩
  rw [← g9] at A9 st9
  have V9 : Arv Z h9 b9 k9 .char (4 : Int32) [(.int (0 : Int32)), (.int (0 : Int32)), (.int (0 : Int32)), (.int (0 : Int32))] (.int (0 : Int32)) := (Arv.new A9 (by decide)).pad (pad_rep [] (.int (0 : Int32)) 4)
  refine OD.go (B := (T9.setTop (mkF m 42 #[.val (.int p0), .val (.int p1), .val (.int p2), .val (.int p3), .val (.int u7_2), .val (.int u17_4), .val (.int u27_6), .val (.int u37_8), .unset, .unset, .unset, .unset, .unset, .unset, .unset] [(.ref b9)]))) st9 ?_
  refine OD.go (B := (T9.setTop (mkF m 44 #[.val (.int p0), .val (.int p1), .val (.int p2), .val (.int p3), .val (.int u7_2), .val (.int u17_4), .val (.int u27_6), .val (.int u37_8), .val (.ref b9), .unset, .unset, .unset, .unset, .unset, .unset] []))) (fun t k => XS.astore X9.here hx rfl (hb hby at_42) rfl rfl (l' := #[.val (.int p0), .val (.int p1), .val (.int p2), .val (.int p3), .val (.int u7_2), .val (.int u17_4), .val (.int u27_6), .val (.int u37_8), .val (.ref b9), .unset, .unset, .unset, .unset, .unset, .unset]) rfl k) ?_
  refine OD.go (B := (T9.setTop (mkF m 46 #[.val (.int p0), .val (.int p1), .val (.int p2), .val (.int p3), .val (.int u7_2), .val (.int u17_4), .val (.int u27_6), .val (.int u37_8), .val (.ref b9), .unset, .unset, .unset, .unset, .unset, .unset] [(.ref b9)]))) (fun t k => XS.aload X9.here hx rfl (hb hby at_44) rfl rfl k) ?_
  refine OD.go (B := (T9.setTop (mkF m 47 #[.val (.int p0), .val (.int p1), .val (.int p2), .val (.int p3), .val (.int u7_2), .val (.int u17_4), .val (.int u27_6), .val (.int u37_8), .val (.ref b9), .unset, .unset, .unset, .unset, .unset, .unset] [(.int (0 : Int32)), (.ref b9)]))) (fun t k => XS.iconst X9.here hx rfl (hb hby at_46) k) ?_
  refine OD.go (B := (T9.setTop (mkF m 49 #[.val (.int p0), .val (.int p1), .val (.int p2), .val (.int p3), .val (.int u7_2), .val (.int u17_4), .val (.int u27_6), .val (.int u37_8), .val (.ref b9), .unset, .unset, .unset, .unset, .unset, .unset] [(.int u7_2), (.int (0 : Int32)), (.ref b9)]))) (fun t k => XS.iload X9.here hx rfl (hb hby at_47) rfl k) ?_
  obtain ⟨cl10, Ar10, q10, S10, M10, H10, G10⟩ := id V9
  obtain ⟨T10, h10, X10, e10, W10, st10⟩ := stC X9 hx hZ e9 Ar10 (j := (0 : Int32)) (inb_of S10 ⟨by decide, by decide⟩) (g := (mkF m 49 #[.val (.int p0), .val (.int p1), .val (.int p2), .val (.int p3), .val (.int u7_2), .val (.int u17_4), .val (.int u27_6), .val (.int u37_8), .val (.ref b9), .unset, .unset, .unset, .unset, .unset, .unset] [(.int u7_2), (.int (0 : Int32)), (.ref b9)])) rfl rfl (hb hby at_49)
  rw [(own_nar b0)] at W10
  have V10 : Arv Z h10 b9 k9 .char (4 : Int32) [(.int u7_2), (.int (0 : Int32)), (.int (0 : Int32)), (.int (0 : Int32))] (.int (0 : Int32)) := Arv.set Ar10 q10 S10 M10 H10 G10 ((own_nar b0) ▸ fits_nar_char _) W10 0 rfl (Nat.le_of_ble_eq_true rfl)
  have N10 := Fr.snoc X10 N7 (Nat.le_trans (Nat.le_refl _) (Nat.le_of_eq g9.symm))
  refine OD.go (B := (T10.setTop (mkF m 50 #[.val (.int p0), .val (.int p1), .val (.int p2), .val (.int p3), .val (.int u7_2), .val (.int u17_4), .val (.int u27_6), .val (.int u37_8), .val (.ref b9), .unset, .unset, .unset, .unset, .unset, .unset] []))) st10 ?_
  refine OD.go (B := (T10.setTop (mkF m 52 #[.val (.int p0), .val (.int p1), .val (.int p2), .val (.int p3), .val (.int u7_2), .val (.int u17_4), .val (.int u27_6), .val (.int u37_8), .val (.ref b9), .unset, .unset, .unset, .unset, .unset, .unset] [(.ref b9)]))) (fun t k => XS.aload X10.here hx rfl (hb hby at_50) rfl rfl k) ?_
  refine OD.go (B := (T10.setTop (mkF m 53 #[.val (.int p0), .val (.int p1), .val (.int p2), .val (.int p3), .val (.int u7_2), .val (.int u17_4), .val (.int u27_6), .val (.int u37_8), .val (.ref b9), .unset, .unset, .unset, .unset, .unset, .unset] [(.int (1 : Int32)), (.ref b9)]))) (fun t k => XS.iconst X10.here hx rfl (hb hby at_52) k) ?_
  refine OD.go (B := (T10.setTop (mkF m 55 #[.val (.int p0), .val (.int p1), .val (.int p2), .val (.int p3), .val (.int u7_2), .val (.int u17_4), .val (.int u27_6), .val (.int u37_8), .val (.ref b9), .unset, .unset, .unset, .unset, .unset, .unset] [(.int u17_4), (.int (1 : Int32)), (.ref b9)]))) (fun t k => XS.iload X10.here hx rfl (hb hby at_53) rfl k) ?_
  obtain ⟨cl11, Ar11, q11, S11, M11, H11, G11⟩ := id V10
  obtain ⟨T11, h11, X11, e11, W11, st11⟩ := stC X10 hx hZ e10 Ar11 (j := (1 : Int32)) (inb_of S11 ⟨by decide, by decide⟩) (g := (mkF m 55 #[.val (.int p0), .val (.int p1), .val (.int p2), .val (.int p3), .val (.int u7_2), .val (.int u17_4), .val (.int u27_6), .val (.int u37_8), .val (.ref b9), .unset, .unset, .unset, .unset, .unset, .unset] [(.int u17_4), (.int (1 : Int32)), (.ref b9)])) rfl rfl (hb hby at_55)
  rw [(own_nar b1)] at W11
  have V11 : Arv Z h11 b9 k9 .char (4 : Int32) [(.int u7_2), (.int u17_4), (.int (0 : Int32)), (.int (0 : Int32))] (.int (0 : Int32)) := Arv.set Ar11 q11 S11 M11 H11 G11 ((own_nar b1) ▸ fits_nar_char _) W11 1 rfl (Nat.le_of_ble_eq_true rfl)
  have N11 := Fr.snoc X11 N10 (Nat.le_trans (Nat.le_refl _) (Nat.le_of_eq g9.symm))
  refine OD.go (B := (T11.setTop (mkF m 56 #[.val (.int p0), .val (.int p1), .val (.int p2), .val (.int p3), .val (.int u7_2), .val (.int u17_4), .val (.int u27_6), .val (.int u37_8), .val (.ref b9), .unset, .unset, .unset, .unset, .unset, .unset] []))) st11 ?_
  refine OD.go (B := (T11.setTop (mkF m 58 #[.val (.int p0), .val (.int p1), .val (.int p2), .val (.int p3), .val (.int u7_2), .val (.int u17_4), .val (.int u27_6), .val (.int u37_8), .val (.ref b9), .unset, .unset, .unset, .unset, .unset, .unset] [(.ref b9)]))) (fun t k => XS.aload X11.here hx rfl (hb hby at_56) rfl rfl k) ?_
  refine OD.go (B := (T11.setTop (mkF m 59 #[.val (.int p0), .val (.int p1), .val (.int p2), .val (.int p3), .val (.int u7_2), .val (.int u17_4), .val (.int u27_6), .val (.int u37_8), .val (.ref b9), .unset, .unset, .unset, .unset, .unset, .unset] [(.int (2 : Int32)), (.ref b9)]))) (fun t k => XS.iconst X11.here hx rfl (hb hby at_58) k) ?_
  refine OD.go (B := (T11.setTop (mkF m 61 #[.val (.int p0), .val (.int p1), .val (.int p2), .val (.int p3), .val (.int u7_2), .val (.int u17_4), .val (.int u27_6), .val (.int u37_8), .val (.ref b9), .unset, .unset, .unset, .unset, .unset, .unset] [(.int u27_6), (.int (2 : Int32)), (.ref b9)]))) (fun t k => XS.iload X11.here hx rfl (hb hby at_59) rfl k) ?_
  obtain ⟨cl12, Ar12, q12, S12, M12, H12, G12⟩ := id V11
  obtain ⟨T12, h12, X12, e12, W12, st12⟩ := stC X11 hx hZ e11 Ar12 (j := (2 : Int32)) (inb_of S12 ⟨by decide, by decide⟩) (g := (mkF m 61 #[.val (.int p0), .val (.int p1), .val (.int p2), .val (.int p3), .val (.int u7_2), .val (.int u17_4), .val (.int u27_6), .val (.int u37_8), .val (.ref b9), .unset, .unset, .unset, .unset, .unset, .unset] [(.int u27_6), (.int (2 : Int32)), (.ref b9)])) rfl rfl (hb hby at_61)
  rw [(own_nar b2)] at W12
  have V12 : Arv Z h12 b9 k9 .char (4 : Int32) [(.int u7_2), (.int u17_4), (.int u27_6), (.int (0 : Int32))] (.int (0 : Int32)) := Arv.set Ar12 q12 S12 M12 H12 G12 ((own_nar b2) ▸ fits_nar_char _) W12 2 rfl (Nat.le_of_ble_eq_true rfl)
  have N12 := Fr.snoc X12 N11 (Nat.le_trans (Nat.le_refl _) (Nat.le_of_eq g9.symm))
  refine OD.go (B := (T12.setTop (mkF m 62 #[.val (.int p0), .val (.int p1), .val (.int p2), .val (.int p3), .val (.int u7_2), .val (.int u17_4), .val (.int u27_6), .val (.int u37_8), .val (.ref b9), .unset, .unset, .unset, .unset, .unset, .unset] []))) st12 ?_
  refine OD.go (B := (T12.setTop (mkF m 64 #[.val (.int p0), .val (.int p1), .val (.int p2), .val (.int p3), .val (.int u7_2), .val (.int u17_4), .val (.int u27_6), .val (.int u37_8), .val (.ref b9), .unset, .unset, .unset, .unset, .unset, .unset] [(.ref b9)]))) (fun t k => XS.aload X12.here hx rfl (hb hby at_62) rfl rfl k) ?_
  refine OD.go (B := (T12.setTop (mkF m 65 #[.val (.int p0), .val (.int p1), .val (.int p2), .val (.int p3), .val (.int u7_2), .val (.int u17_4), .val (.int u27_6), .val (.int u37_8), .val (.ref b9), .unset, .unset, .unset, .unset, .unset, .unset] [(.int (3 : Int32)), (.ref b9)]))) (fun t k => XS.iconst X12.here hx rfl (hb hby at_64) k) ?_
  refine OD.go (B := (T12.setTop (mkF m 67 #[.val (.int p0), .val (.int p1), .val (.int p2), .val (.int p3), .val (.int u7_2), .val (.int u17_4), .val (.int u27_6), .val (.int u37_8), .val (.ref b9), .unset, .unset, .unset, .unset, .unset, .unset] [(.int u37_8), (.int (3 : Int32)), (.ref b9)]))) (fun t k => XS.iload X12.here hx rfl (hb hby at_65) rfl k) ?_
  obtain ⟨cl13, Ar13, q13, S13, M13, H13, G13⟩ := id V12
  obtain ⟨T13, h13, X13, e13, W13, st13⟩ := stC X12 hx hZ e12 Ar13 (j := (3 : Int32)) (inb_of S13 ⟨by decide, by decide⟩) (g := (mkF m 67 #[.val (.int p0), .val (.int p1), .val (.int p2), .val (.int p3), .val (.int u7_2), .val (.int u17_4), .val (.int u27_6), .val (.int u37_8), .val (.ref b9), .unset, .unset, .unset, .unset, .unset, .unset] [(.int u37_8), (.int (3 : Int32)), (.ref b9)])) rfl rfl (hb hby at_67)
  rw [(own_nar b3)] at W13
  have V13 : Arv Z h13 b9 k9 .char (4 : Int32) [(.int u7_2), (.int u17_4), (.int u27_6), (.int u37_8)] (.int (0 : Int32)) := Arv.set Ar13 q13 S13 M13 H13 G13 ((own_nar b3) ▸ fits_nar_char _) W13 3 rfl (Nat.le_of_ble_eq_true rfl)
  have N13 := Fr.snoc X13 N12 (Nat.le_trans (Nat.le_refl _) (Nat.le_of_eq g9.symm))
  refine OD.go (B := (T13.setTop (mkF m 68 #[.val (.int p0), .val (.int p1), .val (.int p2), .val (.int p3), .val (.int u7_2), .val (.int u17_4), .val (.int u27_6), .val (.int u37_8), .val (.ref b9), .unset, .unset, .unset, .unset, .unset, .unset] []))) st13 ?_
  obtain ⟨T14, h14, X14, e14, E14, A14, D14, -, st14⟩ := newO X13 hx hZ hown (Wd5 hw) (Wd6 hw) (Wd7 hw) e13 (g := (mkF m 68 #[.val (.int p0), .val (.int p1), .val (.int p2), .val (.int p3), .val (.int u7_2), .val (.int u17_4), .val (.int u27_6), .val (.int u37_8), .val (.ref b9), .unset, .unset, .unset, .unset, .unset, .unset] [])) rfl (hb hby at_68) (Nat.le_of_ble_eq_true rfl) (Nat.le_of_ble_eq_true rfl)
  obtain ⟨b14, g14⟩ : ∃ z, z = h13.size := ⟨_, rfl⟩
  rw [← g14] at A14 D14 st14
  have Fn15 : Fld Z h14 b14 "java/lang/String" "coder" "B" (.int (0 : Int32)) := D14 (Or.inr (Wd31 hw)) (ty := .byte) (by decide)
  have Fn16 : Fld Z h14 b14 "java/lang/String" "value" "[B" .null := D14 (Or.inr (Wd33 hw)) (ty := (.array .byte)) (by decide)
  refine OD.go (B := (T14.setTop (mkF m 71 #[.val (.int p0), .val (.int p1), .val (.int p2), .val (.int p3), .val (.int u7_2), .val (.int u17_4), .val (.int u27_6), .val (.int u37_8), .val (.ref b9), .unset, .unset, .unset, .unset, .unset, .unset] [(.ref b14)]))) st14 ?_
  refine OD.go (B := (T14.setTop (mkF m 72 #[.val (.int p0), .val (.int p1), .val (.int p2), .val (.int p3), .val (.int u7_2), .val (.int u17_4), .val (.int u27_6), .val (.int u37_8), .val (.ref b9), .unset, .unset, .unset, .unset, .unset, .unset] [(.ref b14), (.ref b14)]))) (fun t k => XS.dup X14.here hx rfl (hb hby at_71) rfl rfl k) ?_
  refine OD.go (B := (T14.setTop (mkF m 74 #[.val (.int p0), .val (.int p1), .val (.int p2), .val (.int p3), .val (.int u7_2), .val (.int u17_4), .val (.int u27_6), .val (.int u37_8), .val (.ref b9), .unset, .unset, .unset, .unset, .unset, .unset] [(.ref b9), (.ref b14), (.ref b14)]))) (fun t k => XS.aload X14.here hx rfl (hb hby at_72) rfl rfl k) ?_
  have f17 := (V13.ext E14)
  have K18 : Arv Z h14 b9 k9 .char (4 : Int32) (([u7_2, u17_4, u27_6, u37_8] : List Int32).map Value.int) (.int (0 : Int32)) := f17
  obtain ⟨_, _, ⟨T19, L19, k19, n19⟩, -, X19, ⟨Lc19, hQ19, l19, y19, z19⟩, st19⟩ := X14.specialBack hx (y := (⟨"java/lang/String", "<init>", "([C)V"⟩ : MethodName)) rfl hown (mvT hZ (Wd8 hw)) (mvT hZ (Wd9 hw)) (mvT hZ (Wd10 hw)) (by decide) (StrChars.Road.backV (W := 1) hZ hws (kI := 4) (Wd6 hw) (cs := ([u7_2, u17_4, u27_6, u37_8] : List Int32)) (bs := ([u7_2, u17_4, u27_6, u37_8] : List Int32).map (fun c => c.toInt8.toInt32)) (n := 4) (n0 := h0.size) (Nat.le_trans (Nat.le_trans (Nat.le_trans (Nat.le_trans (Nat.le_trans (Nat.le_trans (Nat.le_refl _) E9.1) (Keep.of_wr W10).1) (Keep.of_wr W11).1) (Keep.of_wr W12).1) (Keep.of_wr W13).1) (Nat.le_of_eq g14.symm)) (Nat.le_trans (Nat.le_trans (Nat.le_trans (Nat.le_trans (Nat.le_trans (Nat.le_trans (Nat.le_refl _) E9.1) (Keep.of_wr W10).1) (Keep.of_wr W11).1) (Keep.of_wr W12).1) (Keep.of_wr W13).1) E14.1) A14 Fn16 Fn15 K18 (O2.ext ((((((X00.ext E9).wr W10 (Nat.le_trans (Nat.le_refl _) (Nat.le_of_eq g9.symm))).wr W11 (Nat.le_trans (Nat.le_refl _) (Nat.le_of_eq g9.symm))).wr W12 (Nat.le_trans (Nat.le_refl _) (Nat.le_of_eq g9.symm))).wr W13 (Nat.le_trans (Nat.le_refl _) (Nat.le_of_eq g9.symm))).ext E14).2) P5 rfl rfl (by decide) (by decide) hp rfl (by decide) (by decide)) (g := (mkF m 74 #[.val (.int p0), .val (.int p1), .val (.int p2), .val (.int p3), .val (.int u7_2), .val (.int u17_4), .val (.int u27_6), .val (.int u37_8), .val (.ref b9), .unset, .unset, .unset, .unset, .unset, .unset] [(.ref b9), (.ref b14), (.ref b14)])) rfl (by rw [hml]; rfl) (Steps.refl _) (a := b14) (argsL := [(.ref b9)]) (rest := [(.ref b14)]) (lenOf pd3 rfl) rfl (by show 2 * 0 + _ ≤ _; exact Nat.le_of_eq rfl) (hb hby at_74) (fun _ _ => ⟨rfl, e14, (Nat.le_of_ble_eq_true rfl), (Nat.le_of_ble_eq_true rfl)⟩)
  dsimp only [Pt.U, Pt.locs, Pt.cells, Pt.slots] at X19 l19 y19 z19 st19 hQ19
  subst l19 y19 z19
  obtain ⟨rfl, Nq19, K19, E19, C19, t19, kb19, gt19, ht19, nt19, V19, A19⟩ := hQ19
  have N19 := Fr.app N13 Nq19
  have nt19_b9 : b9 ≠ t19 := Nat.ne_of_lt (Nat.lt_of_lt_of_le (Nat.lt_of_lt_of_le (Nat.lt_of_lt_of_le (Nat.lt_of_lt_of_le (Nat.lt_of_lt_of_le (Nat.lt_of_lt_of_le V9.lt (Keep.of_wr W10).1) (Keep.of_wr W11).1) (Keep.of_wr W12).1) (Keep.of_wr W13).1) E14.1) ht19)
  refine OD.via (B := (T19.setTop (mkF m 77 #[.val (.int p0), .val (.int p1), .val (.int p2), .val (.int p3), .val (.int u7_2), .val (.int u17_4), .val (.int u27_6), .val (.int u37_8), .val (.ref b9), .unset, .unset, .unset, .unset, .unset, .unset] [(.ref b14)]))) st19 ?_
  refine OD.go (B := (T19.setTop (mkF m 79 #[.val (.int p0), .val (.int p1), .val (.int p2), .val (.int p3), .val (.int u7_2), .val (.int u17_4), .val (.int u27_6), .val (.int u37_8), .val (.ref b9), .val (.ref b14), .unset, .unset, .unset, .unset, .unset] []))) (fun t k => XS.astore X19.here hx rfl (hb hby at_77) rfl rfl (l' := #[.val (.int p0), .val (.int p1), .val (.int p2), .val (.int p3), .val (.int u7_2), .val (.int u17_4), .val (.int u27_6), .val (.int u37_8), .val (.ref b9), .val (.ref b14), .unset, .unset, .unset, .unset, .unset]) rfl k) ?_
  refine OD.go (B := (T19.setTop (mkF m 80 #[.val (.int p0), .val (.int p1), .val (.int p2), .val (.int p3), .val (.int u7_2), .val (.int u17_4), .val (.int u27_6), .val (.int u37_8), .val (.ref b9), .val (.ref b14), .unset, .unset, .unset, .unset, .unset] [(.int p1)]))) (fun t k => XS.iloadN X19.here hx rfl (hb hby at_79) rfl k) ?_
  refine OD.go (B := (T19.setTop (mkF m 82 #[.val (.int p0), .val (.int p1), .val (.int p2), .val (.int p3), .val (.int u7_2), .val (.int u17_4), .val (.int u27_6), .val (.int u37_8), .val (.ref b9), .val (.ref b14), .unset, .unset, .unset, .unset, .unset] [(.int (2147483647 : Int32)), (.int p1)]))) (fun t k => X19.ldcInt hx hown (mv hZ (Wd34 hw)) (g := (mkF m 80 #[.val (.int p0), .val (.int p1), .val (.int p2), .val (.int p3), .val (.int u7_2), .val (.int u17_4), .val (.int u27_6), .val (.int u37_8), .val (.ref b9), .val (.ref b14), .unset, .unset, .unset, .unset, .unset] [(.int p1)])) rfl (hb hby at_80) _ k) ?_
  refine OD.go (B := (T19.setTop (mkF m 83 #[.val (.int p0), .val (.int p1), .val (.int p2), .val (.int p3), .val (.int u7_2), .val (.int u17_4), .val (.int u27_6), .val (.int u37_8), .val (.ref b9), .val (.ref b14), .unset, .unset, .unset, .unset, .unset] [(.int (p1 &&& (2147483647 : Int32)))]))) (fun t k => XS.iand X19.here hx rfl (hb hby at_82) rfl k) ?_
  refine OD.go (B := (T19.setTop (mkF m 84 #[.val (.int p0), .val (.int p1), .val (.int p2), .val (.int p3), .val (.int u7_2), .val (.int u17_4), .val (.int u27_6), .val (.int u37_8), .val (.ref b9), .val (.ref b14), .unset, .unset, .unset, .unset, .unset] [(.int (5 : Int32)), (.int (p1 &&& (2147483647 : Int32)))]))) (fun t k => XS.iconst X19.here hx rfl (hb hby at_83) k) ?_
  refine OD.go (B := (T19.setTop (mkF m 85 #[.val (.int p0), .val (.int p1), .val (.int p2), .val (.int p3), .val (.int u7_2), .val (.int u17_4), .val (.int u27_6), .val (.int u37_8), .val (.ref b9), .val (.ref b14), .unset, .unset, .unset, .unset, .unset] [(.int ((p1 &&& (2147483647 : Int32)) % (5 : Int32)))]))) (fun t k => iremM X19 hx rfl (hb hby at_84) rfl (by decide) k) ?_
  refine OD.go (B := (T19.setTop (mkF m 87 #[.val (.int p0), .val (.int p1), .val (.int p2), .val (.int p3), .val (.int u7_2), .val (.int u17_4), .val (.int u27_6), .val (.int u37_8), .val (.ref b9), .val (.ref b14), .val (.int ((p1 &&& (2147483647 : Int32)) % (5 : Int32))), .unset, .unset, .unset, .unset] []))) (fun t k => XS.istore X19.here hx rfl (hb hby at_85) rfl (l' := #[.val (.int p0), .val (.int p1), .val (.int p2), .val (.int p3), .val (.int u7_2), .val (.int u17_4), .val (.int u27_6), .val (.int u37_8), .val (.ref b9), .val (.ref b14), .val (.int ((p1 &&& (2147483647 : Int32)) % (5 : Int32))), .unset, .unset, .unset, .unset]) rfl k) ?_
  generalize hu85_20 : ((p1 &&& (2147483647 : Int32)) % (5 : Int32)) = u85_20
  have hcase := own_five hu85_20
  rcases hcase with rfl | rfl | rfl | rfl | rfl
  · show OD _ _ _ _ _ _ _ (T19.setTop (mkF m 87 #[.val (.int p0), .val (.int p1), .val (.int p2), .val (.int p3), .val (.int u7_2), .val (.int u17_4), .val (.int u27_6), .val (.int u37_8), .val (.ref b9), .val (.ref b14), .val (.int (0 : Int32)), .unset, .unset, .unset, .unset] []))
    obtain ⟨T21, h21, X21, e21, E21, A21, D21, -, st21⟩ := newO X19 hx hZ hown (Wd35 hw) (Wd36 hw) (Wd37 hw) rfl (g := (mkF m 87 #[.val (.int p0), .val (.int p1), .val (.int p2), .val (.int p3), .val (.int u7_2), .val (.int u17_4), .val (.int u27_6), .val (.int u37_8), .val (.ref b9), .val (.ref b14), .val (.int (0 : Int32)), .unset, .unset, .unset, .unset] [])) rfl (hb hby at_87) (Nat.le_of_ble_eq_true rfl) (Nat.le_of_ble_eq_true rfl)
    obtain ⟨b21, g21⟩ : ∃ z, z = T19.heap.size := ⟨_, rfl⟩
    rw [← g21] at A21 D21 st21
    have Fn22 : Fld Z h21 b21 "com/example/querent/querent/trec/ElementReader$Element" "body" "Ljava/lang/String;" .null := D21 (Or.inr (Wd48 hw)) (ty := (.object "java/lang/String")) (by decide)
    have Fn23 : Fld Z h21 b21 "com/example/querent/querent/trec/ElementReader$Element" "line" "I" (.int (0 : Int32)) := D21 (Or.inr (Wd50 hw)) (ty := .int) (by decide)
    refine OD.go (B := (T21.setTop (mkF m 90 #[.val (.int p0), .val (.int p1), .val (.int p2), .val (.int p3), .val (.int u7_2), .val (.int u17_4), .val (.int u27_6), .val (.int u37_8), .val (.ref b9), .val (.ref b14), .val (.int (0 : Int32)), .unset, .unset, .unset, .unset] [(.ref b21)]))) st21 ?_
    refine OD.go (B := (T21.setTop (mkF m 91 #[.val (.int p0), .val (.int p1), .val (.int p2), .val (.int p3), .val (.int u7_2), .val (.int u17_4), .val (.int u27_6), .val (.int u37_8), .val (.ref b9), .val (.ref b14), .val (.int (0 : Int32)), .unset, .unset, .unset, .unset] [(.ref b21), (.ref b21)]))) (fun t k => XS.dup X21.here hx rfl (hb hby at_90) rfl rfl k) ?_
    refine OD.go (B := (T21.setTop (mkF m 93 #[.val (.int p0), .val (.int p1), .val (.int p2), .val (.int p3), .val (.int u7_2), .val (.int u17_4), .val (.int u27_6), .val (.int u37_8), .val (.ref b9), .val (.ref b14), .val (.int (0 : Int32)), .unset, .unset, .unset, .unset] [(.ref b14), (.ref b21), (.ref b21)]))) (fun t k => XS.aload X21.here hx rfl (hb hby at_91) rfl rfl k) ?_
    refine OD.go (B := (T21.setTop (mkF m 94 #[.val (.int p0), .val (.int p1), .val (.int p2), .val (.int p3), .val (.int u7_2), .val (.int u17_4), .val (.int u27_6), .val (.int u37_8), .val (.ref b9), .val (.ref b14), .val (.int (0 : Int32)), .unset, .unset, .unset, .unset] [(.int p0), (.ref b14), (.ref b21), (.ref b21)]))) (fun t k => XS.iloadN X21.here hx rfl (hb hby at_93) rfl k) ?_
    obtain ⟨_, _, ⟨T24, L24, k24, n24⟩, -, X24, ⟨Lc24, hQ24, l24, y24, z24⟩, st24⟩ := X21.specialBack hx (y := (⟨"com/example/querent/querent/trec/ElementReader$Element", "<init>", "(Ljava/lang/String;I)V"⟩ : MethodName)) rfl hown (mvT hZ (Wd38 hw)) (mvT hZ (Wd39 hw)) (mvT hZ (Wd40 hw)) (by decide) (backOf (W := 1) (rmE l Z a0 hw [] b21 b14 p0 h21 h0.size (Nat.le_trans (Nat.le_trans (Nat.le_trans (Nat.le_trans (Nat.le_trans (Nat.le_trans (Nat.le_trans (Nat.le_trans (Nat.le_refl _) E9.1) (Keep.of_wr W10).1) (Keep.of_wr W11).1) (Keep.of_wr W12).1) (Keep.of_wr W13).1) E14.1) K19.1) E21.1) A21 Fn22 Fn23 (Nat.le_trans (Nat.le_trans (Nat.le_trans (Nat.le_trans (Nat.le_trans (Nat.le_trans (Nat.le_trans (Nat.le_trans (Nat.le_refl _) E9.1) (Keep.of_wr W10).1) (Keep.of_wr W11).1) (Keep.of_wr W12).1) (Keep.of_wr W13).1) E14.1) K19.1) (Nat.le_of_eq g21.symm))) hZ (Wd40 hw) (Wd37 hw) (by decide) (by decide)) (g := (mkF m 94 #[.val (.int p0), .val (.int p1), .val (.int p2), .val (.int p3), .val (.int u7_2), .val (.int u17_4), .val (.int u27_6), .val (.int u37_8), .val (.ref b9), .val (.ref b14), .val (.int (0 : Int32)), .unset, .unset, .unset, .unset] [(.int p0), (.ref b14), (.ref b21), (.ref b21)])) rfl (by rw [hml]; rfl) (Steps.refl _) (a := b21) (argsL := [(.ref b14), (.int p0)]) (rest := [(.ref b21)]) (lenOf pd4 rfl) rfl (by show 2 * 0 + _ ≤ _; exact Nat.le_of_eq rfl) (hb hby at_94) (fun _ _ => ⟨rfl, e21, (Nat.le_of_ble_eq_true rfl), (Nat.le_of_ble_eq_true rfl)⟩)
    dsimp only [Pt.U, Pt.locs, Pt.cells, Pt.slots] at X24 l24 y24 z24 st24 hQ24
    subst l24 y24 z24
    obtain ⟨rfl, Nq24, K24, G1_24, G2_24⟩ := hQ24
    have N24 := Fr.app N19 Nq24
    refine OD.via (B := (T24.setTop (mkF m 97 #[.val (.int p0), .val (.int p1), .val (.int p2), .val (.int p3), .val (.int u7_2), .val (.int u17_4), .val (.int u27_6), .val (.int u37_8), .val (.ref b9), .val (.ref b14), .val (.int (0 : Int32)), .unset, .unset, .unset, .unset] [(.ref b21)]))) st24 ?_
    refine OD.go (B := (T24.setTop (mkF m 99 #[.val (.int p0), .val (.int p1), .val (.int p2), .val (.int p3), .val (.int u7_2), .val (.int u17_4), .val (.int u27_6), .val (.int u37_8), .val (.ref b9), .val (.ref b14), .val (.int (0 : Int32)), .val (.ref b21), .unset, .unset, .unset] []))) (fun t k => XS.astore X24.here hx rfl (hb hby at_97) rfl rfl (l' := #[.val (.int p0), .val (.int p1), .val (.int p2), .val (.int p3), .val (.int u7_2), .val (.int u17_4), .val (.int u27_6), .val (.int u37_8), .val (.ref b9), .val (.ref b14), .val (.int (0 : Int32)), .val (.ref b21), .unset, .unset, .unset]) rfl k) ?_
    refine OD.go (B := (T24.setTop (mkF m 101 #[.val (.int p0), .val (.int p1), .val (.int p2), .val (.int p3), .val (.int u7_2), .val (.int u17_4), .val (.int u27_6), .val (.int u37_8), .val (.ref b9), .val (.ref b14), .val (.int (0 : Int32)), .val (.ref b21), .unset, .unset, .unset] [(.ref b21)]))) (fun t k => XS.aload X24.here hx rfl (hb hby at_99) rfl rfl k) ?_
    refine OD.go (B := (T24.setTop (mkF m 103 #[.val (.int p0), .val (.int p1), .val (.int p2), .val (.int p3), .val (.int u7_2), .val (.int u17_4), .val (.int u27_6), .val (.int u37_8), .val (.ref b9), .val (.ref b14), .val (.int (0 : Int32)), .val (.ref b21), .unset, .unset, .unset] [(.int (0 : Int32)), (.ref b21)]))) (fun t k => XS.iload X24.here hx rfl (hb hby at_101) rfl k) ?_
    have f25 := (A21.keep K24)
    have f26 := ((E19.ext E21).keep K24)
    have f27 := ((V19.ext E21).keep K24 (ninS (Nat.ne_of_lt (Nat.lt_of_lt_of_le (Nat.lt_of_lt_of_le A14.lt K19.1) (Nat.le_of_eq g21.symm))) nin0))
    have f28 := ((C19.ext E21).keep K24 (ninS (Nat.ne_of_lt (Nat.lt_of_lt_of_le (Nat.lt_of_lt_of_le A14.lt K19.1) (Nat.le_of_eq g21.symm))) nin0))
    have f29 := ((A19.ext E21).keep K24 (ninS (Nat.ne_of_lt (Nat.lt_of_lt_of_le A19.lt (Nat.le_of_eq g21.symm))) nin0))
    obtain ⟨cq30, kq30, qa30, qb30, qc30⟩ := isOf hZ rfl f25
    obtain ⟨_, _, ⟨T30, L30, k30, n30⟩, -, X30, ⟨Lc30, hQ30, l30, y30, z30⟩, st30⟩ := X24.virtualBack hx (y := (⟨"com/example/querent/querent/trec/ElementReader$Element", "lineAt", "(I)I"⟩ : MethodName)) (z := (⟨"com/example/querent/querent/trec/ElementReader$Element", "lineAt", "(I)I"⟩ : MethodName)) hown (mvT hZ (Wd51 hw)) (mvT hZ (Wd52 hw)) (notFace_of_selects (args := #[]) (mvT hZ (Wd54 hw))) (mvT hZ (Wd54 hw)) (mvT hZ (Wd53 hw)) (by decide) (backOf (W := 0) (rmL0 l Z a0 hw [] b21 T24.heap h0.size (((((((((X00.ext E9).wr W10 (Nat.le_trans (Nat.le_refl _) (Nat.le_of_eq g9.symm))).wr W11 (Nat.le_trans (Nat.le_refl _) (Nat.le_of_eq g9.symm))).wr W12 (Nat.le_trans (Nat.le_refl _) (Nat.le_of_eq g9.symm))).wr W13 (Nat.le_trans (Nat.le_refl _) (Nat.le_of_eq g9.symm))).ext E14).keep K19 (allS (Nat.le_trans (Nat.le_trans (Nat.le_trans (Nat.le_trans (Nat.le_trans (Nat.le_trans (Nat.le_refl _) E9.1) (Keep.of_wr W10).1) (Keep.of_wr W11).1) (Keep.of_wr W12).1) (Keep.of_wr W13).1) (Nat.le_of_eq g14.symm)) all0)).ext E21).keep K24 (allS (Nat.le_trans (Nat.le_trans (Nat.le_trans (Nat.le_trans (Nat.le_trans (Nat.le_trans (Nat.le_trans (Nat.le_trans (Nat.le_refl _) E9.1) (Keep.of_wr W10).1) (Keep.of_wr W11).1) (Keep.of_wr W12).1) (Keep.of_wr W13).1) E14.1) K19.1) (Nat.le_of_eq g21.symm)) all0)) p0 b14 t19 kb19 u7_2 u17_4 u27_6 u37_8 f25 G1_24 G2_24 f26 f27 f28 f29 hp zc O2 P5 fm O4 rG) hZ (Wd55 hw) (Wd37 hw) (by decide) (by decide)) qa30 qc30 (g := (mkF m 103 #[.val (.int p0), .val (.int p1), .val (.int p2), .val (.int p3), .val (.int u7_2), .val (.int u17_4), .val (.int u27_6), .val (.int u37_8), .val (.ref b9), .val (.ref b14), .val (.int (0 : Int32)), .val (.ref b21), .unset, .unset, .unset] [(.int (0 : Int32)), (.ref b21)])) rfl (by rw [hml]; rfl) (Steps.refl _) (argsL := [(.int (0 : Int32))]) (rest := []) (lenOf pd5 rfl) rfl (by show 2 * 0 + _ ≤ _; exact Nat.le_of_eq rfl) (hb hby at_103) (fun _ _ => ⟨rfl, rfl, (Nat.le_of_ble_eq_true rfl), (Nat.le_of_ble_eq_true rfl)⟩)
    dsimp only [Pt.U, Pt.locs, Pt.cells, Pt.slots] at X30 l30 y30 z30 st30 hQ30
    subst l30 y30 z30
    obtain ⟨rfl, rfl, e30⟩ := hQ30
    have N30 := Fr.app N24 (Fr.nil _)
    refine OD.via (B := (T30.setTop (mkF m 106 #[.val (.int p0), .val (.int p1), .val (.int p2), .val (.int p3), .val (.int u7_2), .val (.int u17_4), .val (.int u27_6), .val (.int u37_8), .val (.ref b9), .val (.ref b14), .val (.int (0 : Int32)), .val (.ref b21), .unset, .unset, .unset] [(.int p0)]))) st30 ?_
    refine OD.go (B := (T30.setTop (mkF m 108 #[.val (.int p0), .val (.int p1), .val (.int p2), .val (.int p3), .val (.int u7_2), .val (.int u17_4), .val (.int u27_6), .val (.int u37_8), .val (.ref b9), .val (.ref b14), .val (.int (0 : Int32)), .val (.ref b21), .val (.int p0), .unset, .unset] []))) (fun t k => XS.istore X30.here hx rfl (hb hby at_106) rfl (l' := #[.val (.int p0), .val (.int p1), .val (.int p2), .val (.int p3), .val (.int u7_2), .val (.int u17_4), .val (.int u27_6), .val (.int u37_8), .val (.ref b9), .val (.ref b14), .val (.int (0 : Int32)), .val (.ref b21), .val (.int p0), .unset, .unset]) rfl k) ?_
    refine OD.go (B := (T30.setTop (mkF m 109 #[.val (.int p0), .val (.int p1), .val (.int p2), .val (.int p3), .val (.int u7_2), .val (.int u17_4), .val (.int u27_6), .val (.int u37_8), .val (.ref b9), .val (.ref b14), .val (.int (0 : Int32)), .val (.ref b21), .val (.int p0), .unset, .unset] [(.int (0 : Int32))]))) (fun t k => XS.iconst X30.here hx rfl (hb hby at_108) k) ?_
    refine OD.go (B := (T30.setTop (mkF m 111 #[.val (.int p0), .val (.int p1), .val (.int p2), .val (.int p3), .val (.int u7_2), .val (.int u17_4), .val (.int u27_6), .val (.int u37_8), .val (.ref b9), .val (.ref b14), .val (.int (0 : Int32)), .val (.ref b21), .val (.int p0), .val (.int (0 : Int32)), .unset] []))) (fun t k => XS.istore X30.here hx rfl (hb hby at_109) rfl (l' := #[.val (.int p0), .val (.int p1), .val (.int p2), .val (.int p3), .val (.int u7_2), .val (.int u17_4), .val (.int u27_6), .val (.int u37_8), .val (.ref b9), .val (.ref b14), .val (.int (0 : Int32)), .val (.ref b21), .val (.int p0), .val (.int (0 : Int32)), .unset]) rfl k) ?_
    refine OD.go (B := (T30.setTop (mkF m 113 #[.val (.int p0), .val (.int p1), .val (.int p2), .val (.int p3), .val (.int u7_2), .val (.int u17_4), .val (.int u27_6), .val (.int u37_8), .val (.ref b9), .val (.ref b14), .val (.int (0 : Int32)), .val (.ref b21), .val (.int p0), .val (.int (0 : Int32)), .unset] [(.int (0 : Int32))]))) (fun t k => XS.iload X30.here hx rfl (hb hby at_111) rfl k) ?_
    refine OD.go (B := (T30.setTop (mkF m 126 #[.val (.int p0), .val (.int p1), .val (.int p2), .val (.int p3), .val (.int u7_2), .val (.int u17_4), .val (.int u27_6), .val (.int u37_8), .val (.ref b9), .val (.ref b14), .val (.int (0 : Int32)), .val (.ref b21), .val (.int p0), .val (.int (0 : Int32)), .unset] []))) (fun t k => XS.ifYes X30.here hx rfl (pc0 := 113) (pc' := 126) rfl (hb hby at_113) rfl (by rw [if0]; exact (flt (by decide : ¬ (0 : Int32) < (0 : Int32))).2.2.2) (by decide) (by decide) k) ?_
    refine OD.go (B := (T30.setTop (mkF m 128 #[.val (.int p0), .val (.int p1), .val (.int p2), .val (.int p3), .val (.int u7_2), .val (.int u17_4), .val (.int u27_6), .val (.int u37_8), .val (.ref b9), .val (.ref b14), .val (.int (0 : Int32)), .val (.ref b21), .val (.int p0), .val (.int (0 : Int32)), .unset] [(.int (0 : Int32))]))) (fun t k => XS.iload X30.here hx rfl (hb hby at_126) rfl k) ?_
    refine OD.go (B := (T30.setTop (mkF m 129 #[.val (.int p0), .val (.int p1), .val (.int p2), .val (.int p3), .val (.int u7_2), .val (.int u17_4), .val (.int u27_6), .val (.int u37_8), .val (.ref b9), .val (.ref b14), .val (.int (0 : Int32)), .val (.ref b21), .val (.int p0), .val (.int (0 : Int32)), .unset] [(.int (1 : Int32)), (.int (0 : Int32))]))) (fun t k => XS.iconst X30.here hx rfl (hb hby at_128) k) ?_
    refine OD.go (B := (T30.setTop (mkF m 142 #[.val (.int p0), .val (.int p1), .val (.int p2), .val (.int p3), .val (.int u7_2), .val (.int u17_4), .val (.int u27_6), .val (.int u37_8), .val (.ref b9), .val (.ref b14), .val (.int (0 : Int32)), .val (.ref b21), .val (.int p0), .val (.int (0 : Int32)), .unset] []))) (fun t k => XS.icmpYes X30.here hx rfl (pc0 := 129) (pc' := 142) rfl (hb hby at_129) rfl (flt (by decide : ¬ (1 : Int32) < (0 : Int32))).2.2.2 (by decide) (by decide) k) ?_
    refine OD.go (B := (T30.setTop (mkF m 144 #[.val (.int p0), .val (.int p1), .val (.int p2), .val (.int p3), .val (.int u7_2), .val (.int u17_4), .val (.int u27_6), .val (.int u37_8), .val (.ref b9), .val (.ref b14), .val (.int (0 : Int32)), .val (.ref b21), .val (.int p0), .val (.int (0 : Int32)), .unset] [(.int (0 : Int32))]))) (fun t k => XS.iload X30.here hx rfl (hb hby at_142) rfl k) ?_
    refine OD.go (B := (T30.setTop (mkF m 145 #[.val (.int p0), .val (.int p1), .val (.int p2), .val (.int p3), .val (.int u7_2), .val (.int u17_4), .val (.int u27_6), .val (.int u37_8), .val (.ref b9), .val (.ref b14), .val (.int (0 : Int32)), .val (.ref b21), .val (.int p0), .val (.int (0 : Int32)), .unset] [(.int (2 : Int32)), (.int (0 : Int32))]))) (fun t k => XS.iconst X30.here hx rfl (hb hby at_144) k) ?_
    refine OD.go (B := (T30.setTop (mkF m 158 #[.val (.int p0), .val (.int p1), .val (.int p2), .val (.int p3), .val (.int u7_2), .val (.int u17_4), .val (.int u27_6), .val (.int u37_8), .val (.ref b9), .val (.ref b14), .val (.int (0 : Int32)), .val (.ref b21), .val (.int p0), .val (.int (0 : Int32)), .unset] []))) (fun t k => XS.icmpYes X30.here hx rfl (pc0 := 145) (pc' := 158) rfl (hb hby at_145) rfl (flt (by decide : ¬ (2 : Int32) < (0 : Int32))).2.2.2 (by decide) (by decide) k) ?_
    refine OD.go (B := (T30.setTop (mkF m 160 #[.val (.int p0), .val (.int p1), .val (.int p2), .val (.int p3), .val (.int u7_2), .val (.int u17_4), .val (.int u27_6), .val (.int u37_8), .val (.ref b9), .val (.ref b14), .val (.int (0 : Int32)), .val (.ref b21), .val (.int p0), .val (.int (0 : Int32)), .unset] [(.int (0 : Int32))]))) (fun t k => XS.iload X30.here hx rfl (hb hby at_158) rfl k) ?_
    refine OD.go (B := (T30.setTop (mkF m 161 #[.val (.int p0), .val (.int p1), .val (.int p2), .val (.int p3), .val (.int u7_2), .val (.int u17_4), .val (.int u27_6), .val (.int u37_8), .val (.ref b9), .val (.ref b14), .val (.int (0 : Int32)), .val (.ref b21), .val (.int p0), .val (.int (0 : Int32)), .unset] [(.int (3 : Int32)), (.int (0 : Int32))]))) (fun t k => XS.iconst X30.here hx rfl (hb hby at_160) k) ?_
    refine OD.go (B := (T30.setTop (mkF m 174 #[.val (.int p0), .val (.int p1), .val (.int p2), .val (.int p3), .val (.int u7_2), .val (.int u17_4), .val (.int u27_6), .val (.int u37_8), .val (.ref b9), .val (.ref b14), .val (.int (0 : Int32)), .val (.ref b21), .val (.int p0), .val (.int (0 : Int32)), .unset] []))) (fun t k => XS.icmpYes X30.here hx rfl (pc0 := 161) (pc' := 174) rfl (hb hby at_161) rfl (flt (by decide : ¬ (3 : Int32) < (0 : Int32))).2.2.2 (by decide) (by decide) k) ?_
    refine OD.go (B := (T30.setTop (mkF m 175 #[.val (.int p0), .val (.int p1), .val (.int p2), .val (.int p3), .val (.int u7_2), .val (.int u17_4), .val (.int u27_6), .val (.int u37_8), .val (.ref b9), .val (.ref b14), .val (.int (0 : Int32)), .val (.ref b21), .val (.int p0), .val (.int (0 : Int32)), .unset] [(.int p0)]))) (fun t k => XS.iloadN X30.here hx rfl (hb hby at_174) rfl k) ?_
    refine OD.go (B := (T30.setTop (mkF m 177 #[.val (.int p0), .val (.int p1), .val (.int p2), .val (.int p3), .val (.int u7_2), .val (.int u17_4), .val (.int u27_6), .val (.int u37_8), .val (.ref b9), .val (.ref b14), .val (.int (0 : Int32)), .val (.ref b21), .val (.int p0), .val (.int (0 : Int32)), .unset] [(.int (0 : Int32)), (.int p0)]))) (fun t k => XS.iload X30.here hx rfl (hb hby at_175) rfl k) ?_
    refine OD.go (B := (T30.setTop (mkF m 178 #[.val (.int p0), .val (.int p1), .val (.int p2), .val (.int p3), .val (.int u7_2), .val (.int u17_4), .val (.int u27_6), .val (.int u37_8), .val (.ref b9), .val (.ref b14), .val (.int (0 : Int32)), .val (.ref b21), .val (.int p0), .val (.int (0 : Int32)), .unset] [(.int (p0 + (0 : Int32)))]))) (fun t k => XS.iadd X30.here hx rfl (hb hby at_177) rfl k) ?_
    refine OD.go (B := (T30.setTop (mkF m 180 #[.val (.int p0), .val (.int p1), .val (.int p2), .val (.int p3), .val (.int u7_2), .val (.int u17_4), .val (.int u27_6), .val (.int u37_8), .val (.ref b9), .val (.ref b14), .val (.int (0 : Int32)), .val (.ref b21), .val (.int p0), .val (.int (0 : Int32)), .val (.int (p0 + (0 : Int32)))] []))) (fun t k => XS.istore X30.here hx rfl (hb hby at_178) rfl (l' := #[.val (.int p0), .val (.int p1), .val (.int p2), .val (.int p3), .val (.int u7_2), .val (.int u17_4), .val (.int u27_6), .val (.int u37_8), .val (.ref b9), .val (.ref b14), .val (.int (0 : Int32)), .val (.ref b21), .val (.int p0), .val (.int (0 : Int32)), .val (.int (p0 + (0 : Int32)))]) rfl k) ?_
    generalize hu178_31 : (p0 + (0 : Int32)) = u178_31
    refine OD.go (B := (T30.setTop (mkF m 182 #[.val (.int p0), .val (.int p1), .val (.int p2), .val (.int p3), .val (.int u7_2), .val (.int u17_4), .val (.int u27_6), .val (.int u37_8), .val (.ref b9), .val (.ref b14), .val (.int (0 : Int32)), .val (.ref b21), .val (.int p0), .val (.int (0 : Int32)), .val (.int u178_31)] [(.int p0)]))) (fun t k => XS.iload X30.here hx rfl (hb hby at_180) rfl k) ?_
    refine OD.go (B := (T30.setTop (mkF m 184 #[.val (.int p0), .val (.int p1), .val (.int p2), .val (.int p3), .val (.int u7_2), .val (.int u17_4), .val (.int u27_6), .val (.int u37_8), .val (.ref b9), .val (.ref b14), .val (.int (0 : Int32)), .val (.ref b21), .val (.int p0), .val (.int (0 : Int32)), .val (.int u178_31)] [(.int u178_31), (.int p0)]))) (fun t k => XS.iload X30.here hx rfl (hb hby at_182) rfl k) ?_
    obtain ⟨v192_32, hv192_32⟩ : ∃ z : Int32, z = (if p0 = u178_31 then (1 : Int32) else (0 : Int32)) := ⟨_, rfl⟩
    refine OD.cut (B := (T30.setTop (mkF m 192 #[.val (.int p0), .val (.int p1), .val (.int p2), .val (.int p3), .val (.int u7_2), .val (.int u17_4), .val (.int u27_6), .val (.int u37_8), .val (.ref b9), .val (.ref b14), .val (.int (0 : Int32)), .val (.ref b21), .val (.int p0), .val (.int (0 : Int32)), .val (.int u178_31)] [(.int v192_32)]))) (fun J192_33 => ?_) ?_
    · skip
      by_cases c184_34 : p0 = u178_31
      · refine OD.go (B := (T30.setTop (mkF m 187 #[.val (.int p0), .val (.int p1), .val (.int p2), .val (.int p3), .val (.int u7_2), .val (.int u17_4), .val (.int u27_6), .val (.int u37_8), .val (.ref b9), .val (.ref b14), .val (.int (0 : Int32)), .val (.ref b21), .val (.int p0), .val (.int (0 : Int32)), .val (.int u178_31)] []))) (fun t k => XS.icmpNo X30.here hx rfl (hb hby at_184) rfl (teq c184_34).2 k) ?_
        refine OD.go (B := (T30.setTop (mkF m 188 #[.val (.int p0), .val (.int p1), .val (.int p2), .val (.int p3), .val (.int u7_2), .val (.int u17_4), .val (.int u27_6), .val (.int u37_8), .val (.ref b9), .val (.ref b14), .val (.int (0 : Int32)), .val (.ref b21), .val (.int p0), .val (.int (0 : Int32)), .val (.int u178_31)] [(.int (1 : Int32))]))) (fun t k => XS.iconst X30.here hx rfl (hb hby at_187) k) ?_
        refine OD.go (B := (T30.setTop (mkF m 192 #[.val (.int p0), .val (.int p1), .val (.int p2), .val (.int p3), .val (.int u7_2), .val (.int u17_4), .val (.int u27_6), .val (.int u37_8), .val (.ref b9), .val (.ref b14), .val (.int (0 : Int32)), .val (.ref b21), .val (.int p0), .val (.int (0 : Int32)), .val (.int u178_31)] [(.int (1 : Int32))]))) (fun t k => XS.goto X30.here hx rfl (pc0 := 188) (pc' := 192) rfl (hb hby at_188) (by decide) (by decide) k) ?_
        rw [if_pos c184_34] at hv192_32
        rw [hv192_32] at J192_33
        exact J192_33
      · refine OD.go (B := (T30.setTop (mkF m 191 #[.val (.int p0), .val (.int p1), .val (.int p2), .val (.int p3), .val (.int u7_2), .val (.int u17_4), .val (.int u27_6), .val (.int u37_8), .val (.ref b9), .val (.ref b14), .val (.int (0 : Int32)), .val (.ref b21), .val (.int p0), .val (.int (0 : Int32)), .val (.int u178_31)] []))) (fun t k => XS.icmpYes X30.here hx rfl (pc0 := 184) (pc' := 191) rfl (hb hby at_184) rfl (feq c184_34).2 (by decide) (by decide) k) ?_
        refine OD.go (B := (T30.setTop (mkF m 192 #[.val (.int p0), .val (.int p1), .val (.int p2), .val (.int p3), .val (.int u7_2), .val (.int u17_4), .val (.int u27_6), .val (.int u37_8), .val (.ref b9), .val (.ref b14), .val (.int (0 : Int32)), .val (.ref b21), .val (.int p0), .val (.int (0 : Int32)), .val (.int u178_31)] [(.int (0 : Int32))]))) (fun t k => XS.iconst X30.here hx rfl (hb hby at_191) k) ?_
        rw [if_neg c184_34] at hv192_32
        rw [hv192_32] at J192_33
        exact J192_33
    have fin : v192_32 = 1 := by
      subst hu178_31
      rw [hv192_32, if_pos]
      simp only [own_stnl, Int32.add_assoc, Int32.zero_add, Int32.add_zero]
    rw [fin]
    exact OD.ret X30 hx hlk (t := .boolean) Bd.returns rfl (Or.inl ⟨rfl, Or.inr (Or.inl rfl), _, rfl⟩) (hb hby at_192) (Nat.le_of_ble_eq_true rfl) (Nat.le_of_ble_eq_true rfl) ⟨rfl, N30⟩
  · show OD _ _ _ _ _ _ _ (T19.setTop (mkF m 87 #[.val (.int p0), .val (.int p1), .val (.int p2), .val (.int p3), .val (.int u7_2), .val (.int u17_4), .val (.int u27_6), .val (.int u37_8), .val (.ref b9), .val (.ref b14), .val (.int (1 : Int32)), .unset, .unset, .unset, .unset] []))
    obtain ⟨T35, h35, X35, e35, E35, A35, D35, -, st35⟩ := newO X19 hx hZ hown (Wd35 hw) (Wd36 hw) (Wd37 hw) rfl (g := (mkF m 87 #[.val (.int p0), .val (.int p1), .val (.int p2), .val (.int p3), .val (.int u7_2), .val (.int u17_4), .val (.int u27_6), .val (.int u37_8), .val (.ref b9), .val (.ref b14), .val (.int (1 : Int32)), .unset, .unset, .unset, .unset] [])) rfl (hb hby at_87) (Nat.le_of_ble_eq_true rfl) (Nat.le_of_ble_eq_true rfl)
    obtain ⟨b35, g35⟩ : ∃ z, z = T19.heap.size := ⟨_, rfl⟩
    rw [← g35] at A35 D35 st35
    have Fn36 : Fld Z h35 b35 "com/example/querent/querent/trec/ElementReader$Element" "body" "Ljava/lang/String;" .null := D35 (Or.inr (Wd48 hw)) (ty := (.object "java/lang/String")) (by decide)
    have Fn37 : Fld Z h35 b35 "com/example/querent/querent/trec/ElementReader$Element" "line" "I" (.int (0 : Int32)) := D35 (Or.inr (Wd50 hw)) (ty := .int) (by decide)
    refine OD.go (B := (T35.setTop (mkF m 90 #[.val (.int p0), .val (.int p1), .val (.int p2), .val (.int p3), .val (.int u7_2), .val (.int u17_4), .val (.int u27_6), .val (.int u37_8), .val (.ref b9), .val (.ref b14), .val (.int (1 : Int32)), .unset, .unset, .unset, .unset] [(.ref b35)]))) st35 ?_
    refine OD.go (B := (T35.setTop (mkF m 91 #[.val (.int p0), .val (.int p1), .val (.int p2), .val (.int p3), .val (.int u7_2), .val (.int u17_4), .val (.int u27_6), .val (.int u37_8), .val (.ref b9), .val (.ref b14), .val (.int (1 : Int32)), .unset, .unset, .unset, .unset] [(.ref b35), (.ref b35)]))) (fun t k => XS.dup X35.here hx rfl (hb hby at_90) rfl rfl k) ?_
    refine OD.go (B := (T35.setTop (mkF m 93 #[.val (.int p0), .val (.int p1), .val (.int p2), .val (.int p3), .val (.int u7_2), .val (.int u17_4), .val (.int u27_6), .val (.int u37_8), .val (.ref b9), .val (.ref b14), .val (.int (1 : Int32)), .unset, .unset, .unset, .unset] [(.ref b14), (.ref b35), (.ref b35)]))) (fun t k => XS.aload X35.here hx rfl (hb hby at_91) rfl rfl k) ?_
    refine OD.go (B := (T35.setTop (mkF m 94 #[.val (.int p0), .val (.int p1), .val (.int p2), .val (.int p3), .val (.int u7_2), .val (.int u17_4), .val (.int u27_6), .val (.int u37_8), .val (.ref b9), .val (.ref b14), .val (.int (1 : Int32)), .unset, .unset, .unset, .unset] [(.int p0), (.ref b14), (.ref b35), (.ref b35)]))) (fun t k => XS.iloadN X35.here hx rfl (hb hby at_93) rfl k) ?_
    obtain ⟨_, _, ⟨T38, L38, k38, n38⟩, -, X38, ⟨Lc38, hQ38, l38, y38, z38⟩, st38⟩ := X35.specialBack hx (y := (⟨"com/example/querent/querent/trec/ElementReader$Element", "<init>", "(Ljava/lang/String;I)V"⟩ : MethodName)) rfl hown (mvT hZ (Wd38 hw)) (mvT hZ (Wd39 hw)) (mvT hZ (Wd40 hw)) (by decide) (backOf (W := 1) (rmE l Z a0 hw [] b35 b14 p0 h35 h0.size (Nat.le_trans (Nat.le_trans (Nat.le_trans (Nat.le_trans (Nat.le_trans (Nat.le_trans (Nat.le_trans (Nat.le_trans (Nat.le_refl _) E9.1) (Keep.of_wr W10).1) (Keep.of_wr W11).1) (Keep.of_wr W12).1) (Keep.of_wr W13).1) E14.1) K19.1) E35.1) A35 Fn36 Fn37 (Nat.le_trans (Nat.le_trans (Nat.le_trans (Nat.le_trans (Nat.le_trans (Nat.le_trans (Nat.le_trans (Nat.le_trans (Nat.le_refl _) E9.1) (Keep.of_wr W10).1) (Keep.of_wr W11).1) (Keep.of_wr W12).1) (Keep.of_wr W13).1) E14.1) K19.1) (Nat.le_of_eq g35.symm))) hZ (Wd40 hw) (Wd37 hw) (by decide) (by decide)) (g := (mkF m 94 #[.val (.int p0), .val (.int p1), .val (.int p2), .val (.int p3), .val (.int u7_2), .val (.int u17_4), .val (.int u27_6), .val (.int u37_8), .val (.ref b9), .val (.ref b14), .val (.int (1 : Int32)), .unset, .unset, .unset, .unset] [(.int p0), (.ref b14), (.ref b35), (.ref b35)])) rfl (by rw [hml]; rfl) (Steps.refl _) (a := b35) (argsL := [(.ref b14), (.int p0)]) (rest := [(.ref b35)]) (lenOf pd4 rfl) rfl (by show 2 * 0 + _ ≤ _; exact Nat.le_of_eq rfl) (hb hby at_94) (fun _ _ => ⟨rfl, e35, (Nat.le_of_ble_eq_true rfl), (Nat.le_of_ble_eq_true rfl)⟩)
    dsimp only [Pt.U, Pt.locs, Pt.cells, Pt.slots] at X38 l38 y38 z38 st38 hQ38
    subst l38 y38 z38
    obtain ⟨rfl, Nq38, K38, G1_38, G2_38⟩ := hQ38
    have N38 := Fr.app N19 Nq38
    refine OD.via (B := (T38.setTop (mkF m 97 #[.val (.int p0), .val (.int p1), .val (.int p2), .val (.int p3), .val (.int u7_2), .val (.int u17_4), .val (.int u27_6), .val (.int u37_8), .val (.ref b9), .val (.ref b14), .val (.int (1 : Int32)), .unset, .unset, .unset, .unset] [(.ref b35)]))) st38 ?_
    refine OD.go (B := (T38.setTop (mkF m 99 #[.val (.int p0), .val (.int p1), .val (.int p2), .val (.int p3), .val (.int u7_2), .val (.int u17_4), .val (.int u27_6), .val (.int u37_8), .val (.ref b9), .val (.ref b14), .val (.int (1 : Int32)), .val (.ref b35), .unset, .unset, .unset] []))) (fun t k => XS.astore X38.here hx rfl (hb hby at_97) rfl rfl (l' := #[.val (.int p0), .val (.int p1), .val (.int p2), .val (.int p3), .val (.int u7_2), .val (.int u17_4), .val (.int u27_6), .val (.int u37_8), .val (.ref b9), .val (.ref b14), .val (.int (1 : Int32)), .val (.ref b35), .unset, .unset, .unset]) rfl k) ?_
    refine OD.go (B := (T38.setTop (mkF m 101 #[.val (.int p0), .val (.int p1), .val (.int p2), .val (.int p3), .val (.int u7_2), .val (.int u17_4), .val (.int u27_6), .val (.int u37_8), .val (.ref b9), .val (.ref b14), .val (.int (1 : Int32)), .val (.ref b35), .unset, .unset, .unset] [(.ref b35)]))) (fun t k => XS.aload X38.here hx rfl (hb hby at_99) rfl rfl k) ?_
    refine OD.go (B := (T38.setTop (mkF m 103 #[.val (.int p0), .val (.int p1), .val (.int p2), .val (.int p3), .val (.int u7_2), .val (.int u17_4), .val (.int u27_6), .val (.int u37_8), .val (.ref b9), .val (.ref b14), .val (.int (1 : Int32)), .val (.ref b35), .unset, .unset, .unset] [(.int (1 : Int32)), (.ref b35)]))) (fun t k => XS.iload X38.here hx rfl (hb hby at_101) rfl k) ?_
    have f39 := (A35.keep K38)
    have f40 := ((E19.ext E35).keep K38)
    have f41 := ((V19.ext E35).keep K38 (ninS (Nat.ne_of_lt (Nat.lt_of_lt_of_le (Nat.lt_of_lt_of_le A14.lt K19.1) (Nat.le_of_eq g35.symm))) nin0))
    have f42 := ((C19.ext E35).keep K38 (ninS (Nat.ne_of_lt (Nat.lt_of_lt_of_le (Nat.lt_of_lt_of_le A14.lt K19.1) (Nat.le_of_eq g35.symm))) nin0))
    have f43 := ((A19.ext E35).keep K38 (ninS (Nat.ne_of_lt (Nat.lt_of_lt_of_le A19.lt (Nat.le_of_eq g35.symm))) nin0))
    obtain ⟨cq44, kq44, qa44, qb44, qc44⟩ := isOf hZ rfl f39
    obtain ⟨_, _, ⟨T44, L44, k44, n44⟩, -, X44, ⟨Lc44, hQ44, l44, y44, z44⟩, st44⟩ := X38.virtualBack hx (y := (⟨"com/example/querent/querent/trec/ElementReader$Element", "lineAt", "(I)I"⟩ : MethodName)) (z := (⟨"com/example/querent/querent/trec/ElementReader$Element", "lineAt", "(I)I"⟩ : MethodName)) hown (mvT hZ (Wd51 hw)) (mvT hZ (Wd52 hw)) (notFace_of_selects (args := #[]) (mvT hZ (Wd54 hw))) (mvT hZ (Wd54 hw)) (mvT hZ (Wd53 hw)) (by decide) (backOf (W := 0) (rmL1 l Z a0 hw [] b35 T38.heap h0.size (((((((((X00.ext E9).wr W10 (Nat.le_trans (Nat.le_refl _) (Nat.le_of_eq g9.symm))).wr W11 (Nat.le_trans (Nat.le_refl _) (Nat.le_of_eq g9.symm))).wr W12 (Nat.le_trans (Nat.le_refl _) (Nat.le_of_eq g9.symm))).wr W13 (Nat.le_trans (Nat.le_refl _) (Nat.le_of_eq g9.symm))).ext E14).keep K19 (allS (Nat.le_trans (Nat.le_trans (Nat.le_trans (Nat.le_trans (Nat.le_trans (Nat.le_trans (Nat.le_refl _) E9.1) (Keep.of_wr W10).1) (Keep.of_wr W11).1) (Keep.of_wr W12).1) (Keep.of_wr W13).1) (Nat.le_of_eq g14.symm)) all0)).ext E35).keep K38 (allS (Nat.le_trans (Nat.le_trans (Nat.le_trans (Nat.le_trans (Nat.le_trans (Nat.le_trans (Nat.le_trans (Nat.le_trans (Nat.le_refl _) E9.1) (Keep.of_wr W10).1) (Keep.of_wr W11).1) (Keep.of_wr W12).1) (Keep.of_wr W13).1) E14.1) K19.1) (Nat.le_of_eq g35.symm)) all0)) p0 b14 t19 kb19 u7_2 u17_4 u27_6 u37_8 f39 G1_38 G2_38 f40 f41 f42 f43 hp zc O2 P5 fm O4 rG) hZ (Wd55 hw) (Wd37 hw) (by decide) (by decide)) qa44 qc44 (g := (mkF m 103 #[.val (.int p0), .val (.int p1), .val (.int p2), .val (.int p3), .val (.int u7_2), .val (.int u17_4), .val (.int u27_6), .val (.int u37_8), .val (.ref b9), .val (.ref b14), .val (.int (1 : Int32)), .val (.ref b35), .unset, .unset, .unset] [(.int (1 : Int32)), (.ref b35)])) rfl (by rw [hml]; rfl) (Steps.refl _) (argsL := [(.int (1 : Int32))]) (rest := []) (lenOf pd5 rfl) rfl (by show 2 * 0 + _ ≤ _; exact Nat.le_of_eq rfl) (hb hby at_103) (fun _ _ => ⟨rfl, rfl, (Nat.le_of_ble_eq_true rfl), (Nat.le_of_ble_eq_true rfl)⟩)
    dsimp only [Pt.U, Pt.locs, Pt.cells, Pt.slots] at X44 l44 y44 z44 st44 hQ44
    subst l44 y44 z44
    obtain ⟨rfl, rfl, e44⟩ := hQ44
    have N44 := Fr.app N38 (Fr.nil _)
    refine OD.via (B := (T44.setTop (mkF m 106 #[.val (.int p0), .val (.int p1), .val (.int p2), .val (.int p3), .val (.int u7_2), .val (.int u17_4), .val (.int u27_6), .val (.int u37_8), .val (.ref b9), .val (.ref b14), .val (.int (1 : Int32)), .val (.ref b35), .unset, .unset, .unset] [(.int (own_st p0 u7_2))]))) st44 ?_
    refine OD.go (B := (T44.setTop (mkF m 108 #[.val (.int p0), .val (.int p1), .val (.int p2), .val (.int p3), .val (.int u7_2), .val (.int u17_4), .val (.int u27_6), .val (.int u37_8), .val (.ref b9), .val (.ref b14), .val (.int (1 : Int32)), .val (.ref b35), .val (.int (own_st p0 u7_2)), .unset, .unset] []))) (fun t k => XS.istore X44.here hx rfl (hb hby at_106) rfl (l' := #[.val (.int p0), .val (.int p1), .val (.int p2), .val (.int p3), .val (.int u7_2), .val (.int u17_4), .val (.int u27_6), .val (.int u37_8), .val (.ref b9), .val (.ref b14), .val (.int (1 : Int32)), .val (.ref b35), .val (.int (own_st p0 u7_2)), .unset, .unset]) rfl k) ?_
    generalize hu106_45 : (own_st p0 u7_2) = u106_45
    refine OD.go (B := (T44.setTop (mkF m 109 #[.val (.int p0), .val (.int p1), .val (.int p2), .val (.int p3), .val (.int u7_2), .val (.int u17_4), .val (.int u27_6), .val (.int u37_8), .val (.ref b9), .val (.ref b14), .val (.int (1 : Int32)), .val (.ref b35), .val (.int u106_45), .unset, .unset] [(.int (0 : Int32))]))) (fun t k => XS.iconst X44.here hx rfl (hb hby at_108) k) ?_
    refine OD.go (B := (T44.setTop (mkF m 111 #[.val (.int p0), .val (.int p1), .val (.int p2), .val (.int p3), .val (.int u7_2), .val (.int u17_4), .val (.int u27_6), .val (.int u37_8), .val (.ref b9), .val (.ref b14), .val (.int (1 : Int32)), .val (.ref b35), .val (.int u106_45), .val (.int (0 : Int32)), .unset] []))) (fun t k => XS.istore X44.here hx rfl (hb hby at_109) rfl (l' := #[.val (.int p0), .val (.int p1), .val (.int p2), .val (.int p3), .val (.int u7_2), .val (.int u17_4), .val (.int u27_6), .val (.int u37_8), .val (.ref b9), .val (.ref b14), .val (.int (1 : Int32)), .val (.ref b35), .val (.int u106_45), .val (.int (0 : Int32)), .unset]) rfl k) ?_
    refine OD.go (B := (T44.setTop (mkF m 113 #[.val (.int p0), .val (.int p1), .val (.int p2), .val (.int p3), .val (.int u7_2), .val (.int u17_4), .val (.int u27_6), .val (.int u37_8), .val (.ref b9), .val (.ref b14), .val (.int (1 : Int32)), .val (.ref b35), .val (.int u106_45), .val (.int (0 : Int32)), .unset] [(.int (1 : Int32))]))) (fun t k => XS.iload X44.here hx rfl (hb hby at_111) rfl k) ?_
    refine OD.go (B := (T44.setTop (mkF m 116 #[.val (.int p0), .val (.int p1), .val (.int p2), .val (.int p3), .val (.int u7_2), .val (.int u17_4), .val (.int u27_6), .val (.int u37_8), .val (.ref b9), .val (.ref b14), .val (.int (1 : Int32)), .val (.ref b35), .val (.int u106_45), .val (.int (0 : Int32)), .unset] []))) (fun t k => XS.ifNo X44.here hx rfl (hb hby at_113) rfl (by rw [if0]; exact (tlt (by decide : (0 : Int32) < (1 : Int32))).2.2.2) k) ?_
    refine OD.go (B := (T44.setTop (mkF m 118 #[.val (.int p0), .val (.int p1), .val (.int p2), .val (.int p3), .val (.int u7_2), .val (.int u17_4), .val (.int u27_6), .val (.int u37_8), .val (.ref b9), .val (.ref b14), .val (.int (1 : Int32)), .val (.ref b35), .val (.int u106_45), .val (.int (0 : Int32)), .unset] [(.int (0 : Int32))]))) (fun t k => XS.iload X44.here hx rfl (hb hby at_116) rfl k) ?_
    refine OD.go (B := (T44.setTop (mkF m 120 #[.val (.int p0), .val (.int p1), .val (.int p2), .val (.int p3), .val (.int u7_2), .val (.int u17_4), .val (.int u27_6), .val (.int u37_8), .val (.ref b9), .val (.ref b14), .val (.int (1 : Int32)), .val (.ref b35), .val (.int u106_45), .val (.int (0 : Int32)), .unset] [(.int u7_2), (.int (0 : Int32))]))) (fun t k => XS.iload X44.here hx rfl (hb hby at_118) rfl k) ?_
    obtain ⟨_, _, ⟨T46, L46, k46, n46⟩, -, X46, ⟨Lc46, hQ46, l46, y46, z46⟩, st46⟩ := Jvm.LawKit.callS X44 hx (y := (⟨"com/example/querent/querent/trec/ElementLineAtPinLaw", "nl", "(C)I"⟩ : MethodName)) hown (mvT hZ (Wd78 hw)) (mvT hZ (Wd79 hw)) (mvT hZ (Wd2 hw)) (mvT hZ (Wd80 hw)) (by decide) (backOf (W := 1) (rmN l Z a0 hw [] u7_2 T38.heap) hZ (Wd80 hw) (Wd2 hw) (by decide) (by decide)) (g := (mkF m 120 #[.val (.int p0), .val (.int p1), .val (.int p2), .val (.int p3), .val (.int u7_2), .val (.int u17_4), .val (.int u27_6), .val (.int u37_8), .val (.ref b9), .val (.ref b14), .val (.int (1 : Int32)), .val (.ref b35), .val (.int u106_45), .val (.int (0 : Int32)), .unset] [(.int u7_2), (.int (0 : Int32))])) rfl (by rw [hml]; rfl) (argsL := [(.int u7_2)]) (rest := [(.int (0 : Int32))]) (lenOf pd6 rfl) rfl (by show 2 * 0 + _ ≤ _; exact Nat.le_of_eq rfl) (hb hby at_120) (fun _ _ => ⟨rfl, e44, (Nat.le_of_ble_eq_true rfl), (Nat.le_of_ble_eq_true rfl)⟩)
    dsimp only [Pt.U, Pt.locs, Pt.cells, Pt.slots] at X46 l46 y46 z46 st46 hQ46
    subst l46 y46 z46
    obtain ⟨rfl, rfl, e46⟩ := hQ46
    have N46 := Fr.app N44 (Fr.nil _)
    refine OD.go (B := (T46.setTop (mkF m 123 #[.val (.int p0), .val (.int p1), .val (.int p2), .val (.int p3), .val (.int u7_2), .val (.int u17_4), .val (.int u27_6), .val (.int u37_8), .val (.ref b9), .val (.ref b14), .val (.int (1 : Int32)), .val (.ref b35), .val (.int u106_45), .val (.int (0 : Int32)), .unset] [(.int (own_nl u7_2)), (.int (0 : Int32))]))) st46 ?_
    refine OD.go (B := (T46.setTop (mkF m 124 #[.val (.int p0), .val (.int p1), .val (.int p2), .val (.int p3), .val (.int u7_2), .val (.int u17_4), .val (.int u27_6), .val (.int u37_8), .val (.ref b9), .val (.ref b14), .val (.int (1 : Int32)), .val (.ref b35), .val (.int u106_45), .val (.int (0 : Int32)), .unset] [(.int ((0 : Int32) + (own_nl u7_2)))]))) (fun t k => XS.iadd X46.here hx rfl (hb hby at_123) rfl k) ?_
    refine OD.go (B := (T46.setTop (mkF m 126 #[.val (.int p0), .val (.int p1), .val (.int p2), .val (.int p3), .val (.int u7_2), .val (.int u17_4), .val (.int u27_6), .val (.int u37_8), .val (.ref b9), .val (.ref b14), .val (.int (1 : Int32)), .val (.ref b35), .val (.int u106_45), .val (.int ((0 : Int32) + (own_nl u7_2))), .unset] []))) (fun t k => XS.istore X46.here hx rfl (hb hby at_124) rfl (l' := #[.val (.int p0), .val (.int p1), .val (.int p2), .val (.int p3), .val (.int u7_2), .val (.int u17_4), .val (.int u27_6), .val (.int u37_8), .val (.ref b9), .val (.ref b14), .val (.int (1 : Int32)), .val (.ref b35), .val (.int u106_45), .val (.int ((0 : Int32) + (own_nl u7_2))), .unset]) rfl k) ?_
    generalize hu124_47 : ((0 : Int32) + (own_nl u7_2)) = u124_47
    refine OD.go (B := (T46.setTop (mkF m 128 #[.val (.int p0), .val (.int p1), .val (.int p2), .val (.int p3), .val (.int u7_2), .val (.int u17_4), .val (.int u27_6), .val (.int u37_8), .val (.ref b9), .val (.ref b14), .val (.int (1 : Int32)), .val (.ref b35), .val (.int u106_45), .val (.int u124_47), .unset] [(.int (1 : Int32))]))) (fun t k => XS.iload X46.here hx rfl (hb hby at_126) rfl k) ?_
    refine OD.go (B := (T46.setTop (mkF m 129 #[.val (.int p0), .val (.int p1), .val (.int p2), .val (.int p3), .val (.int u7_2), .val (.int u17_4), .val (.int u27_6), .val (.int u37_8), .val (.ref b9), .val (.ref b14), .val (.int (1 : Int32)), .val (.ref b35), .val (.int u106_45), .val (.int u124_47), .unset] [(.int (1 : Int32)), (.int (1 : Int32))]))) (fun t k => XS.iconst X46.here hx rfl (hb hby at_128) k) ?_
    refine OD.go (B := (T46.setTop (mkF m 142 #[.val (.int p0), .val (.int p1), .val (.int p2), .val (.int p3), .val (.int u7_2), .val (.int u17_4), .val (.int u27_6), .val (.int u37_8), .val (.ref b9), .val (.ref b14), .val (.int (1 : Int32)), .val (.ref b35), .val (.int u106_45), .val (.int u124_47), .unset] []))) (fun t k => XS.icmpYes X46.here hx rfl (pc0 := 129) (pc' := 142) rfl (hb hby at_129) rfl (flt (by decide : ¬ (1 : Int32) < (1 : Int32))).2.2.2 (by decide) (by decide) k) ?_
    refine OD.go (B := (T46.setTop (mkF m 144 #[.val (.int p0), .val (.int p1), .val (.int p2), .val (.int p3), .val (.int u7_2), .val (.int u17_4), .val (.int u27_6), .val (.int u37_8), .val (.ref b9), .val (.ref b14), .val (.int (1 : Int32)), .val (.ref b35), .val (.int u106_45), .val (.int u124_47), .unset] [(.int (1 : Int32))]))) (fun t k => XS.iload X46.here hx rfl (hb hby at_142) rfl k) ?_
    refine OD.go (B := (T46.setTop (mkF m 145 #[.val (.int p0), .val (.int p1), .val (.int p2), .val (.int p3), .val (.int u7_2), .val (.int u17_4), .val (.int u27_6), .val (.int u37_8), .val (.ref b9), .val (.ref b14), .val (.int (1 : Int32)), .val (.ref b35), .val (.int u106_45), .val (.int u124_47), .unset] [(.int (2 : Int32)), (.int (1 : Int32))]))) (fun t k => XS.iconst X46.here hx rfl (hb hby at_144) k) ?_
    refine OD.go (B := (T46.setTop (mkF m 158 #[.val (.int p0), .val (.int p1), .val (.int p2), .val (.int p3), .val (.int u7_2), .val (.int u17_4), .val (.int u27_6), .val (.int u37_8), .val (.ref b9), .val (.ref b14), .val (.int (1 : Int32)), .val (.ref b35), .val (.int u106_45), .val (.int u124_47), .unset] []))) (fun t k => XS.icmpYes X46.here hx rfl (pc0 := 145) (pc' := 158) rfl (hb hby at_145) rfl (flt (by decide : ¬ (2 : Int32) < (1 : Int32))).2.2.2 (by decide) (by decide) k) ?_
    refine OD.go (B := (T46.setTop (mkF m 160 #[.val (.int p0), .val (.int p1), .val (.int p2), .val (.int p3), .val (.int u7_2), .val (.int u17_4), .val (.int u27_6), .val (.int u37_8), .val (.ref b9), .val (.ref b14), .val (.int (1 : Int32)), .val (.ref b35), .val (.int u106_45), .val (.int u124_47), .unset] [(.int (1 : Int32))]))) (fun t k => XS.iload X46.here hx rfl (hb hby at_158) rfl k) ?_
    refine OD.go (B := (T46.setTop (mkF m 161 #[.val (.int p0), .val (.int p1), .val (.int p2), .val (.int p3), .val (.int u7_2), .val (.int u17_4), .val (.int u27_6), .val (.int u37_8), .val (.ref b9), .val (.ref b14), .val (.int (1 : Int32)), .val (.ref b35), .val (.int u106_45), .val (.int u124_47), .unset] [(.int (3 : Int32)), (.int (1 : Int32))]))) (fun t k => XS.iconst X46.here hx rfl (hb hby at_160) k) ?_
    refine OD.go (B := (T46.setTop (mkF m 174 #[.val (.int p0), .val (.int p1), .val (.int p2), .val (.int p3), .val (.int u7_2), .val (.int u17_4), .val (.int u27_6), .val (.int u37_8), .val (.ref b9), .val (.ref b14), .val (.int (1 : Int32)), .val (.ref b35), .val (.int u106_45), .val (.int u124_47), .unset] []))) (fun t k => XS.icmpYes X46.here hx rfl (pc0 := 161) (pc' := 174) rfl (hb hby at_161) rfl (flt (by decide : ¬ (3 : Int32) < (1 : Int32))).2.2.2 (by decide) (by decide) k) ?_
    refine OD.go (B := (T46.setTop (mkF m 175 #[.val (.int p0), .val (.int p1), .val (.int p2), .val (.int p3), .val (.int u7_2), .val (.int u17_4), .val (.int u27_6), .val (.int u37_8), .val (.ref b9), .val (.ref b14), .val (.int (1 : Int32)), .val (.ref b35), .val (.int u106_45), .val (.int u124_47), .unset] [(.int p0)]))) (fun t k => XS.iloadN X46.here hx rfl (hb hby at_174) rfl k) ?_
    refine OD.go (B := (T46.setTop (mkF m 177 #[.val (.int p0), .val (.int p1), .val (.int p2), .val (.int p3), .val (.int u7_2), .val (.int u17_4), .val (.int u27_6), .val (.int u37_8), .val (.ref b9), .val (.ref b14), .val (.int (1 : Int32)), .val (.ref b35), .val (.int u106_45), .val (.int u124_47), .unset] [(.int u124_47), (.int p0)]))) (fun t k => XS.iload X46.here hx rfl (hb hby at_175) rfl k) ?_
    refine OD.go (B := (T46.setTop (mkF m 178 #[.val (.int p0), .val (.int p1), .val (.int p2), .val (.int p3), .val (.int u7_2), .val (.int u17_4), .val (.int u27_6), .val (.int u37_8), .val (.ref b9), .val (.ref b14), .val (.int (1 : Int32)), .val (.ref b35), .val (.int u106_45), .val (.int u124_47), .unset] [(.int (p0 + u124_47))]))) (fun t k => XS.iadd X46.here hx rfl (hb hby at_177) rfl k) ?_
    refine OD.go (B := (T46.setTop (mkF m 180 #[.val (.int p0), .val (.int p1), .val (.int p2), .val (.int p3), .val (.int u7_2), .val (.int u17_4), .val (.int u27_6), .val (.int u37_8), .val (.ref b9), .val (.ref b14), .val (.int (1 : Int32)), .val (.ref b35), .val (.int u106_45), .val (.int u124_47), .val (.int (p0 + u124_47))] []))) (fun t k => XS.istore X46.here hx rfl (hb hby at_178) rfl (l' := #[.val (.int p0), .val (.int p1), .val (.int p2), .val (.int p3), .val (.int u7_2), .val (.int u17_4), .val (.int u27_6), .val (.int u37_8), .val (.ref b9), .val (.ref b14), .val (.int (1 : Int32)), .val (.ref b35), .val (.int u106_45), .val (.int u124_47), .val (.int (p0 + u124_47))]) rfl k) ?_
    generalize hu178_48 : (p0 + u124_47) = u178_48
    refine OD.go (B := (T46.setTop (mkF m 182 #[.val (.int p0), .val (.int p1), .val (.int p2), .val (.int p3), .val (.int u7_2), .val (.int u17_4), .val (.int u27_6), .val (.int u37_8), .val (.ref b9), .val (.ref b14), .val (.int (1 : Int32)), .val (.ref b35), .val (.int u106_45), .val (.int u124_47), .val (.int u178_48)] [(.int u106_45)]))) (fun t k => XS.iload X46.here hx rfl (hb hby at_180) rfl k) ?_
    refine OD.go (B := (T46.setTop (mkF m 184 #[.val (.int p0), .val (.int p1), .val (.int p2), .val (.int p3), .val (.int u7_2), .val (.int u17_4), .val (.int u27_6), .val (.int u37_8), .val (.ref b9), .val (.ref b14), .val (.int (1 : Int32)), .val (.ref b35), .val (.int u106_45), .val (.int u124_47), .val (.int u178_48)] [(.int u178_48), (.int u106_45)]))) (fun t k => XS.iload X46.here hx rfl (hb hby at_182) rfl k) ?_
    obtain ⟨v192_49, hv192_49⟩ : ∃ z : Int32, z = (if u106_45 = u178_48 then (1 : Int32) else (0 : Int32)) := ⟨_, rfl⟩
    refine OD.cut (B := (T46.setTop (mkF m 192 #[.val (.int p0), .val (.int p1), .val (.int p2), .val (.int p3), .val (.int u7_2), .val (.int u17_4), .val (.int u27_6), .val (.int u37_8), .val (.ref b9), .val (.ref b14), .val (.int (1 : Int32)), .val (.ref b35), .val (.int u106_45), .val (.int u124_47), .val (.int u178_48)] [(.int v192_49)]))) (fun J192_50 => ?_) ?_
    · skip
      by_cases c184_51 : u106_45 = u178_48
      · refine OD.go (B := (T46.setTop (mkF m 187 #[.val (.int p0), .val (.int p1), .val (.int p2), .val (.int p3), .val (.int u7_2), .val (.int u17_4), .val (.int u27_6), .val (.int u37_8), .val (.ref b9), .val (.ref b14), .val (.int (1 : Int32)), .val (.ref b35), .val (.int u106_45), .val (.int u124_47), .val (.int u178_48)] []))) (fun t k => XS.icmpNo X46.here hx rfl (hb hby at_184) rfl (teq c184_51).2 k) ?_
        refine OD.go (B := (T46.setTop (mkF m 188 #[.val (.int p0), .val (.int p1), .val (.int p2), .val (.int p3), .val (.int u7_2), .val (.int u17_4), .val (.int u27_6), .val (.int u37_8), .val (.ref b9), .val (.ref b14), .val (.int (1 : Int32)), .val (.ref b35), .val (.int u106_45), .val (.int u124_47), .val (.int u178_48)] [(.int (1 : Int32))]))) (fun t k => XS.iconst X46.here hx rfl (hb hby at_187) k) ?_
        refine OD.go (B := (T46.setTop (mkF m 192 #[.val (.int p0), .val (.int p1), .val (.int p2), .val (.int p3), .val (.int u7_2), .val (.int u17_4), .val (.int u27_6), .val (.int u37_8), .val (.ref b9), .val (.ref b14), .val (.int (1 : Int32)), .val (.ref b35), .val (.int u106_45), .val (.int u124_47), .val (.int u178_48)] [(.int (1 : Int32))]))) (fun t k => XS.goto X46.here hx rfl (pc0 := 188) (pc' := 192) rfl (hb hby at_188) (by decide) (by decide) k) ?_
        rw [if_pos c184_51] at hv192_49
        rw [hv192_49] at J192_50
        exact J192_50
      · refine OD.go (B := (T46.setTop (mkF m 191 #[.val (.int p0), .val (.int p1), .val (.int p2), .val (.int p3), .val (.int u7_2), .val (.int u17_4), .val (.int u27_6), .val (.int u37_8), .val (.ref b9), .val (.ref b14), .val (.int (1 : Int32)), .val (.ref b35), .val (.int u106_45), .val (.int u124_47), .val (.int u178_48)] []))) (fun t k => XS.icmpYes X46.here hx rfl (pc0 := 184) (pc' := 191) rfl (hb hby at_184) rfl (feq c184_51).2 (by decide) (by decide) k) ?_
        refine OD.go (B := (T46.setTop (mkF m 192 #[.val (.int p0), .val (.int p1), .val (.int p2), .val (.int p3), .val (.int u7_2), .val (.int u17_4), .val (.int u27_6), .val (.int u37_8), .val (.ref b9), .val (.ref b14), .val (.int (1 : Int32)), .val (.ref b35), .val (.int u106_45), .val (.int u124_47), .val (.int u178_48)] [(.int (0 : Int32))]))) (fun t k => XS.iconst X46.here hx rfl (hb hby at_191) k) ?_
        rw [if_neg c184_51] at hv192_49
        rw [hv192_49] at J192_50
        exact J192_50
    have fin : v192_49 = 1 := by
      subst hu106_45
      subst hu124_47
      subst hu178_48
      rw [hv192_49, if_pos]
      simp only [own_stnl, Int32.add_assoc, Int32.zero_add, Int32.add_zero]
    rw [fin]
    exact OD.ret X46 hx hlk (t := .boolean) Bd.returns rfl (Or.inl ⟨rfl, Or.inr (Or.inl rfl), _, rfl⟩) (hb hby at_192) (Nat.le_of_ble_eq_true rfl) (Nat.le_of_ble_eq_true rfl) ⟨rfl, N46⟩
  · show OD _ _ _ _ _ _ _ (T19.setTop (mkF m 87 #[.val (.int p0), .val (.int p1), .val (.int p2), .val (.int p3), .val (.int u7_2), .val (.int u17_4), .val (.int u27_6), .val (.int u37_8), .val (.ref b9), .val (.ref b14), .val (.int (2 : Int32)), .unset, .unset, .unset, .unset] []))
    obtain ⟨T52, h52, X52, e52, E52, A52, D52, -, st52⟩ := newO X19 hx hZ hown (Wd35 hw) (Wd36 hw) (Wd37 hw) rfl (g := (mkF m 87 #[.val (.int p0), .val (.int p1), .val (.int p2), .val (.int p3), .val (.int u7_2), .val (.int u17_4), .val (.int u27_6), .val (.int u37_8), .val (.ref b9), .val (.ref b14), .val (.int (2 : Int32)), .unset, .unset, .unset, .unset] [])) rfl (hb hby at_87) (Nat.le_of_ble_eq_true rfl) (Nat.le_of_ble_eq_true rfl)
    obtain ⟨b52, g52⟩ : ∃ z, z = T19.heap.size := ⟨_, rfl⟩
    rw [← g52] at A52 D52 st52
    have Fn53 : Fld Z h52 b52 "com/example/querent/querent/trec/ElementReader$Element" "body" "Ljava/lang/String;" .null := D52 (Or.inr (Wd48 hw)) (ty := (.object "java/lang/String")) (by decide)
    have Fn54 : Fld Z h52 b52 "com/example/querent/querent/trec/ElementReader$Element" "line" "I" (.int (0 : Int32)) := D52 (Or.inr (Wd50 hw)) (ty := .int) (by decide)
    refine OD.go (B := (T52.setTop (mkF m 90 #[.val (.int p0), .val (.int p1), .val (.int p2), .val (.int p3), .val (.int u7_2), .val (.int u17_4), .val (.int u27_6), .val (.int u37_8), .val (.ref b9), .val (.ref b14), .val (.int (2 : Int32)), .unset, .unset, .unset, .unset] [(.ref b52)]))) st52 ?_
    refine OD.go (B := (T52.setTop (mkF m 91 #[.val (.int p0), .val (.int p1), .val (.int p2), .val (.int p3), .val (.int u7_2), .val (.int u17_4), .val (.int u27_6), .val (.int u37_8), .val (.ref b9), .val (.ref b14), .val (.int (2 : Int32)), .unset, .unset, .unset, .unset] [(.ref b52), (.ref b52)]))) (fun t k => XS.dup X52.here hx rfl (hb hby at_90) rfl rfl k) ?_
    refine OD.go (B := (T52.setTop (mkF m 93 #[.val (.int p0), .val (.int p1), .val (.int p2), .val (.int p3), .val (.int u7_2), .val (.int u17_4), .val (.int u27_6), .val (.int u37_8), .val (.ref b9), .val (.ref b14), .val (.int (2 : Int32)), .unset, .unset, .unset, .unset] [(.ref b14), (.ref b52), (.ref b52)]))) (fun t k => XS.aload X52.here hx rfl (hb hby at_91) rfl rfl k) ?_
    refine OD.go (B := (T52.setTop (mkF m 94 #[.val (.int p0), .val (.int p1), .val (.int p2), .val (.int p3), .val (.int u7_2), .val (.int u17_4), .val (.int u27_6), .val (.int u37_8), .val (.ref b9), .val (.ref b14), .val (.int (2 : Int32)), .unset, .unset, .unset, .unset] [(.int p0), (.ref b14), (.ref b52), (.ref b52)]))) (fun t k => XS.iloadN X52.here hx rfl (hb hby at_93) rfl k) ?_
    obtain ⟨_, _, ⟨T55, L55, k55, n55⟩, -, X55, ⟨Lc55, hQ55, l55, y55, z55⟩, st55⟩ := X52.specialBack hx (y := (⟨"com/example/querent/querent/trec/ElementReader$Element", "<init>", "(Ljava/lang/String;I)V"⟩ : MethodName)) rfl hown (mvT hZ (Wd38 hw)) (mvT hZ (Wd39 hw)) (mvT hZ (Wd40 hw)) (by decide) (backOf (W := 1) (rmE l Z a0 hw [] b52 b14 p0 h52 h0.size (Nat.le_trans (Nat.le_trans (Nat.le_trans (Nat.le_trans (Nat.le_trans (Nat.le_trans (Nat.le_trans (Nat.le_trans (Nat.le_refl _) E9.1) (Keep.of_wr W10).1) (Keep.of_wr W11).1) (Keep.of_wr W12).1) (Keep.of_wr W13).1) E14.1) K19.1) E52.1) A52 Fn53 Fn54 (Nat.le_trans (Nat.le_trans (Nat.le_trans (Nat.le_trans (Nat.le_trans (Nat.le_trans (Nat.le_trans (Nat.le_trans (Nat.le_refl _) E9.1) (Keep.of_wr W10).1) (Keep.of_wr W11).1) (Keep.of_wr W12).1) (Keep.of_wr W13).1) E14.1) K19.1) (Nat.le_of_eq g52.symm))) hZ (Wd40 hw) (Wd37 hw) (by decide) (by decide)) (g := (mkF m 94 #[.val (.int p0), .val (.int p1), .val (.int p2), .val (.int p3), .val (.int u7_2), .val (.int u17_4), .val (.int u27_6), .val (.int u37_8), .val (.ref b9), .val (.ref b14), .val (.int (2 : Int32)), .unset, .unset, .unset, .unset] [(.int p0), (.ref b14), (.ref b52), (.ref b52)])) rfl (by rw [hml]; rfl) (Steps.refl _) (a := b52) (argsL := [(.ref b14), (.int p0)]) (rest := [(.ref b52)]) (lenOf pd4 rfl) rfl (by show 2 * 0 + _ ≤ _; exact Nat.le_of_eq rfl) (hb hby at_94) (fun _ _ => ⟨rfl, e52, (Nat.le_of_ble_eq_true rfl), (Nat.le_of_ble_eq_true rfl)⟩)
    dsimp only [Pt.U, Pt.locs, Pt.cells, Pt.slots] at X55 l55 y55 z55 st55 hQ55
    subst l55 y55 z55
    obtain ⟨rfl, Nq55, K55, G1_55, G2_55⟩ := hQ55
    have N55 := Fr.app N19 Nq55
    refine OD.via (B := (T55.setTop (mkF m 97 #[.val (.int p0), .val (.int p1), .val (.int p2), .val (.int p3), .val (.int u7_2), .val (.int u17_4), .val (.int u27_6), .val (.int u37_8), .val (.ref b9), .val (.ref b14), .val (.int (2 : Int32)), .unset, .unset, .unset, .unset] [(.ref b52)]))) st55 ?_
    refine OD.go (B := (T55.setTop (mkF m 99 #[.val (.int p0), .val (.int p1), .val (.int p2), .val (.int p3), .val (.int u7_2), .val (.int u17_4), .val (.int u27_6), .val (.int u37_8), .val (.ref b9), .val (.ref b14), .val (.int (2 : Int32)), .val (.ref b52), .unset, .unset, .unset] []))) (fun t k => XS.astore X55.here hx rfl (hb hby at_97) rfl rfl (l' := #[.val (.int p0), .val (.int p1), .val (.int p2), .val (.int p3), .val (.int u7_2), .val (.int u17_4), .val (.int u27_6), .val (.int u37_8), .val (.ref b9), .val (.ref b14), .val (.int (2 : Int32)), .val (.ref b52), .unset, .unset, .unset]) rfl k) ?_
    refine OD.go (B := (T55.setTop (mkF m 101 #[.val (.int p0), .val (.int p1), .val (.int p2), .val (.int p3), .val (.int u7_2), .val (.int u17_4), .val (.int u27_6), .val (.int u37_8), .val (.ref b9), .val (.ref b14), .val (.int (2 : Int32)), .val (.ref b52), .unset, .unset, .unset] [(.ref b52)]))) (fun t k => XS.aload X55.here hx rfl (hb hby at_99) rfl rfl k) ?_
    refine OD.go (B := (T55.setTop (mkF m 103 #[.val (.int p0), .val (.int p1), .val (.int p2), .val (.int p3), .val (.int u7_2), .val (.int u17_4), .val (.int u27_6), .val (.int u37_8), .val (.ref b9), .val (.ref b14), .val (.int (2 : Int32)), .val (.ref b52), .unset, .unset, .unset] [(.int (2 : Int32)), (.ref b52)]))) (fun t k => XS.iload X55.here hx rfl (hb hby at_101) rfl k) ?_
    have f56 := (A52.keep K55)
    have f57 := ((E19.ext E52).keep K55)
    have f58 := ((V19.ext E52).keep K55 (ninS (Nat.ne_of_lt (Nat.lt_of_lt_of_le (Nat.lt_of_lt_of_le A14.lt K19.1) (Nat.le_of_eq g52.symm))) nin0))
    have f59 := ((C19.ext E52).keep K55 (ninS (Nat.ne_of_lt (Nat.lt_of_lt_of_le (Nat.lt_of_lt_of_le A14.lt K19.1) (Nat.le_of_eq g52.symm))) nin0))
    have f60 := ((A19.ext E52).keep K55 (ninS (Nat.ne_of_lt (Nat.lt_of_lt_of_le A19.lt (Nat.le_of_eq g52.symm))) nin0))
    obtain ⟨cq61, kq61, qa61, qb61, qc61⟩ := isOf hZ rfl f56
    obtain ⟨_, _, ⟨T61, L61, k61, n61⟩, -, X61, ⟨Lc61, hQ61, l61, y61, z61⟩, st61⟩ := X55.virtualBack hx (y := (⟨"com/example/querent/querent/trec/ElementReader$Element", "lineAt", "(I)I"⟩ : MethodName)) (z := (⟨"com/example/querent/querent/trec/ElementReader$Element", "lineAt", "(I)I"⟩ : MethodName)) hown (mvT hZ (Wd51 hw)) (mvT hZ (Wd52 hw)) (notFace_of_selects (args := #[]) (mvT hZ (Wd54 hw))) (mvT hZ (Wd54 hw)) (mvT hZ (Wd53 hw)) (by decide) (backOf (W := 0) (rmL2 l Z a0 hw [] b52 T55.heap h0.size (((((((((X00.ext E9).wr W10 (Nat.le_trans (Nat.le_refl _) (Nat.le_of_eq g9.symm))).wr W11 (Nat.le_trans (Nat.le_refl _) (Nat.le_of_eq g9.symm))).wr W12 (Nat.le_trans (Nat.le_refl _) (Nat.le_of_eq g9.symm))).wr W13 (Nat.le_trans (Nat.le_refl _) (Nat.le_of_eq g9.symm))).ext E14).keep K19 (allS (Nat.le_trans (Nat.le_trans (Nat.le_trans (Nat.le_trans (Nat.le_trans (Nat.le_trans (Nat.le_refl _) E9.1) (Keep.of_wr W10).1) (Keep.of_wr W11).1) (Keep.of_wr W12).1) (Keep.of_wr W13).1) (Nat.le_of_eq g14.symm)) all0)).ext E52).keep K55 (allS (Nat.le_trans (Nat.le_trans (Nat.le_trans (Nat.le_trans (Nat.le_trans (Nat.le_trans (Nat.le_trans (Nat.le_trans (Nat.le_refl _) E9.1) (Keep.of_wr W10).1) (Keep.of_wr W11).1) (Keep.of_wr W12).1) (Keep.of_wr W13).1) E14.1) K19.1) (Nat.le_of_eq g52.symm)) all0)) p0 b14 t19 kb19 u7_2 u17_4 u27_6 u37_8 f56 G1_55 G2_55 f57 f58 f59 f60 hp zc O2 P5 fm O4 rG) hZ (Wd55 hw) (Wd37 hw) (by decide) (by decide)) qa61 qc61 (g := (mkF m 103 #[.val (.int p0), .val (.int p1), .val (.int p2), .val (.int p3), .val (.int u7_2), .val (.int u17_4), .val (.int u27_6), .val (.int u37_8), .val (.ref b9), .val (.ref b14), .val (.int (2 : Int32)), .val (.ref b52), .unset, .unset, .unset] [(.int (2 : Int32)), (.ref b52)])) rfl (by rw [hml]; rfl) (Steps.refl _) (argsL := [(.int (2 : Int32))]) (rest := []) (lenOf pd5 rfl) rfl (by show 2 * 0 + _ ≤ _; exact Nat.le_of_eq rfl) (hb hby at_103) (fun _ _ => ⟨rfl, rfl, (Nat.le_of_ble_eq_true rfl), (Nat.le_of_ble_eq_true rfl)⟩)
    dsimp only [Pt.U, Pt.locs, Pt.cells, Pt.slots] at X61 l61 y61 z61 st61 hQ61
    subst l61 y61 z61
    obtain ⟨rfl, rfl, e61⟩ := hQ61
    have N61 := Fr.app N55 (Fr.nil _)
    refine OD.via (B := (T61.setTop (mkF m 106 #[.val (.int p0), .val (.int p1), .val (.int p2), .val (.int p3), .val (.int u7_2), .val (.int u17_4), .val (.int u27_6), .val (.int u37_8), .val (.ref b9), .val (.ref b14), .val (.int (2 : Int32)), .val (.ref b52), .unset, .unset, .unset] [(.int (own_st (own_st p0 u7_2) u17_4))]))) st61 ?_
    refine OD.go (B := (T61.setTop (mkF m 108 #[.val (.int p0), .val (.int p1), .val (.int p2), .val (.int p3), .val (.int u7_2), .val (.int u17_4), .val (.int u27_6), .val (.int u37_8), .val (.ref b9), .val (.ref b14), .val (.int (2 : Int32)), .val (.ref b52), .val (.int (own_st (own_st p0 u7_2) u17_4)), .unset, .unset] []))) (fun t k => XS.istore X61.here hx rfl (hb hby at_106) rfl (l' := #[.val (.int p0), .val (.int p1), .val (.int p2), .val (.int p3), .val (.int u7_2), .val (.int u17_4), .val (.int u27_6), .val (.int u37_8), .val (.ref b9), .val (.ref b14), .val (.int (2 : Int32)), .val (.ref b52), .val (.int (own_st (own_st p0 u7_2) u17_4)), .unset, .unset]) rfl k) ?_
    generalize hu106_62 : (own_st (own_st p0 u7_2) u17_4) = u106_62
    refine OD.go (B := (T61.setTop (mkF m 109 #[.val (.int p0), .val (.int p1), .val (.int p2), .val (.int p3), .val (.int u7_2), .val (.int u17_4), .val (.int u27_6), .val (.int u37_8), .val (.ref b9), .val (.ref b14), .val (.int (2 : Int32)), .val (.ref b52), .val (.int u106_62), .unset, .unset] [(.int (0 : Int32))]))) (fun t k => XS.iconst X61.here hx rfl (hb hby at_108) k) ?_
    refine OD.go (B := (T61.setTop (mkF m 111 #[.val (.int p0), .val (.int p1), .val (.int p2), .val (.int p3), .val (.int u7_2), .val (.int u17_4), .val (.int u27_6), .val (.int u37_8), .val (.ref b9), .val (.ref b14), .val (.int (2 : Int32)), .val (.ref b52), .val (.int u106_62), .val (.int (0 : Int32)), .unset] []))) (fun t k => XS.istore X61.here hx rfl (hb hby at_109) rfl (l' := #[.val (.int p0), .val (.int p1), .val (.int p2), .val (.int p3), .val (.int u7_2), .val (.int u17_4), .val (.int u27_6), .val (.int u37_8), .val (.ref b9), .val (.ref b14), .val (.int (2 : Int32)), .val (.ref b52), .val (.int u106_62), .val (.int (0 : Int32)), .unset]) rfl k) ?_
    refine OD.go (B := (T61.setTop (mkF m 113 #[.val (.int p0), .val (.int p1), .val (.int p2), .val (.int p3), .val (.int u7_2), .val (.int u17_4), .val (.int u27_6), .val (.int u37_8), .val (.ref b9), .val (.ref b14), .val (.int (2 : Int32)), .val (.ref b52), .val (.int u106_62), .val (.int (0 : Int32)), .unset] [(.int (2 : Int32))]))) (fun t k => XS.iload X61.here hx rfl (hb hby at_111) rfl k) ?_
    refine OD.go (B := (T61.setTop (mkF m 116 #[.val (.int p0), .val (.int p1), .val (.int p2), .val (.int p3), .val (.int u7_2), .val (.int u17_4), .val (.int u27_6), .val (.int u37_8), .val (.ref b9), .val (.ref b14), .val (.int (2 : Int32)), .val (.ref b52), .val (.int u106_62), .val (.int (0 : Int32)), .unset] []))) (fun t k => XS.ifNo X61.here hx rfl (hb hby at_113) rfl (by rw [if0]; exact (tlt (by decide : (0 : Int32) < (2 : Int32))).2.2.2) k) ?_
    refine OD.go (B := (T61.setTop (mkF m 118 #[.val (.int p0), .val (.int p1), .val (.int p2), .val (.int p3), .val (.int u7_2), .val (.int u17_4), .val (.int u27_6), .val (.int u37_8), .val (.ref b9), .val (.ref b14), .val (.int (2 : Int32)), .val (.ref b52), .val (.int u106_62), .val (.int (0 : Int32)), .unset] [(.int (0 : Int32))]))) (fun t k => XS.iload X61.here hx rfl (hb hby at_116) rfl k) ?_
    refine OD.go (B := (T61.setTop (mkF m 120 #[.val (.int p0), .val (.int p1), .val (.int p2), .val (.int p3), .val (.int u7_2), .val (.int u17_4), .val (.int u27_6), .val (.int u37_8), .val (.ref b9), .val (.ref b14), .val (.int (2 : Int32)), .val (.ref b52), .val (.int u106_62), .val (.int (0 : Int32)), .unset] [(.int u7_2), (.int (0 : Int32))]))) (fun t k => XS.iload X61.here hx rfl (hb hby at_118) rfl k) ?_
    obtain ⟨_, _, ⟨T63, L63, k63, n63⟩, -, X63, ⟨Lc63, hQ63, l63, y63, z63⟩, st63⟩ := Jvm.LawKit.callS X61 hx (y := (⟨"com/example/querent/querent/trec/ElementLineAtPinLaw", "nl", "(C)I"⟩ : MethodName)) hown (mvT hZ (Wd78 hw)) (mvT hZ (Wd79 hw)) (mvT hZ (Wd2 hw)) (mvT hZ (Wd80 hw)) (by decide) (backOf (W := 1) (rmN l Z a0 hw [] u7_2 T55.heap) hZ (Wd80 hw) (Wd2 hw) (by decide) (by decide)) (g := (mkF m 120 #[.val (.int p0), .val (.int p1), .val (.int p2), .val (.int p3), .val (.int u7_2), .val (.int u17_4), .val (.int u27_6), .val (.int u37_8), .val (.ref b9), .val (.ref b14), .val (.int (2 : Int32)), .val (.ref b52), .val (.int u106_62), .val (.int (0 : Int32)), .unset] [(.int u7_2), (.int (0 : Int32))])) rfl (by rw [hml]; rfl) (argsL := [(.int u7_2)]) (rest := [(.int (0 : Int32))]) (lenOf pd6 rfl) rfl (by show 2 * 0 + _ ≤ _; exact Nat.le_of_eq rfl) (hb hby at_120) (fun _ _ => ⟨rfl, e61, (Nat.le_of_ble_eq_true rfl), (Nat.le_of_ble_eq_true rfl)⟩)
    dsimp only [Pt.U, Pt.locs, Pt.cells, Pt.slots] at X63 l63 y63 z63 st63 hQ63
    subst l63 y63 z63
    obtain ⟨rfl, rfl, e63⟩ := hQ63
    have N63 := Fr.app N61 (Fr.nil _)
    refine OD.go (B := (T63.setTop (mkF m 123 #[.val (.int p0), .val (.int p1), .val (.int p2), .val (.int p3), .val (.int u7_2), .val (.int u17_4), .val (.int u27_6), .val (.int u37_8), .val (.ref b9), .val (.ref b14), .val (.int (2 : Int32)), .val (.ref b52), .val (.int u106_62), .val (.int (0 : Int32)), .unset] [(.int (own_nl u7_2)), (.int (0 : Int32))]))) st63 ?_
    refine OD.go (B := (T63.setTop (mkF m 124 #[.val (.int p0), .val (.int p1), .val (.int p2), .val (.int p3), .val (.int u7_2), .val (.int u17_4), .val (.int u27_6), .val (.int u37_8), .val (.ref b9), .val (.ref b14), .val (.int (2 : Int32)), .val (.ref b52), .val (.int u106_62), .val (.int (0 : Int32)), .unset] [(.int ((0 : Int32) + (own_nl u7_2)))]))) (fun t k => XS.iadd X63.here hx rfl (hb hby at_123) rfl k) ?_
    refine OD.go (B := (T63.setTop (mkF m 126 #[.val (.int p0), .val (.int p1), .val (.int p2), .val (.int p3), .val (.int u7_2), .val (.int u17_4), .val (.int u27_6), .val (.int u37_8), .val (.ref b9), .val (.ref b14), .val (.int (2 : Int32)), .val (.ref b52), .val (.int u106_62), .val (.int ((0 : Int32) + (own_nl u7_2))), .unset] []))) (fun t k => XS.istore X63.here hx rfl (hb hby at_124) rfl (l' := #[.val (.int p0), .val (.int p1), .val (.int p2), .val (.int p3), .val (.int u7_2), .val (.int u17_4), .val (.int u27_6), .val (.int u37_8), .val (.ref b9), .val (.ref b14), .val (.int (2 : Int32)), .val (.ref b52), .val (.int u106_62), .val (.int ((0 : Int32) + (own_nl u7_2))), .unset]) rfl k) ?_
    generalize hu124_64 : ((0 : Int32) + (own_nl u7_2)) = u124_64
    refine OD.go (B := (T63.setTop (mkF m 128 #[.val (.int p0), .val (.int p1), .val (.int p2), .val (.int p3), .val (.int u7_2), .val (.int u17_4), .val (.int u27_6), .val (.int u37_8), .val (.ref b9), .val (.ref b14), .val (.int (2 : Int32)), .val (.ref b52), .val (.int u106_62), .val (.int u124_64), .unset] [(.int (2 : Int32))]))) (fun t k => XS.iload X63.here hx rfl (hb hby at_126) rfl k) ?_
    refine OD.go (B := (T63.setTop (mkF m 129 #[.val (.int p0), .val (.int p1), .val (.int p2), .val (.int p3), .val (.int u7_2), .val (.int u17_4), .val (.int u27_6), .val (.int u37_8), .val (.ref b9), .val (.ref b14), .val (.int (2 : Int32)), .val (.ref b52), .val (.int u106_62), .val (.int u124_64), .unset] [(.int (1 : Int32)), (.int (2 : Int32))]))) (fun t k => XS.iconst X63.here hx rfl (hb hby at_128) k) ?_
    refine OD.go (B := (T63.setTop (mkF m 132 #[.val (.int p0), .val (.int p1), .val (.int p2), .val (.int p3), .val (.int u7_2), .val (.int u17_4), .val (.int u27_6), .val (.int u37_8), .val (.ref b9), .val (.ref b14), .val (.int (2 : Int32)), .val (.ref b52), .val (.int u106_62), .val (.int u124_64), .unset] []))) (fun t k => XS.icmpNo X63.here hx rfl (hb hby at_129) rfl (tlt (by decide : (1 : Int32) < (2 : Int32))).2.2.2 k) ?_
    refine OD.go (B := (T63.setTop (mkF m 134 #[.val (.int p0), .val (.int p1), .val (.int p2), .val (.int p3), .val (.int u7_2), .val (.int u17_4), .val (.int u27_6), .val (.int u37_8), .val (.ref b9), .val (.ref b14), .val (.int (2 : Int32)), .val (.ref b52), .val (.int u106_62), .val (.int u124_64), .unset] [(.int u124_64)]))) (fun t k => XS.iload X63.here hx rfl (hb hby at_132) rfl k) ?_
    refine OD.go (B := (T63.setTop (mkF m 136 #[.val (.int p0), .val (.int p1), .val (.int p2), .val (.int p3), .val (.int u7_2), .val (.int u17_4), .val (.int u27_6), .val (.int u37_8), .val (.ref b9), .val (.ref b14), .val (.int (2 : Int32)), .val (.ref b52), .val (.int u106_62), .val (.int u124_64), .unset] [(.int u17_4), (.int u124_64)]))) (fun t k => XS.iload X63.here hx rfl (hb hby at_134) rfl k) ?_
    obtain ⟨_, _, ⟨T65, L65, k65, n65⟩, -, X65, ⟨Lc65, hQ65, l65, y65, z65⟩, st65⟩ := Jvm.LawKit.callS X63 hx (y := (⟨"com/example/querent/querent/trec/ElementLineAtPinLaw", "nl", "(C)I"⟩ : MethodName)) hown (mvT hZ (Wd78 hw)) (mvT hZ (Wd79 hw)) (mvT hZ (Wd2 hw)) (mvT hZ (Wd80 hw)) (by decide) (backOf (W := 1) (rmN l Z a0 hw [] u17_4 T55.heap) hZ (Wd80 hw) (Wd2 hw) (by decide) (by decide)) (g := (mkF m 136 #[.val (.int p0), .val (.int p1), .val (.int p2), .val (.int p3), .val (.int u7_2), .val (.int u17_4), .val (.int u27_6), .val (.int u37_8), .val (.ref b9), .val (.ref b14), .val (.int (2 : Int32)), .val (.ref b52), .val (.int u106_62), .val (.int u124_64), .unset] [(.int u17_4), (.int u124_64)])) rfl (by rw [hml]; rfl) (argsL := [(.int u17_4)]) (rest := [(.int u124_64)]) (lenOf pd6 rfl) rfl (by show 2 * 0 + _ ≤ _; exact Nat.le_of_eq rfl) (hb hby at_136) (fun _ _ => ⟨rfl, e63, (Nat.le_of_ble_eq_true rfl), (Nat.le_of_ble_eq_true rfl)⟩)
    dsimp only [Pt.U, Pt.locs, Pt.cells, Pt.slots] at X65 l65 y65 z65 st65 hQ65
    subst l65 y65 z65
    obtain ⟨rfl, rfl, e65⟩ := hQ65
    have N65 := Fr.app N63 (Fr.nil _)
    refine OD.go (B := (T65.setTop (mkF m 139 #[.val (.int p0), .val (.int p1), .val (.int p2), .val (.int p3), .val (.int u7_2), .val (.int u17_4), .val (.int u27_6), .val (.int u37_8), .val (.ref b9), .val (.ref b14), .val (.int (2 : Int32)), .val (.ref b52), .val (.int u106_62), .val (.int u124_64), .unset] [(.int (own_nl u17_4)), (.int u124_64)]))) st65 ?_
    refine OD.go (B := (T65.setTop (mkF m 140 #[.val (.int p0), .val (.int p1), .val (.int p2), .val (.int p3), .val (.int u7_2), .val (.int u17_4), .val (.int u27_6), .val (.int u37_8), .val (.ref b9), .val (.ref b14), .val (.int (2 : Int32)), .val (.ref b52), .val (.int u106_62), .val (.int u124_64), .unset] [(.int (u124_64 + (own_nl u17_4)))]))) (fun t k => XS.iadd X65.here hx rfl (hb hby at_139) rfl k) ?_
    refine OD.go (B := (T65.setTop (mkF m 142 #[.val (.int p0), .val (.int p1), .val (.int p2), .val (.int p3), .val (.int u7_2), .val (.int u17_4), .val (.int u27_6), .val (.int u37_8), .val (.ref b9), .val (.ref b14), .val (.int (2 : Int32)), .val (.ref b52), .val (.int u106_62), .val (.int (u124_64 + (own_nl u17_4))), .unset] []))) (fun t k => XS.istore X65.here hx rfl (hb hby at_140) rfl (l' := #[.val (.int p0), .val (.int p1), .val (.int p2), .val (.int p3), .val (.int u7_2), .val (.int u17_4), .val (.int u27_6), .val (.int u37_8), .val (.ref b9), .val (.ref b14), .val (.int (2 : Int32)), .val (.ref b52), .val (.int u106_62), .val (.int (u124_64 + (own_nl u17_4))), .unset]) rfl k) ?_
    generalize hu140_66 : (u124_64 + (own_nl u17_4)) = u140_66
    refine OD.go (B := (T65.setTop (mkF m 144 #[.val (.int p0), .val (.int p1), .val (.int p2), .val (.int p3), .val (.int u7_2), .val (.int u17_4), .val (.int u27_6), .val (.int u37_8), .val (.ref b9), .val (.ref b14), .val (.int (2 : Int32)), .val (.ref b52), .val (.int u106_62), .val (.int u140_66), .unset] [(.int (2 : Int32))]))) (fun t k => XS.iload X65.here hx rfl (hb hby at_142) rfl k) ?_
    refine OD.go (B := (T65.setTop (mkF m 145 #[.val (.int p0), .val (.int p1), .val (.int p2), .val (.int p3), .val (.int u7_2), .val (.int u17_4), .val (.int u27_6), .val (.int u37_8), .val (.ref b9), .val (.ref b14), .val (.int (2 : Int32)), .val (.ref b52), .val (.int u106_62), .val (.int u140_66), .unset] [(.int (2 : Int32)), (.int (2 : Int32))]))) (fun t k => XS.iconst X65.here hx rfl (hb hby at_144) k) ?_
    refine OD.go (B := (T65.setTop (mkF m 158 #[.val (.int p0), .val (.int p1), .val (.int p2), .val (.int p3), .val (.int u7_2), .val (.int u17_4), .val (.int u27_6), .val (.int u37_8), .val (.ref b9), .val (.ref b14), .val (.int (2 : Int32)), .val (.ref b52), .val (.int u106_62), .val (.int u140_66), .unset] []))) (fun t k => XS.icmpYes X65.here hx rfl (pc0 := 145) (pc' := 158) rfl (hb hby at_145) rfl (flt (by decide : ¬ (2 : Int32) < (2 : Int32))).2.2.2 (by decide) (by decide) k) ?_
    refine OD.go (B := (T65.setTop (mkF m 160 #[.val (.int p0), .val (.int p1), .val (.int p2), .val (.int p3), .val (.int u7_2), .val (.int u17_4), .val (.int u27_6), .val (.int u37_8), .val (.ref b9), .val (.ref b14), .val (.int (2 : Int32)), .val (.ref b52), .val (.int u106_62), .val (.int u140_66), .unset] [(.int (2 : Int32))]))) (fun t k => XS.iload X65.here hx rfl (hb hby at_158) rfl k) ?_
    refine OD.go (B := (T65.setTop (mkF m 161 #[.val (.int p0), .val (.int p1), .val (.int p2), .val (.int p3), .val (.int u7_2), .val (.int u17_4), .val (.int u27_6), .val (.int u37_8), .val (.ref b9), .val (.ref b14), .val (.int (2 : Int32)), .val (.ref b52), .val (.int u106_62), .val (.int u140_66), .unset] [(.int (3 : Int32)), (.int (2 : Int32))]))) (fun t k => XS.iconst X65.here hx rfl (hb hby at_160) k) ?_
    refine OD.go (B := (T65.setTop (mkF m 174 #[.val (.int p0), .val (.int p1), .val (.int p2), .val (.int p3), .val (.int u7_2), .val (.int u17_4), .val (.int u27_6), .val (.int u37_8), .val (.ref b9), .val (.ref b14), .val (.int (2 : Int32)), .val (.ref b52), .val (.int u106_62), .val (.int u140_66), .unset] []))) (fun t k => XS.icmpYes X65.here hx rfl (pc0 := 161) (pc' := 174) rfl (hb hby at_161) rfl (flt (by decide : ¬ (3 : Int32) < (2 : Int32))).2.2.2 (by decide) (by decide) k) ?_
    refine OD.go (B := (T65.setTop (mkF m 175 #[.val (.int p0), .val (.int p1), .val (.int p2), .val (.int p3), .val (.int u7_2), .val (.int u17_4), .val (.int u27_6), .val (.int u37_8), .val (.ref b9), .val (.ref b14), .val (.int (2 : Int32)), .val (.ref b52), .val (.int u106_62), .val (.int u140_66), .unset] [(.int p0)]))) (fun t k => XS.iloadN X65.here hx rfl (hb hby at_174) rfl k) ?_
    refine OD.go (B := (T65.setTop (mkF m 177 #[.val (.int p0), .val (.int p1), .val (.int p2), .val (.int p3), .val (.int u7_2), .val (.int u17_4), .val (.int u27_6), .val (.int u37_8), .val (.ref b9), .val (.ref b14), .val (.int (2 : Int32)), .val (.ref b52), .val (.int u106_62), .val (.int u140_66), .unset] [(.int u140_66), (.int p0)]))) (fun t k => XS.iload X65.here hx rfl (hb hby at_175) rfl k) ?_
    refine OD.go (B := (T65.setTop (mkF m 178 #[.val (.int p0), .val (.int p1), .val (.int p2), .val (.int p3), .val (.int u7_2), .val (.int u17_4), .val (.int u27_6), .val (.int u37_8), .val (.ref b9), .val (.ref b14), .val (.int (2 : Int32)), .val (.ref b52), .val (.int u106_62), .val (.int u140_66), .unset] [(.int (p0 + u140_66))]))) (fun t k => XS.iadd X65.here hx rfl (hb hby at_177) rfl k) ?_
    refine OD.go (B := (T65.setTop (mkF m 180 #[.val (.int p0), .val (.int p1), .val (.int p2), .val (.int p3), .val (.int u7_2), .val (.int u17_4), .val (.int u27_6), .val (.int u37_8), .val (.ref b9), .val (.ref b14), .val (.int (2 : Int32)), .val (.ref b52), .val (.int u106_62), .val (.int u140_66), .val (.int (p0 + u140_66))] []))) (fun t k => XS.istore X65.here hx rfl (hb hby at_178) rfl (l' := #[.val (.int p0), .val (.int p1), .val (.int p2), .val (.int p3), .val (.int u7_2), .val (.int u17_4), .val (.int u27_6), .val (.int u37_8), .val (.ref b9), .val (.ref b14), .val (.int (2 : Int32)), .val (.ref b52), .val (.int u106_62), .val (.int u140_66), .val (.int (p0 + u140_66))]) rfl k) ?_
    generalize hu178_67 : (p0 + u140_66) = u178_67
    refine OD.go (B := (T65.setTop (mkF m 182 #[.val (.int p0), .val (.int p1), .val (.int p2), .val (.int p3), .val (.int u7_2), .val (.int u17_4), .val (.int u27_6), .val (.int u37_8), .val (.ref b9), .val (.ref b14), .val (.int (2 : Int32)), .val (.ref b52), .val (.int u106_62), .val (.int u140_66), .val (.int u178_67)] [(.int u106_62)]))) (fun t k => XS.iload X65.here hx rfl (hb hby at_180) rfl k) ?_
    refine OD.go (B := (T65.setTop (mkF m 184 #[.val (.int p0), .val (.int p1), .val (.int p2), .val (.int p3), .val (.int u7_2), .val (.int u17_4), .val (.int u27_6), .val (.int u37_8), .val (.ref b9), .val (.ref b14), .val (.int (2 : Int32)), .val (.ref b52), .val (.int u106_62), .val (.int u140_66), .val (.int u178_67)] [(.int u178_67), (.int u106_62)]))) (fun t k => XS.iload X65.here hx rfl (hb hby at_182) rfl k) ?_
    obtain ⟨v192_68, hv192_68⟩ : ∃ z : Int32, z = (if u106_62 = u178_67 then (1 : Int32) else (0 : Int32)) := ⟨_, rfl⟩
    refine OD.cut (B := (T65.setTop (mkF m 192 #[.val (.int p0), .val (.int p1), .val (.int p2), .val (.int p3), .val (.int u7_2), .val (.int u17_4), .val (.int u27_6), .val (.int u37_8), .val (.ref b9), .val (.ref b14), .val (.int (2 : Int32)), .val (.ref b52), .val (.int u106_62), .val (.int u140_66), .val (.int u178_67)] [(.int v192_68)]))) (fun J192_69 => ?_) ?_
    · skip
      by_cases c184_70 : u106_62 = u178_67
      · refine OD.go (B := (T65.setTop (mkF m 187 #[.val (.int p0), .val (.int p1), .val (.int p2), .val (.int p3), .val (.int u7_2), .val (.int u17_4), .val (.int u27_6), .val (.int u37_8), .val (.ref b9), .val (.ref b14), .val (.int (2 : Int32)), .val (.ref b52), .val (.int u106_62), .val (.int u140_66), .val (.int u178_67)] []))) (fun t k => XS.icmpNo X65.here hx rfl (hb hby at_184) rfl (teq c184_70).2 k) ?_
        refine OD.go (B := (T65.setTop (mkF m 188 #[.val (.int p0), .val (.int p1), .val (.int p2), .val (.int p3), .val (.int u7_2), .val (.int u17_4), .val (.int u27_6), .val (.int u37_8), .val (.ref b9), .val (.ref b14), .val (.int (2 : Int32)), .val (.ref b52), .val (.int u106_62), .val (.int u140_66), .val (.int u178_67)] [(.int (1 : Int32))]))) (fun t k => XS.iconst X65.here hx rfl (hb hby at_187) k) ?_
        refine OD.go (B := (T65.setTop (mkF m 192 #[.val (.int p0), .val (.int p1), .val (.int p2), .val (.int p3), .val (.int u7_2), .val (.int u17_4), .val (.int u27_6), .val (.int u37_8), .val (.ref b9), .val (.ref b14), .val (.int (2 : Int32)), .val (.ref b52), .val (.int u106_62), .val (.int u140_66), .val (.int u178_67)] [(.int (1 : Int32))]))) (fun t k => XS.goto X65.here hx rfl (pc0 := 188) (pc' := 192) rfl (hb hby at_188) (by decide) (by decide) k) ?_
        rw [if_pos c184_70] at hv192_68
        rw [hv192_68] at J192_69
        exact J192_69
      · refine OD.go (B := (T65.setTop (mkF m 191 #[.val (.int p0), .val (.int p1), .val (.int p2), .val (.int p3), .val (.int u7_2), .val (.int u17_4), .val (.int u27_6), .val (.int u37_8), .val (.ref b9), .val (.ref b14), .val (.int (2 : Int32)), .val (.ref b52), .val (.int u106_62), .val (.int u140_66), .val (.int u178_67)] []))) (fun t k => XS.icmpYes X65.here hx rfl (pc0 := 184) (pc' := 191) rfl (hb hby at_184) rfl (feq c184_70).2 (by decide) (by decide) k) ?_
        refine OD.go (B := (T65.setTop (mkF m 192 #[.val (.int p0), .val (.int p1), .val (.int p2), .val (.int p3), .val (.int u7_2), .val (.int u17_4), .val (.int u27_6), .val (.int u37_8), .val (.ref b9), .val (.ref b14), .val (.int (2 : Int32)), .val (.ref b52), .val (.int u106_62), .val (.int u140_66), .val (.int u178_67)] [(.int (0 : Int32))]))) (fun t k => XS.iconst X65.here hx rfl (hb hby at_191) k) ?_
        rw [if_neg c184_70] at hv192_68
        rw [hv192_68] at J192_69
        exact J192_69
    have fin : v192_68 = 1 := by
      subst hu106_62
      subst hu124_64
      subst hu140_66
      subst hu178_67
      rw [hv192_68, if_pos]
      simp only [own_stnl, Int32.add_assoc, Int32.zero_add, Int32.add_zero]
    rw [fin]
    exact OD.ret X65 hx hlk (t := .boolean) Bd.returns rfl (Or.inl ⟨rfl, Or.inr (Or.inl rfl), _, rfl⟩) (hb hby at_192) (Nat.le_of_ble_eq_true rfl) (Nat.le_of_ble_eq_true rfl) ⟨rfl, N65⟩
  · show OD _ _ _ _ _ _ _ (T19.setTop (mkF m 87 #[.val (.int p0), .val (.int p1), .val (.int p2), .val (.int p3), .val (.int u7_2), .val (.int u17_4), .val (.int u27_6), .val (.int u37_8), .val (.ref b9), .val (.ref b14), .val (.int (3 : Int32)), .unset, .unset, .unset, .unset] []))
    obtain ⟨T71, h71, X71, e71, E71, A71, D71, -, st71⟩ := newO X19 hx hZ hown (Wd35 hw) (Wd36 hw) (Wd37 hw) rfl (g := (mkF m 87 #[.val (.int p0), .val (.int p1), .val (.int p2), .val (.int p3), .val (.int u7_2), .val (.int u17_4), .val (.int u27_6), .val (.int u37_8), .val (.ref b9), .val (.ref b14), .val (.int (3 : Int32)), .unset, .unset, .unset, .unset] [])) rfl (hb hby at_87) (Nat.le_of_ble_eq_true rfl) (Nat.le_of_ble_eq_true rfl)
    obtain ⟨b71, g71⟩ : ∃ z, z = T19.heap.size := ⟨_, rfl⟩
    rw [← g71] at A71 D71 st71
    have Fn72 : Fld Z h71 b71 "com/example/querent/querent/trec/ElementReader$Element" "body" "Ljava/lang/String;" .null := D71 (Or.inr (Wd48 hw)) (ty := (.object "java/lang/String")) (by decide)
    have Fn73 : Fld Z h71 b71 "com/example/querent/querent/trec/ElementReader$Element" "line" "I" (.int (0 : Int32)) := D71 (Or.inr (Wd50 hw)) (ty := .int) (by decide)
    refine OD.go (B := (T71.setTop (mkF m 90 #[.val (.int p0), .val (.int p1), .val (.int p2), .val (.int p3), .val (.int u7_2), .val (.int u17_4), .val (.int u27_6), .val (.int u37_8), .val (.ref b9), .val (.ref b14), .val (.int (3 : Int32)), .unset, .unset, .unset, .unset] [(.ref b71)]))) st71 ?_
    refine OD.go (B := (T71.setTop (mkF m 91 #[.val (.int p0), .val (.int p1), .val (.int p2), .val (.int p3), .val (.int u7_2), .val (.int u17_4), .val (.int u27_6), .val (.int u37_8), .val (.ref b9), .val (.ref b14), .val (.int (3 : Int32)), .unset, .unset, .unset, .unset] [(.ref b71), (.ref b71)]))) (fun t k => XS.dup X71.here hx rfl (hb hby at_90) rfl rfl k) ?_
    refine OD.go (B := (T71.setTop (mkF m 93 #[.val (.int p0), .val (.int p1), .val (.int p2), .val (.int p3), .val (.int u7_2), .val (.int u17_4), .val (.int u27_6), .val (.int u37_8), .val (.ref b9), .val (.ref b14), .val (.int (3 : Int32)), .unset, .unset, .unset, .unset] [(.ref b14), (.ref b71), (.ref b71)]))) (fun t k => XS.aload X71.here hx rfl (hb hby at_91) rfl rfl k) ?_
    refine OD.go (B := (T71.setTop (mkF m 94 #[.val (.int p0), .val (.int p1), .val (.int p2), .val (.int p3), .val (.int u7_2), .val (.int u17_4), .val (.int u27_6), .val (.int u37_8), .val (.ref b9), .val (.ref b14), .val (.int (3 : Int32)), .unset, .unset, .unset, .unset] [(.int p0), (.ref b14), (.ref b71), (.ref b71)]))) (fun t k => XS.iloadN X71.here hx rfl (hb hby at_93) rfl k) ?_
    obtain ⟨_, _, ⟨T74, L74, k74, n74⟩, -, X74, ⟨Lc74, hQ74, l74, y74, z74⟩, st74⟩ := X71.specialBack hx (y := (⟨"com/example/querent/querent/trec/ElementReader$Element", "<init>", "(Ljava/lang/String;I)V"⟩ : MethodName)) rfl hown (mvT hZ (Wd38 hw)) (mvT hZ (Wd39 hw)) (mvT hZ (Wd40 hw)) (by decide) (backOf (W := 1) (rmE l Z a0 hw [] b71 b14 p0 h71 h0.size (Nat.le_trans (Nat.le_trans (Nat.le_trans (Nat.le_trans (Nat.le_trans (Nat.le_trans (Nat.le_trans (Nat.le_trans (Nat.le_refl _) E9.1) (Keep.of_wr W10).1) (Keep.of_wr W11).1) (Keep.of_wr W12).1) (Keep.of_wr W13).1) E14.1) K19.1) E71.1) A71 Fn72 Fn73 (Nat.le_trans (Nat.le_trans (Nat.le_trans (Nat.le_trans (Nat.le_trans (Nat.le_trans (Nat.le_trans (Nat.le_trans (Nat.le_refl _) E9.1) (Keep.of_wr W10).1) (Keep.of_wr W11).1) (Keep.of_wr W12).1) (Keep.of_wr W13).1) E14.1) K19.1) (Nat.le_of_eq g71.symm))) hZ (Wd40 hw) (Wd37 hw) (by decide) (by decide)) (g := (mkF m 94 #[.val (.int p0), .val (.int p1), .val (.int p2), .val (.int p3), .val (.int u7_2), .val (.int u17_4), .val (.int u27_6), .val (.int u37_8), .val (.ref b9), .val (.ref b14), .val (.int (3 : Int32)), .unset, .unset, .unset, .unset] [(.int p0), (.ref b14), (.ref b71), (.ref b71)])) rfl (by rw [hml]; rfl) (Steps.refl _) (a := b71) (argsL := [(.ref b14), (.int p0)]) (rest := [(.ref b71)]) (lenOf pd4 rfl) rfl (by show 2 * 0 + _ ≤ _; exact Nat.le_of_eq rfl) (hb hby at_94) (fun _ _ => ⟨rfl, e71, (Nat.le_of_ble_eq_true rfl), (Nat.le_of_ble_eq_true rfl)⟩)
    dsimp only [Pt.U, Pt.locs, Pt.cells, Pt.slots] at X74 l74 y74 z74 st74 hQ74
    subst l74 y74 z74
    obtain ⟨rfl, Nq74, K74, G1_74, G2_74⟩ := hQ74
    have N74 := Fr.app N19 Nq74
    refine OD.via (B := (T74.setTop (mkF m 97 #[.val (.int p0), .val (.int p1), .val (.int p2), .val (.int p3), .val (.int u7_2), .val (.int u17_4), .val (.int u27_6), .val (.int u37_8), .val (.ref b9), .val (.ref b14), .val (.int (3 : Int32)), .unset, .unset, .unset, .unset] [(.ref b71)]))) st74 ?_
    refine OD.go (B := (T74.setTop (mkF m 99 #[.val (.int p0), .val (.int p1), .val (.int p2), .val (.int p3), .val (.int u7_2), .val (.int u17_4), .val (.int u27_6), .val (.int u37_8), .val (.ref b9), .val (.ref b14), .val (.int (3 : Int32)), .val (.ref b71), .unset, .unset, .unset] []))) (fun t k => XS.astore X74.here hx rfl (hb hby at_97) rfl rfl (l' := #[.val (.int p0), .val (.int p1), .val (.int p2), .val (.int p3), .val (.int u7_2), .val (.int u17_4), .val (.int u27_6), .val (.int u37_8), .val (.ref b9), .val (.ref b14), .val (.int (3 : Int32)), .val (.ref b71), .unset, .unset, .unset]) rfl k) ?_
    refine OD.go (B := (T74.setTop (mkF m 101 #[.val (.int p0), .val (.int p1), .val (.int p2), .val (.int p3), .val (.int u7_2), .val (.int u17_4), .val (.int u27_6), .val (.int u37_8), .val (.ref b9), .val (.ref b14), .val (.int (3 : Int32)), .val (.ref b71), .unset, .unset, .unset] [(.ref b71)]))) (fun t k => XS.aload X74.here hx rfl (hb hby at_99) rfl rfl k) ?_
    refine OD.go (B := (T74.setTop (mkF m 103 #[.val (.int p0), .val (.int p1), .val (.int p2), .val (.int p3), .val (.int u7_2), .val (.int u17_4), .val (.int u27_6), .val (.int u37_8), .val (.ref b9), .val (.ref b14), .val (.int (3 : Int32)), .val (.ref b71), .unset, .unset, .unset] [(.int (3 : Int32)), (.ref b71)]))) (fun t k => XS.iload X74.here hx rfl (hb hby at_101) rfl k) ?_
    have f75 := (A71.keep K74)
    have f76 := ((E19.ext E71).keep K74)
    have f77 := ((V19.ext E71).keep K74 (ninS (Nat.ne_of_lt (Nat.lt_of_lt_of_le (Nat.lt_of_lt_of_le A14.lt K19.1) (Nat.le_of_eq g71.symm))) nin0))
    have f78 := ((C19.ext E71).keep K74 (ninS (Nat.ne_of_lt (Nat.lt_of_lt_of_le (Nat.lt_of_lt_of_le A14.lt K19.1) (Nat.le_of_eq g71.symm))) nin0))
    have f79 := ((A19.ext E71).keep K74 (ninS (Nat.ne_of_lt (Nat.lt_of_lt_of_le A19.lt (Nat.le_of_eq g71.symm))) nin0))
    obtain ⟨cq80, kq80, qa80, qb80, qc80⟩ := isOf hZ rfl f75
    obtain ⟨_, _, ⟨T80, L80, k80, n80⟩, -, X80, ⟨Lc80, hQ80, l80, y80, z80⟩, st80⟩ := X74.virtualBack hx (y := (⟨"com/example/querent/querent/trec/ElementReader$Element", "lineAt", "(I)I"⟩ : MethodName)) (z := (⟨"com/example/querent/querent/trec/ElementReader$Element", "lineAt", "(I)I"⟩ : MethodName)) hown (mvT hZ (Wd51 hw)) (mvT hZ (Wd52 hw)) (notFace_of_selects (args := #[]) (mvT hZ (Wd54 hw))) (mvT hZ (Wd54 hw)) (mvT hZ (Wd53 hw)) (by decide) (backOf (W := 0) (rmL3 l Z a0 hw [] b71 T74.heap h0.size (((((((((X00.ext E9).wr W10 (Nat.le_trans (Nat.le_refl _) (Nat.le_of_eq g9.symm))).wr W11 (Nat.le_trans (Nat.le_refl _) (Nat.le_of_eq g9.symm))).wr W12 (Nat.le_trans (Nat.le_refl _) (Nat.le_of_eq g9.symm))).wr W13 (Nat.le_trans (Nat.le_refl _) (Nat.le_of_eq g9.symm))).ext E14).keep K19 (allS (Nat.le_trans (Nat.le_trans (Nat.le_trans (Nat.le_trans (Nat.le_trans (Nat.le_trans (Nat.le_refl _) E9.1) (Keep.of_wr W10).1) (Keep.of_wr W11).1) (Keep.of_wr W12).1) (Keep.of_wr W13).1) (Nat.le_of_eq g14.symm)) all0)).ext E71).keep K74 (allS (Nat.le_trans (Nat.le_trans (Nat.le_trans (Nat.le_trans (Nat.le_trans (Nat.le_trans (Nat.le_trans (Nat.le_trans (Nat.le_refl _) E9.1) (Keep.of_wr W10).1) (Keep.of_wr W11).1) (Keep.of_wr W12).1) (Keep.of_wr W13).1) E14.1) K19.1) (Nat.le_of_eq g71.symm)) all0)) p0 b14 t19 kb19 u7_2 u17_4 u27_6 u37_8 f75 G1_74 G2_74 f76 f77 f78 f79 hp zc O2 P5 fm O4 rG) hZ (Wd55 hw) (Wd37 hw) (by decide) (by decide)) qa80 qc80 (g := (mkF m 103 #[.val (.int p0), .val (.int p1), .val (.int p2), .val (.int p3), .val (.int u7_2), .val (.int u17_4), .val (.int u27_6), .val (.int u37_8), .val (.ref b9), .val (.ref b14), .val (.int (3 : Int32)), .val (.ref b71), .unset, .unset, .unset] [(.int (3 : Int32)), (.ref b71)])) rfl (by rw [hml]; rfl) (Steps.refl _) (argsL := [(.int (3 : Int32))]) (rest := []) (lenOf pd5 rfl) rfl (by show 2 * 0 + _ ≤ _; exact Nat.le_of_eq rfl) (hb hby at_103) (fun _ _ => ⟨rfl, rfl, (Nat.le_of_ble_eq_true rfl), (Nat.le_of_ble_eq_true rfl)⟩)
    dsimp only [Pt.U, Pt.locs, Pt.cells, Pt.slots] at X80 l80 y80 z80 st80 hQ80
    subst l80 y80 z80
    obtain ⟨rfl, rfl, e80⟩ := hQ80
    have N80 := Fr.app N74 (Fr.nil _)
    refine OD.via (B := (T80.setTop (mkF m 106 #[.val (.int p0), .val (.int p1), .val (.int p2), .val (.int p3), .val (.int u7_2), .val (.int u17_4), .val (.int u27_6), .val (.int u37_8), .val (.ref b9), .val (.ref b14), .val (.int (3 : Int32)), .val (.ref b71), .unset, .unset, .unset] [(.int (own_st (own_st (own_st p0 u7_2) u17_4) u27_6))]))) st80 ?_
    refine OD.go (B := (T80.setTop (mkF m 108 #[.val (.int p0), .val (.int p1), .val (.int p2), .val (.int p3), .val (.int u7_2), .val (.int u17_4), .val (.int u27_6), .val (.int u37_8), .val (.ref b9), .val (.ref b14), .val (.int (3 : Int32)), .val (.ref b71), .val (.int (own_st (own_st (own_st p0 u7_2) u17_4) u27_6)), .unset, .unset] []))) (fun t k => XS.istore X80.here hx rfl (hb hby at_106) rfl (l' := #[.val (.int p0), .val (.int p1), .val (.int p2), .val (.int p3), .val (.int u7_2), .val (.int u17_4), .val (.int u27_6), .val (.int u37_8), .val (.ref b9), .val (.ref b14), .val (.int (3 : Int32)), .val (.ref b71), .val (.int (own_st (own_st (own_st p0 u7_2) u17_4) u27_6)), .unset, .unset]) rfl k) ?_
    generalize hu106_81 : (own_st (own_st (own_st p0 u7_2) u17_4) u27_6) = u106_81
    refine OD.go (B := (T80.setTop (mkF m 109 #[.val (.int p0), .val (.int p1), .val (.int p2), .val (.int p3), .val (.int u7_2), .val (.int u17_4), .val (.int u27_6), .val (.int u37_8), .val (.ref b9), .val (.ref b14), .val (.int (3 : Int32)), .val (.ref b71), .val (.int u106_81), .unset, .unset] [(.int (0 : Int32))]))) (fun t k => XS.iconst X80.here hx rfl (hb hby at_108) k) ?_
    refine OD.go (B := (T80.setTop (mkF m 111 #[.val (.int p0), .val (.int p1), .val (.int p2), .val (.int p3), .val (.int u7_2), .val (.int u17_4), .val (.int u27_6), .val (.int u37_8), .val (.ref b9), .val (.ref b14), .val (.int (3 : Int32)), .val (.ref b71), .val (.int u106_81), .val (.int (0 : Int32)), .unset] []))) (fun t k => XS.istore X80.here hx rfl (hb hby at_109) rfl (l' := #[.val (.int p0), .val (.int p1), .val (.int p2), .val (.int p3), .val (.int u7_2), .val (.int u17_4), .val (.int u27_6), .val (.int u37_8), .val (.ref b9), .val (.ref b14), .val (.int (3 : Int32)), .val (.ref b71), .val (.int u106_81), .val (.int (0 : Int32)), .unset]) rfl k) ?_
    refine OD.go (B := (T80.setTop (mkF m 113 #[.val (.int p0), .val (.int p1), .val (.int p2), .val (.int p3), .val (.int u7_2), .val (.int u17_4), .val (.int u27_6), .val (.int u37_8), .val (.ref b9), .val (.ref b14), .val (.int (3 : Int32)), .val (.ref b71), .val (.int u106_81), .val (.int (0 : Int32)), .unset] [(.int (3 : Int32))]))) (fun t k => XS.iload X80.here hx rfl (hb hby at_111) rfl k) ?_
    refine OD.go (B := (T80.setTop (mkF m 116 #[.val (.int p0), .val (.int p1), .val (.int p2), .val (.int p3), .val (.int u7_2), .val (.int u17_4), .val (.int u27_6), .val (.int u37_8), .val (.ref b9), .val (.ref b14), .val (.int (3 : Int32)), .val (.ref b71), .val (.int u106_81), .val (.int (0 : Int32)), .unset] []))) (fun t k => XS.ifNo X80.here hx rfl (hb hby at_113) rfl (by rw [if0]; exact (tlt (by decide : (0 : Int32) < (3 : Int32))).2.2.2) k) ?_
    refine OD.go (B := (T80.setTop (mkF m 118 #[.val (.int p0), .val (.int p1), .val (.int p2), .val (.int p3), .val (.int u7_2), .val (.int u17_4), .val (.int u27_6), .val (.int u37_8), .val (.ref b9), .val (.ref b14), .val (.int (3 : Int32)), .val (.ref b71), .val (.int u106_81), .val (.int (0 : Int32)), .unset] [(.int (0 : Int32))]))) (fun t k => XS.iload X80.here hx rfl (hb hby at_116) rfl k) ?_
    refine OD.go (B := (T80.setTop (mkF m 120 #[.val (.int p0), .val (.int p1), .val (.int p2), .val (.int p3), .val (.int u7_2), .val (.int u17_4), .val (.int u27_6), .val (.int u37_8), .val (.ref b9), .val (.ref b14), .val (.int (3 : Int32)), .val (.ref b71), .val (.int u106_81), .val (.int (0 : Int32)), .unset] [(.int u7_2), (.int (0 : Int32))]))) (fun t k => XS.iload X80.here hx rfl (hb hby at_118) rfl k) ?_
    obtain ⟨_, _, ⟨T82, L82, k82, n82⟩, -, X82, ⟨Lc82, hQ82, l82, y82, z82⟩, st82⟩ := Jvm.LawKit.callS X80 hx (y := (⟨"com/example/querent/querent/trec/ElementLineAtPinLaw", "nl", "(C)I"⟩ : MethodName)) hown (mvT hZ (Wd78 hw)) (mvT hZ (Wd79 hw)) (mvT hZ (Wd2 hw)) (mvT hZ (Wd80 hw)) (by decide) (backOf (W := 1) (rmN l Z a0 hw [] u7_2 T74.heap) hZ (Wd80 hw) (Wd2 hw) (by decide) (by decide)) (g := (mkF m 120 #[.val (.int p0), .val (.int p1), .val (.int p2), .val (.int p3), .val (.int u7_2), .val (.int u17_4), .val (.int u27_6), .val (.int u37_8), .val (.ref b9), .val (.ref b14), .val (.int (3 : Int32)), .val (.ref b71), .val (.int u106_81), .val (.int (0 : Int32)), .unset] [(.int u7_2), (.int (0 : Int32))])) rfl (by rw [hml]; rfl) (argsL := [(.int u7_2)]) (rest := [(.int (0 : Int32))]) (lenOf pd6 rfl) rfl (by show 2 * 0 + _ ≤ _; exact Nat.le_of_eq rfl) (hb hby at_120) (fun _ _ => ⟨rfl, e80, (Nat.le_of_ble_eq_true rfl), (Nat.le_of_ble_eq_true rfl)⟩)
    dsimp only [Pt.U, Pt.locs, Pt.cells, Pt.slots] at X82 l82 y82 z82 st82 hQ82
    subst l82 y82 z82
    obtain ⟨rfl, rfl, e82⟩ := hQ82
    have N82 := Fr.app N80 (Fr.nil _)
    refine OD.go (B := (T82.setTop (mkF m 123 #[.val (.int p0), .val (.int p1), .val (.int p2), .val (.int p3), .val (.int u7_2), .val (.int u17_4), .val (.int u27_6), .val (.int u37_8), .val (.ref b9), .val (.ref b14), .val (.int (3 : Int32)), .val (.ref b71), .val (.int u106_81), .val (.int (0 : Int32)), .unset] [(.int (own_nl u7_2)), (.int (0 : Int32))]))) st82 ?_
    refine OD.go (B := (T82.setTop (mkF m 124 #[.val (.int p0), .val (.int p1), .val (.int p2), .val (.int p3), .val (.int u7_2), .val (.int u17_4), .val (.int u27_6), .val (.int u37_8), .val (.ref b9), .val (.ref b14), .val (.int (3 : Int32)), .val (.ref b71), .val (.int u106_81), .val (.int (0 : Int32)), .unset] [(.int ((0 : Int32) + (own_nl u7_2)))]))) (fun t k => XS.iadd X82.here hx rfl (hb hby at_123) rfl k) ?_
    refine OD.go (B := (T82.setTop (mkF m 126 #[.val (.int p0), .val (.int p1), .val (.int p2), .val (.int p3), .val (.int u7_2), .val (.int u17_4), .val (.int u27_6), .val (.int u37_8), .val (.ref b9), .val (.ref b14), .val (.int (3 : Int32)), .val (.ref b71), .val (.int u106_81), .val (.int ((0 : Int32) + (own_nl u7_2))), .unset] []))) (fun t k => XS.istore X82.here hx rfl (hb hby at_124) rfl (l' := #[.val (.int p0), .val (.int p1), .val (.int p2), .val (.int p3), .val (.int u7_2), .val (.int u17_4), .val (.int u27_6), .val (.int u37_8), .val (.ref b9), .val (.ref b14), .val (.int (3 : Int32)), .val (.ref b71), .val (.int u106_81), .val (.int ((0 : Int32) + (own_nl u7_2))), .unset]) rfl k) ?_
    generalize hu124_83 : ((0 : Int32) + (own_nl u7_2)) = u124_83
    refine OD.go (B := (T82.setTop (mkF m 128 #[.val (.int p0), .val (.int p1), .val (.int p2), .val (.int p3), .val (.int u7_2), .val (.int u17_4), .val (.int u27_6), .val (.int u37_8), .val (.ref b9), .val (.ref b14), .val (.int (3 : Int32)), .val (.ref b71), .val (.int u106_81), .val (.int u124_83), .unset] [(.int (3 : Int32))]))) (fun t k => XS.iload X82.here hx rfl (hb hby at_126) rfl k) ?_
    refine OD.go (B := (T82.setTop (mkF m 129 #[.val (.int p0), .val (.int p1), .val (.int p2), .val (.int p3), .val (.int u7_2), .val (.int u17_4), .val (.int u27_6), .val (.int u37_8), .val (.ref b9), .val (.ref b14), .val (.int (3 : Int32)), .val (.ref b71), .val (.int u106_81), .val (.int u124_83), .unset] [(.int (1 : Int32)), (.int (3 : Int32))]))) (fun t k => XS.iconst X82.here hx rfl (hb hby at_128) k) ?_
    refine OD.go (B := (T82.setTop (mkF m 132 #[.val (.int p0), .val (.int p1), .val (.int p2), .val (.int p3), .val (.int u7_2), .val (.int u17_4), .val (.int u27_6), .val (.int u37_8), .val (.ref b9), .val (.ref b14), .val (.int (3 : Int32)), .val (.ref b71), .val (.int u106_81), .val (.int u124_83), .unset] []))) (fun t k => XS.icmpNo X82.here hx rfl (hb hby at_129) rfl (tlt (by decide : (1 : Int32) < (3 : Int32))).2.2.2 k) ?_
    refine OD.go (B := (T82.setTop (mkF m 134 #[.val (.int p0), .val (.int p1), .val (.int p2), .val (.int p3), .val (.int u7_2), .val (.int u17_4), .val (.int u27_6), .val (.int u37_8), .val (.ref b9), .val (.ref b14), .val (.int (3 : Int32)), .val (.ref b71), .val (.int u106_81), .val (.int u124_83), .unset] [(.int u124_83)]))) (fun t k => XS.iload X82.here hx rfl (hb hby at_132) rfl k) ?_
    refine OD.go (B := (T82.setTop (mkF m 136 #[.val (.int p0), .val (.int p1), .val (.int p2), .val (.int p3), .val (.int u7_2), .val (.int u17_4), .val (.int u27_6), .val (.int u37_8), .val (.ref b9), .val (.ref b14), .val (.int (3 : Int32)), .val (.ref b71), .val (.int u106_81), .val (.int u124_83), .unset] [(.int u17_4), (.int u124_83)]))) (fun t k => XS.iload X82.here hx rfl (hb hby at_134) rfl k) ?_
    obtain ⟨_, _, ⟨T84, L84, k84, n84⟩, -, X84, ⟨Lc84, hQ84, l84, y84, z84⟩, st84⟩ := Jvm.LawKit.callS X82 hx (y := (⟨"com/example/querent/querent/trec/ElementLineAtPinLaw", "nl", "(C)I"⟩ : MethodName)) hown (mvT hZ (Wd78 hw)) (mvT hZ (Wd79 hw)) (mvT hZ (Wd2 hw)) (mvT hZ (Wd80 hw)) (by decide) (backOf (W := 1) (rmN l Z a0 hw [] u17_4 T74.heap) hZ (Wd80 hw) (Wd2 hw) (by decide) (by decide)) (g := (mkF m 136 #[.val (.int p0), .val (.int p1), .val (.int p2), .val (.int p3), .val (.int u7_2), .val (.int u17_4), .val (.int u27_6), .val (.int u37_8), .val (.ref b9), .val (.ref b14), .val (.int (3 : Int32)), .val (.ref b71), .val (.int u106_81), .val (.int u124_83), .unset] [(.int u17_4), (.int u124_83)])) rfl (by rw [hml]; rfl) (argsL := [(.int u17_4)]) (rest := [(.int u124_83)]) (lenOf pd6 rfl) rfl (by show 2 * 0 + _ ≤ _; exact Nat.le_of_eq rfl) (hb hby at_136) (fun _ _ => ⟨rfl, e82, (Nat.le_of_ble_eq_true rfl), (Nat.le_of_ble_eq_true rfl)⟩)
    dsimp only [Pt.U, Pt.locs, Pt.cells, Pt.slots] at X84 l84 y84 z84 st84 hQ84
    subst l84 y84 z84
    obtain ⟨rfl, rfl, e84⟩ := hQ84
    have N84 := Fr.app N82 (Fr.nil _)
    refine OD.go (B := (T84.setTop (mkF m 139 #[.val (.int p0), .val (.int p1), .val (.int p2), .val (.int p3), .val (.int u7_2), .val (.int u17_4), .val (.int u27_6), .val (.int u37_8), .val (.ref b9), .val (.ref b14), .val (.int (3 : Int32)), .val (.ref b71), .val (.int u106_81), .val (.int u124_83), .unset] [(.int (own_nl u17_4)), (.int u124_83)]))) st84 ?_
    refine OD.go (B := (T84.setTop (mkF m 140 #[.val (.int p0), .val (.int p1), .val (.int p2), .val (.int p3), .val (.int u7_2), .val (.int u17_4), .val (.int u27_6), .val (.int u37_8), .val (.ref b9), .val (.ref b14), .val (.int (3 : Int32)), .val (.ref b71), .val (.int u106_81), .val (.int u124_83), .unset] [(.int (u124_83 + (own_nl u17_4)))]))) (fun t k => XS.iadd X84.here hx rfl (hb hby at_139) rfl k) ?_
    refine OD.go (B := (T84.setTop (mkF m 142 #[.val (.int p0), .val (.int p1), .val (.int p2), .val (.int p3), .val (.int u7_2), .val (.int u17_4), .val (.int u27_6), .val (.int u37_8), .val (.ref b9), .val (.ref b14), .val (.int (3 : Int32)), .val (.ref b71), .val (.int u106_81), .val (.int (u124_83 + (own_nl u17_4))), .unset] []))) (fun t k => XS.istore X84.here hx rfl (hb hby at_140) rfl (l' := #[.val (.int p0), .val (.int p1), .val (.int p2), .val (.int p3), .val (.int u7_2), .val (.int u17_4), .val (.int u27_6), .val (.int u37_8), .val (.ref b9), .val (.ref b14), .val (.int (3 : Int32)), .val (.ref b71), .val (.int u106_81), .val (.int (u124_83 + (own_nl u17_4))), .unset]) rfl k) ?_
    generalize hu140_85 : (u124_83 + (own_nl u17_4)) = u140_85
    refine OD.go (B := (T84.setTop (mkF m 144 #[.val (.int p0), .val (.int p1), .val (.int p2), .val (.int p3), .val (.int u7_2), .val (.int u17_4), .val (.int u27_6), .val (.int u37_8), .val (.ref b9), .val (.ref b14), .val (.int (3 : Int32)), .val (.ref b71), .val (.int u106_81), .val (.int u140_85), .unset] [(.int (3 : Int32))]))) (fun t k => XS.iload X84.here hx rfl (hb hby at_142) rfl k) ?_
    refine OD.go (B := (T84.setTop (mkF m 145 #[.val (.int p0), .val (.int p1), .val (.int p2), .val (.int p3), .val (.int u7_2), .val (.int u17_4), .val (.int u27_6), .val (.int u37_8), .val (.ref b9), .val (.ref b14), .val (.int (3 : Int32)), .val (.ref b71), .val (.int u106_81), .val (.int u140_85), .unset] [(.int (2 : Int32)), (.int (3 : Int32))]))) (fun t k => XS.iconst X84.here hx rfl (hb hby at_144) k) ?_
    refine OD.go (B := (T84.setTop (mkF m 148 #[.val (.int p0), .val (.int p1), .val (.int p2), .val (.int p3), .val (.int u7_2), .val (.int u17_4), .val (.int u27_6), .val (.int u37_8), .val (.ref b9), .val (.ref b14), .val (.int (3 : Int32)), .val (.ref b71), .val (.int u106_81), .val (.int u140_85), .unset] []))) (fun t k => XS.icmpNo X84.here hx rfl (hb hby at_145) rfl (tlt (by decide : (2 : Int32) < (3 : Int32))).2.2.2 k) ?_
    refine OD.go (B := (T84.setTop (mkF m 150 #[.val (.int p0), .val (.int p1), .val (.int p2), .val (.int p3), .val (.int u7_2), .val (.int u17_4), .val (.int u27_6), .val (.int u37_8), .val (.ref b9), .val (.ref b14), .val (.int (3 : Int32)), .val (.ref b71), .val (.int u106_81), .val (.int u140_85), .unset] [(.int u140_85)]))) (fun t k => XS.iload X84.here hx rfl (hb hby at_148) rfl k) ?_
    refine OD.go (B := (T84.setTop (mkF m 152 #[.val (.int p0), .val (.int p1), .val (.int p2), .val (.int p3), .val (.int u7_2), .val (.int u17_4), .val (.int u27_6), .val (.int u37_8), .val (.ref b9), .val (.ref b14), .val (.int (3 : Int32)), .val (.ref b71), .val (.int u106_81), .val (.int u140_85), .unset] [(.int u27_6), (.int u140_85)]))) (fun t k => XS.iload X84.here hx rfl (hb hby at_150) rfl k) ?_
    obtain ⟨_, _, ⟨T86, L86, k86, n86⟩, -, X86, ⟨Lc86, hQ86, l86, y86, z86⟩, st86⟩ := Jvm.LawKit.callS X84 hx (y := (⟨"com/example/querent/querent/trec/ElementLineAtPinLaw", "nl", "(C)I"⟩ : MethodName)) hown (mvT hZ (Wd78 hw)) (mvT hZ (Wd79 hw)) (mvT hZ (Wd2 hw)) (mvT hZ (Wd80 hw)) (by decide) (backOf (W := 1) (rmN l Z a0 hw [] u27_6 T74.heap) hZ (Wd80 hw) (Wd2 hw) (by decide) (by decide)) (g := (mkF m 152 #[.val (.int p0), .val (.int p1), .val (.int p2), .val (.int p3), .val (.int u7_2), .val (.int u17_4), .val (.int u27_6), .val (.int u37_8), .val (.ref b9), .val (.ref b14), .val (.int (3 : Int32)), .val (.ref b71), .val (.int u106_81), .val (.int u140_85), .unset] [(.int u27_6), (.int u140_85)])) rfl (by rw [hml]; rfl) (argsL := [(.int u27_6)]) (rest := [(.int u140_85)]) (lenOf pd6 rfl) rfl (by show 2 * 0 + _ ≤ _; exact Nat.le_of_eq rfl) (hb hby at_152) (fun _ _ => ⟨rfl, e84, (Nat.le_of_ble_eq_true rfl), (Nat.le_of_ble_eq_true rfl)⟩)
    dsimp only [Pt.U, Pt.locs, Pt.cells, Pt.slots] at X86 l86 y86 z86 st86 hQ86
    subst l86 y86 z86
    obtain ⟨rfl, rfl, e86⟩ := hQ86
    have N86 := Fr.app N84 (Fr.nil _)
    refine OD.go (B := (T86.setTop (mkF m 155 #[.val (.int p0), .val (.int p1), .val (.int p2), .val (.int p3), .val (.int u7_2), .val (.int u17_4), .val (.int u27_6), .val (.int u37_8), .val (.ref b9), .val (.ref b14), .val (.int (3 : Int32)), .val (.ref b71), .val (.int u106_81), .val (.int u140_85), .unset] [(.int (own_nl u27_6)), (.int u140_85)]))) st86 ?_
    refine OD.go (B := (T86.setTop (mkF m 156 #[.val (.int p0), .val (.int p1), .val (.int p2), .val (.int p3), .val (.int u7_2), .val (.int u17_4), .val (.int u27_6), .val (.int u37_8), .val (.ref b9), .val (.ref b14), .val (.int (3 : Int32)), .val (.ref b71), .val (.int u106_81), .val (.int u140_85), .unset] [(.int (u140_85 + (own_nl u27_6)))]))) (fun t k => XS.iadd X86.here hx rfl (hb hby at_155) rfl k) ?_
    refine OD.go (B := (T86.setTop (mkF m 158 #[.val (.int p0), .val (.int p1), .val (.int p2), .val (.int p3), .val (.int u7_2), .val (.int u17_4), .val (.int u27_6), .val (.int u37_8), .val (.ref b9), .val (.ref b14), .val (.int (3 : Int32)), .val (.ref b71), .val (.int u106_81), .val (.int (u140_85 + (own_nl u27_6))), .unset] []))) (fun t k => XS.istore X86.here hx rfl (hb hby at_156) rfl (l' := #[.val (.int p0), .val (.int p1), .val (.int p2), .val (.int p3), .val (.int u7_2), .val (.int u17_4), .val (.int u27_6), .val (.int u37_8), .val (.ref b9), .val (.ref b14), .val (.int (3 : Int32)), .val (.ref b71), .val (.int u106_81), .val (.int (u140_85 + (own_nl u27_6))), .unset]) rfl k) ?_
    generalize hu156_87 : (u140_85 + (own_nl u27_6)) = u156_87
    refine OD.go (B := (T86.setTop (mkF m 160 #[.val (.int p0), .val (.int p1), .val (.int p2), .val (.int p3), .val (.int u7_2), .val (.int u17_4), .val (.int u27_6), .val (.int u37_8), .val (.ref b9), .val (.ref b14), .val (.int (3 : Int32)), .val (.ref b71), .val (.int u106_81), .val (.int u156_87), .unset] [(.int (3 : Int32))]))) (fun t k => XS.iload X86.here hx rfl (hb hby at_158) rfl k) ?_
    refine OD.go (B := (T86.setTop (mkF m 161 #[.val (.int p0), .val (.int p1), .val (.int p2), .val (.int p3), .val (.int u7_2), .val (.int u17_4), .val (.int u27_6), .val (.int u37_8), .val (.ref b9), .val (.ref b14), .val (.int (3 : Int32)), .val (.ref b71), .val (.int u106_81), .val (.int u156_87), .unset] [(.int (3 : Int32)), (.int (3 : Int32))]))) (fun t k => XS.iconst X86.here hx rfl (hb hby at_160) k) ?_
    refine OD.go (B := (T86.setTop (mkF m 174 #[.val (.int p0), .val (.int p1), .val (.int p2), .val (.int p3), .val (.int u7_2), .val (.int u17_4), .val (.int u27_6), .val (.int u37_8), .val (.ref b9), .val (.ref b14), .val (.int (3 : Int32)), .val (.ref b71), .val (.int u106_81), .val (.int u156_87), .unset] []))) (fun t k => XS.icmpYes X86.here hx rfl (pc0 := 161) (pc' := 174) rfl (hb hby at_161) rfl (flt (by decide : ¬ (3 : Int32) < (3 : Int32))).2.2.2 (by decide) (by decide) k) ?_
    refine OD.go (B := (T86.setTop (mkF m 175 #[.val (.int p0), .val (.int p1), .val (.int p2), .val (.int p3), .val (.int u7_2), .val (.int u17_4), .val (.int u27_6), .val (.int u37_8), .val (.ref b9), .val (.ref b14), .val (.int (3 : Int32)), .val (.ref b71), .val (.int u106_81), .val (.int u156_87), .unset] [(.int p0)]))) (fun t k => XS.iloadN X86.here hx rfl (hb hby at_174) rfl k) ?_
    refine OD.go (B := (T86.setTop (mkF m 177 #[.val (.int p0), .val (.int p1), .val (.int p2), .val (.int p3), .val (.int u7_2), .val (.int u17_4), .val (.int u27_6), .val (.int u37_8), .val (.ref b9), .val (.ref b14), .val (.int (3 : Int32)), .val (.ref b71), .val (.int u106_81), .val (.int u156_87), .unset] [(.int u156_87), (.int p0)]))) (fun t k => XS.iload X86.here hx rfl (hb hby at_175) rfl k) ?_
    refine OD.go (B := (T86.setTop (mkF m 178 #[.val (.int p0), .val (.int p1), .val (.int p2), .val (.int p3), .val (.int u7_2), .val (.int u17_4), .val (.int u27_6), .val (.int u37_8), .val (.ref b9), .val (.ref b14), .val (.int (3 : Int32)), .val (.ref b71), .val (.int u106_81), .val (.int u156_87), .unset] [(.int (p0 + u156_87))]))) (fun t k => XS.iadd X86.here hx rfl (hb hby at_177) rfl k) ?_
    refine OD.go (B := (T86.setTop (mkF m 180 #[.val (.int p0), .val (.int p1), .val (.int p2), .val (.int p3), .val (.int u7_2), .val (.int u17_4), .val (.int u27_6), .val (.int u37_8), .val (.ref b9), .val (.ref b14), .val (.int (3 : Int32)), .val (.ref b71), .val (.int u106_81), .val (.int u156_87), .val (.int (p0 + u156_87))] []))) (fun t k => XS.istore X86.here hx rfl (hb hby at_178) rfl (l' := #[.val (.int p0), .val (.int p1), .val (.int p2), .val (.int p3), .val (.int u7_2), .val (.int u17_4), .val (.int u27_6), .val (.int u37_8), .val (.ref b9), .val (.ref b14), .val (.int (3 : Int32)), .val (.ref b71), .val (.int u106_81), .val (.int u156_87), .val (.int (p0 + u156_87))]) rfl k) ?_
    generalize hu178_88 : (p0 + u156_87) = u178_88
    refine OD.go (B := (T86.setTop (mkF m 182 #[.val (.int p0), .val (.int p1), .val (.int p2), .val (.int p3), .val (.int u7_2), .val (.int u17_4), .val (.int u27_6), .val (.int u37_8), .val (.ref b9), .val (.ref b14), .val (.int (3 : Int32)), .val (.ref b71), .val (.int u106_81), .val (.int u156_87), .val (.int u178_88)] [(.int u106_81)]))) (fun t k => XS.iload X86.here hx rfl (hb hby at_180) rfl k) ?_
    refine OD.go (B := (T86.setTop (mkF m 184 #[.val (.int p0), .val (.int p1), .val (.int p2), .val (.int p3), .val (.int u7_2), .val (.int u17_4), .val (.int u27_6), .val (.int u37_8), .val (.ref b9), .val (.ref b14), .val (.int (3 : Int32)), .val (.ref b71), .val (.int u106_81), .val (.int u156_87), .val (.int u178_88)] [(.int u178_88), (.int u106_81)]))) (fun t k => XS.iload X86.here hx rfl (hb hby at_182) rfl k) ?_
    obtain ⟨v192_89, hv192_89⟩ : ∃ z : Int32, z = (if u106_81 = u178_88 then (1 : Int32) else (0 : Int32)) := ⟨_, rfl⟩
    refine OD.cut (B := (T86.setTop (mkF m 192 #[.val (.int p0), .val (.int p1), .val (.int p2), .val (.int p3), .val (.int u7_2), .val (.int u17_4), .val (.int u27_6), .val (.int u37_8), .val (.ref b9), .val (.ref b14), .val (.int (3 : Int32)), .val (.ref b71), .val (.int u106_81), .val (.int u156_87), .val (.int u178_88)] [(.int v192_89)]))) (fun J192_90 => ?_) ?_
    · skip
      by_cases c184_91 : u106_81 = u178_88
      · refine OD.go (B := (T86.setTop (mkF m 187 #[.val (.int p0), .val (.int p1), .val (.int p2), .val (.int p3), .val (.int u7_2), .val (.int u17_4), .val (.int u27_6), .val (.int u37_8), .val (.ref b9), .val (.ref b14), .val (.int (3 : Int32)), .val (.ref b71), .val (.int u106_81), .val (.int u156_87), .val (.int u178_88)] []))) (fun t k => XS.icmpNo X86.here hx rfl (hb hby at_184) rfl (teq c184_91).2 k) ?_
        refine OD.go (B := (T86.setTop (mkF m 188 #[.val (.int p0), .val (.int p1), .val (.int p2), .val (.int p3), .val (.int u7_2), .val (.int u17_4), .val (.int u27_6), .val (.int u37_8), .val (.ref b9), .val (.ref b14), .val (.int (3 : Int32)), .val (.ref b71), .val (.int u106_81), .val (.int u156_87), .val (.int u178_88)] [(.int (1 : Int32))]))) (fun t k => XS.iconst X86.here hx rfl (hb hby at_187) k) ?_
        refine OD.go (B := (T86.setTop (mkF m 192 #[.val (.int p0), .val (.int p1), .val (.int p2), .val (.int p3), .val (.int u7_2), .val (.int u17_4), .val (.int u27_6), .val (.int u37_8), .val (.ref b9), .val (.ref b14), .val (.int (3 : Int32)), .val (.ref b71), .val (.int u106_81), .val (.int u156_87), .val (.int u178_88)] [(.int (1 : Int32))]))) (fun t k => XS.goto X86.here hx rfl (pc0 := 188) (pc' := 192) rfl (hb hby at_188) (by decide) (by decide) k) ?_
        rw [if_pos c184_91] at hv192_89
        rw [hv192_89] at J192_90
        exact J192_90
      · refine OD.go (B := (T86.setTop (mkF m 191 #[.val (.int p0), .val (.int p1), .val (.int p2), .val (.int p3), .val (.int u7_2), .val (.int u17_4), .val (.int u27_6), .val (.int u37_8), .val (.ref b9), .val (.ref b14), .val (.int (3 : Int32)), .val (.ref b71), .val (.int u106_81), .val (.int u156_87), .val (.int u178_88)] []))) (fun t k => XS.icmpYes X86.here hx rfl (pc0 := 184) (pc' := 191) rfl (hb hby at_184) rfl (feq c184_91).2 (by decide) (by decide) k) ?_
        refine OD.go (B := (T86.setTop (mkF m 192 #[.val (.int p0), .val (.int p1), .val (.int p2), .val (.int p3), .val (.int u7_2), .val (.int u17_4), .val (.int u27_6), .val (.int u37_8), .val (.ref b9), .val (.ref b14), .val (.int (3 : Int32)), .val (.ref b71), .val (.int u106_81), .val (.int u156_87), .val (.int u178_88)] [(.int (0 : Int32))]))) (fun t k => XS.iconst X86.here hx rfl (hb hby at_191) k) ?_
        rw [if_neg c184_91] at hv192_89
        rw [hv192_89] at J192_90
        exact J192_90
    have fin : v192_89 = 1 := by
      subst hu106_81
      subst hu124_83
      subst hu140_85
      subst hu156_87
      subst hu178_88
      rw [hv192_89, if_pos]
      simp only [own_stnl, Int32.add_assoc, Int32.zero_add, Int32.add_zero]
    rw [fin]
    exact OD.ret X86 hx hlk (t := .boolean) Bd.returns rfl (Or.inl ⟨rfl, Or.inr (Or.inl rfl), _, rfl⟩) (hb hby at_192) (Nat.le_of_ble_eq_true rfl) (Nat.le_of_ble_eq_true rfl) ⟨rfl, N86⟩
  · show OD _ _ _ _ _ _ _ (T19.setTop (mkF m 87 #[.val (.int p0), .val (.int p1), .val (.int p2), .val (.int p3), .val (.int u7_2), .val (.int u17_4), .val (.int u27_6), .val (.int u37_8), .val (.ref b9), .val (.ref b14), .val (.int (4 : Int32)), .unset, .unset, .unset, .unset] []))
    obtain ⟨T92, h92, X92, e92, E92, A92, D92, -, st92⟩ := newO X19 hx hZ hown (Wd35 hw) (Wd36 hw) (Wd37 hw) rfl (g := (mkF m 87 #[.val (.int p0), .val (.int p1), .val (.int p2), .val (.int p3), .val (.int u7_2), .val (.int u17_4), .val (.int u27_6), .val (.int u37_8), .val (.ref b9), .val (.ref b14), .val (.int (4 : Int32)), .unset, .unset, .unset, .unset] [])) rfl (hb hby at_87) (Nat.le_of_ble_eq_true rfl) (Nat.le_of_ble_eq_true rfl)
    obtain ⟨b92, g92⟩ : ∃ z, z = T19.heap.size := ⟨_, rfl⟩
    rw [← g92] at A92 D92 st92
    have Fn93 : Fld Z h92 b92 "com/example/querent/querent/trec/ElementReader$Element" "body" "Ljava/lang/String;" .null := D92 (Or.inr (Wd48 hw)) (ty := (.object "java/lang/String")) (by decide)
    have Fn94 : Fld Z h92 b92 "com/example/querent/querent/trec/ElementReader$Element" "line" "I" (.int (0 : Int32)) := D92 (Or.inr (Wd50 hw)) (ty := .int) (by decide)
    refine OD.go (B := (T92.setTop (mkF m 90 #[.val (.int p0), .val (.int p1), .val (.int p2), .val (.int p3), .val (.int u7_2), .val (.int u17_4), .val (.int u27_6), .val (.int u37_8), .val (.ref b9), .val (.ref b14), .val (.int (4 : Int32)), .unset, .unset, .unset, .unset] [(.ref b92)]))) st92 ?_
    refine OD.go (B := (T92.setTop (mkF m 91 #[.val (.int p0), .val (.int p1), .val (.int p2), .val (.int p3), .val (.int u7_2), .val (.int u17_4), .val (.int u27_6), .val (.int u37_8), .val (.ref b9), .val (.ref b14), .val (.int (4 : Int32)), .unset, .unset, .unset, .unset] [(.ref b92), (.ref b92)]))) (fun t k => XS.dup X92.here hx rfl (hb hby at_90) rfl rfl k) ?_
    refine OD.go (B := (T92.setTop (mkF m 93 #[.val (.int p0), .val (.int p1), .val (.int p2), .val (.int p3), .val (.int u7_2), .val (.int u17_4), .val (.int u27_6), .val (.int u37_8), .val (.ref b9), .val (.ref b14), .val (.int (4 : Int32)), .unset, .unset, .unset, .unset] [(.ref b14), (.ref b92), (.ref b92)]))) (fun t k => XS.aload X92.here hx rfl (hb hby at_91) rfl rfl k) ?_
    refine OD.go (B := (T92.setTop (mkF m 94 #[.val (.int p0), .val (.int p1), .val (.int p2), .val (.int p3), .val (.int u7_2), .val (.int u17_4), .val (.int u27_6), .val (.int u37_8), .val (.ref b9), .val (.ref b14), .val (.int (4 : Int32)), .unset, .unset, .unset, .unset] [(.int p0), (.ref b14), (.ref b92), (.ref b92)]))) (fun t k => XS.iloadN X92.here hx rfl (hb hby at_93) rfl k) ?_
    obtain ⟨_, _, ⟨T95, L95, k95, n95⟩, -, X95, ⟨Lc95, hQ95, l95, y95, z95⟩, st95⟩ := X92.specialBack hx (y := (⟨"com/example/querent/querent/trec/ElementReader$Element", "<init>", "(Ljava/lang/String;I)V"⟩ : MethodName)) rfl hown (mvT hZ (Wd38 hw)) (mvT hZ (Wd39 hw)) (mvT hZ (Wd40 hw)) (by decide) (backOf (W := 1) (rmE l Z a0 hw [] b92 b14 p0 h92 h0.size (Nat.le_trans (Nat.le_trans (Nat.le_trans (Nat.le_trans (Nat.le_trans (Nat.le_trans (Nat.le_trans (Nat.le_trans (Nat.le_refl _) E9.1) (Keep.of_wr W10).1) (Keep.of_wr W11).1) (Keep.of_wr W12).1) (Keep.of_wr W13).1) E14.1) K19.1) E92.1) A92 Fn93 Fn94 (Nat.le_trans (Nat.le_trans (Nat.le_trans (Nat.le_trans (Nat.le_trans (Nat.le_trans (Nat.le_trans (Nat.le_trans (Nat.le_refl _) E9.1) (Keep.of_wr W10).1) (Keep.of_wr W11).1) (Keep.of_wr W12).1) (Keep.of_wr W13).1) E14.1) K19.1) (Nat.le_of_eq g92.symm))) hZ (Wd40 hw) (Wd37 hw) (by decide) (by decide)) (g := (mkF m 94 #[.val (.int p0), .val (.int p1), .val (.int p2), .val (.int p3), .val (.int u7_2), .val (.int u17_4), .val (.int u27_6), .val (.int u37_8), .val (.ref b9), .val (.ref b14), .val (.int (4 : Int32)), .unset, .unset, .unset, .unset] [(.int p0), (.ref b14), (.ref b92), (.ref b92)])) rfl (by rw [hml]; rfl) (Steps.refl _) (a := b92) (argsL := [(.ref b14), (.int p0)]) (rest := [(.ref b92)]) (lenOf pd4 rfl) rfl (by show 2 * 0 + _ ≤ _; exact Nat.le_of_eq rfl) (hb hby at_94) (fun _ _ => ⟨rfl, e92, (Nat.le_of_ble_eq_true rfl), (Nat.le_of_ble_eq_true rfl)⟩)
    dsimp only [Pt.U, Pt.locs, Pt.cells, Pt.slots] at X95 l95 y95 z95 st95 hQ95
    subst l95 y95 z95
    obtain ⟨rfl, Nq95, K95, G1_95, G2_95⟩ := hQ95
    have N95 := Fr.app N19 Nq95
    refine OD.via (B := (T95.setTop (mkF m 97 #[.val (.int p0), .val (.int p1), .val (.int p2), .val (.int p3), .val (.int u7_2), .val (.int u17_4), .val (.int u27_6), .val (.int u37_8), .val (.ref b9), .val (.ref b14), .val (.int (4 : Int32)), .unset, .unset, .unset, .unset] [(.ref b92)]))) st95 ?_
    refine OD.go (B := (T95.setTop (mkF m 99 #[.val (.int p0), .val (.int p1), .val (.int p2), .val (.int p3), .val (.int u7_2), .val (.int u17_4), .val (.int u27_6), .val (.int u37_8), .val (.ref b9), .val (.ref b14), .val (.int (4 : Int32)), .val (.ref b92), .unset, .unset, .unset] []))) (fun t k => XS.astore X95.here hx rfl (hb hby at_97) rfl rfl (l' := #[.val (.int p0), .val (.int p1), .val (.int p2), .val (.int p3), .val (.int u7_2), .val (.int u17_4), .val (.int u27_6), .val (.int u37_8), .val (.ref b9), .val (.ref b14), .val (.int (4 : Int32)), .val (.ref b92), .unset, .unset, .unset]) rfl k) ?_
    refine OD.go (B := (T95.setTop (mkF m 101 #[.val (.int p0), .val (.int p1), .val (.int p2), .val (.int p3), .val (.int u7_2), .val (.int u17_4), .val (.int u27_6), .val (.int u37_8), .val (.ref b9), .val (.ref b14), .val (.int (4 : Int32)), .val (.ref b92), .unset, .unset, .unset] [(.ref b92)]))) (fun t k => XS.aload X95.here hx rfl (hb hby at_99) rfl rfl k) ?_
    refine OD.go (B := (T95.setTop (mkF m 103 #[.val (.int p0), .val (.int p1), .val (.int p2), .val (.int p3), .val (.int u7_2), .val (.int u17_4), .val (.int u27_6), .val (.int u37_8), .val (.ref b9), .val (.ref b14), .val (.int (4 : Int32)), .val (.ref b92), .unset, .unset, .unset] [(.int (4 : Int32)), (.ref b92)]))) (fun t k => XS.iload X95.here hx rfl (hb hby at_101) rfl k) ?_
    have f96 := (A92.keep K95)
    have f97 := ((E19.ext E92).keep K95)
    have f98 := ((V19.ext E92).keep K95 (ninS (Nat.ne_of_lt (Nat.lt_of_lt_of_le (Nat.lt_of_lt_of_le A14.lt K19.1) (Nat.le_of_eq g92.symm))) nin0))
    have f99 := ((C19.ext E92).keep K95 (ninS (Nat.ne_of_lt (Nat.lt_of_lt_of_le (Nat.lt_of_lt_of_le A14.lt K19.1) (Nat.le_of_eq g92.symm))) nin0))
    have f100 := ((A19.ext E92).keep K95 (ninS (Nat.ne_of_lt (Nat.lt_of_lt_of_le A19.lt (Nat.le_of_eq g92.symm))) nin0))
    obtain ⟨cq101, kq101, qa101, qb101, qc101⟩ := isOf hZ rfl f96
    obtain ⟨_, _, ⟨T101, L101, k101, n101⟩, -, X101, ⟨Lc101, hQ101, l101, y101, z101⟩, st101⟩ := X95.virtualBack hx (y := (⟨"com/example/querent/querent/trec/ElementReader$Element", "lineAt", "(I)I"⟩ : MethodName)) (z := (⟨"com/example/querent/querent/trec/ElementReader$Element", "lineAt", "(I)I"⟩ : MethodName)) hown (mvT hZ (Wd51 hw)) (mvT hZ (Wd52 hw)) (notFace_of_selects (args := #[]) (mvT hZ (Wd54 hw))) (mvT hZ (Wd54 hw)) (mvT hZ (Wd53 hw)) (by decide) (backOf (W := 0) (rmL4 l Z a0 hw [] b92 T95.heap h0.size (((((((((X00.ext E9).wr W10 (Nat.le_trans (Nat.le_refl _) (Nat.le_of_eq g9.symm))).wr W11 (Nat.le_trans (Nat.le_refl _) (Nat.le_of_eq g9.symm))).wr W12 (Nat.le_trans (Nat.le_refl _) (Nat.le_of_eq g9.symm))).wr W13 (Nat.le_trans (Nat.le_refl _) (Nat.le_of_eq g9.symm))).ext E14).keep K19 (allS (Nat.le_trans (Nat.le_trans (Nat.le_trans (Nat.le_trans (Nat.le_trans (Nat.le_trans (Nat.le_refl _) E9.1) (Keep.of_wr W10).1) (Keep.of_wr W11).1) (Keep.of_wr W12).1) (Keep.of_wr W13).1) (Nat.le_of_eq g14.symm)) all0)).ext E92).keep K95 (allS (Nat.le_trans (Nat.le_trans (Nat.le_trans (Nat.le_trans (Nat.le_trans (Nat.le_trans (Nat.le_trans (Nat.le_trans (Nat.le_refl _) E9.1) (Keep.of_wr W10).1) (Keep.of_wr W11).1) (Keep.of_wr W12).1) (Keep.of_wr W13).1) E14.1) K19.1) (Nat.le_of_eq g92.symm)) all0)) p0 b14 t19 kb19 u7_2 u17_4 u27_6 u37_8 f96 G1_95 G2_95 f97 f98 f99 f100 hp zc O2 P5 fm O4 rG) hZ (Wd55 hw) (Wd37 hw) (by decide) (by decide)) qa101 qc101 (g := (mkF m 103 #[.val (.int p0), .val (.int p1), .val (.int p2), .val (.int p3), .val (.int u7_2), .val (.int u17_4), .val (.int u27_6), .val (.int u37_8), .val (.ref b9), .val (.ref b14), .val (.int (4 : Int32)), .val (.ref b92), .unset, .unset, .unset] [(.int (4 : Int32)), (.ref b92)])) rfl (by rw [hml]; rfl) (Steps.refl _) (argsL := [(.int (4 : Int32))]) (rest := []) (lenOf pd5 rfl) rfl (by show 2 * 0 + _ ≤ _; exact Nat.le_of_eq rfl) (hb hby at_103) (fun _ _ => ⟨rfl, rfl, (Nat.le_of_ble_eq_true rfl), (Nat.le_of_ble_eq_true rfl)⟩)
    dsimp only [Pt.U, Pt.locs, Pt.cells, Pt.slots] at X101 l101 y101 z101 st101 hQ101
    subst l101 y101 z101
    obtain ⟨rfl, rfl, e101⟩ := hQ101
    have N101 := Fr.app N95 (Fr.nil _)
    refine OD.via (B := (T101.setTop (mkF m 106 #[.val (.int p0), .val (.int p1), .val (.int p2), .val (.int p3), .val (.int u7_2), .val (.int u17_4), .val (.int u27_6), .val (.int u37_8), .val (.ref b9), .val (.ref b14), .val (.int (4 : Int32)), .val (.ref b92), .unset, .unset, .unset] [(.int (own_st (own_st (own_st (own_st p0 u7_2) u17_4) u27_6) u37_8))]))) st101 ?_
    refine OD.go (B := (T101.setTop (mkF m 108 #[.val (.int p0), .val (.int p1), .val (.int p2), .val (.int p3), .val (.int u7_2), .val (.int u17_4), .val (.int u27_6), .val (.int u37_8), .val (.ref b9), .val (.ref b14), .val (.int (4 : Int32)), .val (.ref b92), .val (.int (own_st (own_st (own_st (own_st p0 u7_2) u17_4) u27_6) u37_8)), .unset, .unset] []))) (fun t k => XS.istore X101.here hx rfl (hb hby at_106) rfl (l' := #[.val (.int p0), .val (.int p1), .val (.int p2), .val (.int p3), .val (.int u7_2), .val (.int u17_4), .val (.int u27_6), .val (.int u37_8), .val (.ref b9), .val (.ref b14), .val (.int (4 : Int32)), .val (.ref b92), .val (.int (own_st (own_st (own_st (own_st p0 u7_2) u17_4) u27_6) u37_8)), .unset, .unset]) rfl k) ?_
    generalize hu106_102 : (own_st (own_st (own_st (own_st p0 u7_2) u17_4) u27_6) u37_8) = u106_102
    refine OD.go (B := (T101.setTop (mkF m 109 #[.val (.int p0), .val (.int p1), .val (.int p2), .val (.int p3), .val (.int u7_2), .val (.int u17_4), .val (.int u27_6), .val (.int u37_8), .val (.ref b9), .val (.ref b14), .val (.int (4 : Int32)), .val (.ref b92), .val (.int u106_102), .unset, .unset] [(.int (0 : Int32))]))) (fun t k => XS.iconst X101.here hx rfl (hb hby at_108) k) ?_
    refine OD.go (B := (T101.setTop (mkF m 111 #[.val (.int p0), .val (.int p1), .val (.int p2), .val (.int p3), .val (.int u7_2), .val (.int u17_4), .val (.int u27_6), .val (.int u37_8), .val (.ref b9), .val (.ref b14), .val (.int (4 : Int32)), .val (.ref b92), .val (.int u106_102), .val (.int (0 : Int32)), .unset] []))) (fun t k => XS.istore X101.here hx rfl (hb hby at_109) rfl (l' := #[.val (.int p0), .val (.int p1), .val (.int p2), .val (.int p3), .val (.int u7_2), .val (.int u17_4), .val (.int u27_6), .val (.int u37_8), .val (.ref b9), .val (.ref b14), .val (.int (4 : Int32)), .val (.ref b92), .val (.int u106_102), .val (.int (0 : Int32)), .unset]) rfl k) ?_
    refine OD.go (B := (T101.setTop (mkF m 113 #[.val (.int p0), .val (.int p1), .val (.int p2), .val (.int p3), .val (.int u7_2), .val (.int u17_4), .val (.int u27_6), .val (.int u37_8), .val (.ref b9), .val (.ref b14), .val (.int (4 : Int32)), .val (.ref b92), .val (.int u106_102), .val (.int (0 : Int32)), .unset] [(.int (4 : Int32))]))) (fun t k => XS.iload X101.here hx rfl (hb hby at_111) rfl k) ?_
    refine OD.go (B := (T101.setTop (mkF m 116 #[.val (.int p0), .val (.int p1), .val (.int p2), .val (.int p3), .val (.int u7_2), .val (.int u17_4), .val (.int u27_6), .val (.int u37_8), .val (.ref b9), .val (.ref b14), .val (.int (4 : Int32)), .val (.ref b92), .val (.int u106_102), .val (.int (0 : Int32)), .unset] []))) (fun t k => XS.ifNo X101.here hx rfl (hb hby at_113) rfl (by rw [if0]; exact (tlt (by decide : (0 : Int32) < (4 : Int32))).2.2.2) k) ?_
    refine OD.go (B := (T101.setTop (mkF m 118 #[.val (.int p0), .val (.int p1), .val (.int p2), .val (.int p3), .val (.int u7_2), .val (.int u17_4), .val (.int u27_6), .val (.int u37_8), .val (.ref b9), .val (.ref b14), .val (.int (4 : Int32)), .val (.ref b92), .val (.int u106_102), .val (.int (0 : Int32)), .unset] [(.int (0 : Int32))]))) (fun t k => XS.iload X101.here hx rfl (hb hby at_116) rfl k) ?_
    refine OD.go (B := (T101.setTop (mkF m 120 #[.val (.int p0), .val (.int p1), .val (.int p2), .val (.int p3), .val (.int u7_2), .val (.int u17_4), .val (.int u27_6), .val (.int u37_8), .val (.ref b9), .val (.ref b14), .val (.int (4 : Int32)), .val (.ref b92), .val (.int u106_102), .val (.int (0 : Int32)), .unset] [(.int u7_2), (.int (0 : Int32))]))) (fun t k => XS.iload X101.here hx rfl (hb hby at_118) rfl k) ?_
    obtain ⟨_, _, ⟨T103, L103, k103, n103⟩, -, X103, ⟨Lc103, hQ103, l103, y103, z103⟩, st103⟩ := Jvm.LawKit.callS X101 hx (y := (⟨"com/example/querent/querent/trec/ElementLineAtPinLaw", "nl", "(C)I"⟩ : MethodName)) hown (mvT hZ (Wd78 hw)) (mvT hZ (Wd79 hw)) (mvT hZ (Wd2 hw)) (mvT hZ (Wd80 hw)) (by decide) (backOf (W := 1) (rmN l Z a0 hw [] u7_2 T95.heap) hZ (Wd80 hw) (Wd2 hw) (by decide) (by decide)) (g := (mkF m 120 #[.val (.int p0), .val (.int p1), .val (.int p2), .val (.int p3), .val (.int u7_2), .val (.int u17_4), .val (.int u27_6), .val (.int u37_8), .val (.ref b9), .val (.ref b14), .val (.int (4 : Int32)), .val (.ref b92), .val (.int u106_102), .val (.int (0 : Int32)), .unset] [(.int u7_2), (.int (0 : Int32))])) rfl (by rw [hml]; rfl) (argsL := [(.int u7_2)]) (rest := [(.int (0 : Int32))]) (lenOf pd6 rfl) rfl (by show 2 * 0 + _ ≤ _; exact Nat.le_of_eq rfl) (hb hby at_120) (fun _ _ => ⟨rfl, e101, (Nat.le_of_ble_eq_true rfl), (Nat.le_of_ble_eq_true rfl)⟩)
    dsimp only [Pt.U, Pt.locs, Pt.cells, Pt.slots] at X103 l103 y103 z103 st103 hQ103
    subst l103 y103 z103
    obtain ⟨rfl, rfl, e103⟩ := hQ103
    have N103 := Fr.app N101 (Fr.nil _)
    refine OD.go (B := (T103.setTop (mkF m 123 #[.val (.int p0), .val (.int p1), .val (.int p2), .val (.int p3), .val (.int u7_2), .val (.int u17_4), .val (.int u27_6), .val (.int u37_8), .val (.ref b9), .val (.ref b14), .val (.int (4 : Int32)), .val (.ref b92), .val (.int u106_102), .val (.int (0 : Int32)), .unset] [(.int (own_nl u7_2)), (.int (0 : Int32))]))) st103 ?_
    refine OD.go (B := (T103.setTop (mkF m 124 #[.val (.int p0), .val (.int p1), .val (.int p2), .val (.int p3), .val (.int u7_2), .val (.int u17_4), .val (.int u27_6), .val (.int u37_8), .val (.ref b9), .val (.ref b14), .val (.int (4 : Int32)), .val (.ref b92), .val (.int u106_102), .val (.int (0 : Int32)), .unset] [(.int ((0 : Int32) + (own_nl u7_2)))]))) (fun t k => XS.iadd X103.here hx rfl (hb hby at_123) rfl k) ?_
    refine OD.go (B := (T103.setTop (mkF m 126 #[.val (.int p0), .val (.int p1), .val (.int p2), .val (.int p3), .val (.int u7_2), .val (.int u17_4), .val (.int u27_6), .val (.int u37_8), .val (.ref b9), .val (.ref b14), .val (.int (4 : Int32)), .val (.ref b92), .val (.int u106_102), .val (.int ((0 : Int32) + (own_nl u7_2))), .unset] []))) (fun t k => XS.istore X103.here hx rfl (hb hby at_124) rfl (l' := #[.val (.int p0), .val (.int p1), .val (.int p2), .val (.int p3), .val (.int u7_2), .val (.int u17_4), .val (.int u27_6), .val (.int u37_8), .val (.ref b9), .val (.ref b14), .val (.int (4 : Int32)), .val (.ref b92), .val (.int u106_102), .val (.int ((0 : Int32) + (own_nl u7_2))), .unset]) rfl k) ?_
    generalize hu124_104 : ((0 : Int32) + (own_nl u7_2)) = u124_104
    refine OD.go (B := (T103.setTop (mkF m 128 #[.val (.int p0), .val (.int p1), .val (.int p2), .val (.int p3), .val (.int u7_2), .val (.int u17_4), .val (.int u27_6), .val (.int u37_8), .val (.ref b9), .val (.ref b14), .val (.int (4 : Int32)), .val (.ref b92), .val (.int u106_102), .val (.int u124_104), .unset] [(.int (4 : Int32))]))) (fun t k => XS.iload X103.here hx rfl (hb hby at_126) rfl k) ?_
    refine OD.go (B := (T103.setTop (mkF m 129 #[.val (.int p0), .val (.int p1), .val (.int p2), .val (.int p3), .val (.int u7_2), .val (.int u17_4), .val (.int u27_6), .val (.int u37_8), .val (.ref b9), .val (.ref b14), .val (.int (4 : Int32)), .val (.ref b92), .val (.int u106_102), .val (.int u124_104), .unset] [(.int (1 : Int32)), (.int (4 : Int32))]))) (fun t k => XS.iconst X103.here hx rfl (hb hby at_128) k) ?_
    refine OD.go (B := (T103.setTop (mkF m 132 #[.val (.int p0), .val (.int p1), .val (.int p2), .val (.int p3), .val (.int u7_2), .val (.int u17_4), .val (.int u27_6), .val (.int u37_8), .val (.ref b9), .val (.ref b14), .val (.int (4 : Int32)), .val (.ref b92), .val (.int u106_102), .val (.int u124_104), .unset] []))) (fun t k => XS.icmpNo X103.here hx rfl (hb hby at_129) rfl (tlt (by decide : (1 : Int32) < (4 : Int32))).2.2.2 k) ?_
    refine OD.go (B := (T103.setTop (mkF m 134 #[.val (.int p0), .val (.int p1), .val (.int p2), .val (.int p3), .val (.int u7_2), .val (.int u17_4), .val (.int u27_6), .val (.int u37_8), .val (.ref b9), .val (.ref b14), .val (.int (4 : Int32)), .val (.ref b92), .val (.int u106_102), .val (.int u124_104), .unset] [(.int u124_104)]))) (fun t k => XS.iload X103.here hx rfl (hb hby at_132) rfl k) ?_
    refine OD.go (B := (T103.setTop (mkF m 136 #[.val (.int p0), .val (.int p1), .val (.int p2), .val (.int p3), .val (.int u7_2), .val (.int u17_4), .val (.int u27_6), .val (.int u37_8), .val (.ref b9), .val (.ref b14), .val (.int (4 : Int32)), .val (.ref b92), .val (.int u106_102), .val (.int u124_104), .unset] [(.int u17_4), (.int u124_104)]))) (fun t k => XS.iload X103.here hx rfl (hb hby at_134) rfl k) ?_
    obtain ⟨_, _, ⟨T105, L105, k105, n105⟩, -, X105, ⟨Lc105, hQ105, l105, y105, z105⟩, st105⟩ := Jvm.LawKit.callS X103 hx (y := (⟨"com/example/querent/querent/trec/ElementLineAtPinLaw", "nl", "(C)I"⟩ : MethodName)) hown (mvT hZ (Wd78 hw)) (mvT hZ (Wd79 hw)) (mvT hZ (Wd2 hw)) (mvT hZ (Wd80 hw)) (by decide) (backOf (W := 1) (rmN l Z a0 hw [] u17_4 T95.heap) hZ (Wd80 hw) (Wd2 hw) (by decide) (by decide)) (g := (mkF m 136 #[.val (.int p0), .val (.int p1), .val (.int p2), .val (.int p3), .val (.int u7_2), .val (.int u17_4), .val (.int u27_6), .val (.int u37_8), .val (.ref b9), .val (.ref b14), .val (.int (4 : Int32)), .val (.ref b92), .val (.int u106_102), .val (.int u124_104), .unset] [(.int u17_4), (.int u124_104)])) rfl (by rw [hml]; rfl) (argsL := [(.int u17_4)]) (rest := [(.int u124_104)]) (lenOf pd6 rfl) rfl (by show 2 * 0 + _ ≤ _; exact Nat.le_of_eq rfl) (hb hby at_136) (fun _ _ => ⟨rfl, e103, (Nat.le_of_ble_eq_true rfl), (Nat.le_of_ble_eq_true rfl)⟩)
    dsimp only [Pt.U, Pt.locs, Pt.cells, Pt.slots] at X105 l105 y105 z105 st105 hQ105
    subst l105 y105 z105
    obtain ⟨rfl, rfl, e105⟩ := hQ105
    have N105 := Fr.app N103 (Fr.nil _)
    refine OD.go (B := (T105.setTop (mkF m 139 #[.val (.int p0), .val (.int p1), .val (.int p2), .val (.int p3), .val (.int u7_2), .val (.int u17_4), .val (.int u27_6), .val (.int u37_8), .val (.ref b9), .val (.ref b14), .val (.int (4 : Int32)), .val (.ref b92), .val (.int u106_102), .val (.int u124_104), .unset] [(.int (own_nl u17_4)), (.int u124_104)]))) st105 ?_
    refine OD.go (B := (T105.setTop (mkF m 140 #[.val (.int p0), .val (.int p1), .val (.int p2), .val (.int p3), .val (.int u7_2), .val (.int u17_4), .val (.int u27_6), .val (.int u37_8), .val (.ref b9), .val (.ref b14), .val (.int (4 : Int32)), .val (.ref b92), .val (.int u106_102), .val (.int u124_104), .unset] [(.int (u124_104 + (own_nl u17_4)))]))) (fun t k => XS.iadd X105.here hx rfl (hb hby at_139) rfl k) ?_
    refine OD.go (B := (T105.setTop (mkF m 142 #[.val (.int p0), .val (.int p1), .val (.int p2), .val (.int p3), .val (.int u7_2), .val (.int u17_4), .val (.int u27_6), .val (.int u37_8), .val (.ref b9), .val (.ref b14), .val (.int (4 : Int32)), .val (.ref b92), .val (.int u106_102), .val (.int (u124_104 + (own_nl u17_4))), .unset] []))) (fun t k => XS.istore X105.here hx rfl (hb hby at_140) rfl (l' := #[.val (.int p0), .val (.int p1), .val (.int p2), .val (.int p3), .val (.int u7_2), .val (.int u17_4), .val (.int u27_6), .val (.int u37_8), .val (.ref b9), .val (.ref b14), .val (.int (4 : Int32)), .val (.ref b92), .val (.int u106_102), .val (.int (u124_104 + (own_nl u17_4))), .unset]) rfl k) ?_
    generalize hu140_106 : (u124_104 + (own_nl u17_4)) = u140_106
    refine OD.go (B := (T105.setTop (mkF m 144 #[.val (.int p0), .val (.int p1), .val (.int p2), .val (.int p3), .val (.int u7_2), .val (.int u17_4), .val (.int u27_6), .val (.int u37_8), .val (.ref b9), .val (.ref b14), .val (.int (4 : Int32)), .val (.ref b92), .val (.int u106_102), .val (.int u140_106), .unset] [(.int (4 : Int32))]))) (fun t k => XS.iload X105.here hx rfl (hb hby at_142) rfl k) ?_
    refine OD.go (B := (T105.setTop (mkF m 145 #[.val (.int p0), .val (.int p1), .val (.int p2), .val (.int p3), .val (.int u7_2), .val (.int u17_4), .val (.int u27_6), .val (.int u37_8), .val (.ref b9), .val (.ref b14), .val (.int (4 : Int32)), .val (.ref b92), .val (.int u106_102), .val (.int u140_106), .unset] [(.int (2 : Int32)), (.int (4 : Int32))]))) (fun t k => XS.iconst X105.here hx rfl (hb hby at_144) k) ?_
    refine OD.go (B := (T105.setTop (mkF m 148 #[.val (.int p0), .val (.int p1), .val (.int p2), .val (.int p3), .val (.int u7_2), .val (.int u17_4), .val (.int u27_6), .val (.int u37_8), .val (.ref b9), .val (.ref b14), .val (.int (4 : Int32)), .val (.ref b92), .val (.int u106_102), .val (.int u140_106), .unset] []))) (fun t k => XS.icmpNo X105.here hx rfl (hb hby at_145) rfl (tlt (by decide : (2 : Int32) < (4 : Int32))).2.2.2 k) ?_
    refine OD.go (B := (T105.setTop (mkF m 150 #[.val (.int p0), .val (.int p1), .val (.int p2), .val (.int p3), .val (.int u7_2), .val (.int u17_4), .val (.int u27_6), .val (.int u37_8), .val (.ref b9), .val (.ref b14), .val (.int (4 : Int32)), .val (.ref b92), .val (.int u106_102), .val (.int u140_106), .unset] [(.int u140_106)]))) (fun t k => XS.iload X105.here hx rfl (hb hby at_148) rfl k) ?_
    refine OD.go (B := (T105.setTop (mkF m 152 #[.val (.int p0), .val (.int p1), .val (.int p2), .val (.int p3), .val (.int u7_2), .val (.int u17_4), .val (.int u27_6), .val (.int u37_8), .val (.ref b9), .val (.ref b14), .val (.int (4 : Int32)), .val (.ref b92), .val (.int u106_102), .val (.int u140_106), .unset] [(.int u27_6), (.int u140_106)]))) (fun t k => XS.iload X105.here hx rfl (hb hby at_150) rfl k) ?_
    obtain ⟨_, _, ⟨T107, L107, k107, n107⟩, -, X107, ⟨Lc107, hQ107, l107, y107, z107⟩, st107⟩ := Jvm.LawKit.callS X105 hx (y := (⟨"com/example/querent/querent/trec/ElementLineAtPinLaw", "nl", "(C)I"⟩ : MethodName)) hown (mvT hZ (Wd78 hw)) (mvT hZ (Wd79 hw)) (mvT hZ (Wd2 hw)) (mvT hZ (Wd80 hw)) (by decide) (backOf (W := 1) (rmN l Z a0 hw [] u27_6 T95.heap) hZ (Wd80 hw) (Wd2 hw) (by decide) (by decide)) (g := (mkF m 152 #[.val (.int p0), .val (.int p1), .val (.int p2), .val (.int p3), .val (.int u7_2), .val (.int u17_4), .val (.int u27_6), .val (.int u37_8), .val (.ref b9), .val (.ref b14), .val (.int (4 : Int32)), .val (.ref b92), .val (.int u106_102), .val (.int u140_106), .unset] [(.int u27_6), (.int u140_106)])) rfl (by rw [hml]; rfl) (argsL := [(.int u27_6)]) (rest := [(.int u140_106)]) (lenOf pd6 rfl) rfl (by show 2 * 0 + _ ≤ _; exact Nat.le_of_eq rfl) (hb hby at_152) (fun _ _ => ⟨rfl, e105, (Nat.le_of_ble_eq_true rfl), (Nat.le_of_ble_eq_true rfl)⟩)
    dsimp only [Pt.U, Pt.locs, Pt.cells, Pt.slots] at X107 l107 y107 z107 st107 hQ107
    subst l107 y107 z107
    obtain ⟨rfl, rfl, e107⟩ := hQ107
    have N107 := Fr.app N105 (Fr.nil _)
    refine OD.go (B := (T107.setTop (mkF m 155 #[.val (.int p0), .val (.int p1), .val (.int p2), .val (.int p3), .val (.int u7_2), .val (.int u17_4), .val (.int u27_6), .val (.int u37_8), .val (.ref b9), .val (.ref b14), .val (.int (4 : Int32)), .val (.ref b92), .val (.int u106_102), .val (.int u140_106), .unset] [(.int (own_nl u27_6)), (.int u140_106)]))) st107 ?_
    refine OD.go (B := (T107.setTop (mkF m 156 #[.val (.int p0), .val (.int p1), .val (.int p2), .val (.int p3), .val (.int u7_2), .val (.int u17_4), .val (.int u27_6), .val (.int u37_8), .val (.ref b9), .val (.ref b14), .val (.int (4 : Int32)), .val (.ref b92), .val (.int u106_102), .val (.int u140_106), .unset] [(.int (u140_106 + (own_nl u27_6)))]))) (fun t k => XS.iadd X107.here hx rfl (hb hby at_155) rfl k) ?_
    refine OD.go (B := (T107.setTop (mkF m 158 #[.val (.int p0), .val (.int p1), .val (.int p2), .val (.int p3), .val (.int u7_2), .val (.int u17_4), .val (.int u27_6), .val (.int u37_8), .val (.ref b9), .val (.ref b14), .val (.int (4 : Int32)), .val (.ref b92), .val (.int u106_102), .val (.int (u140_106 + (own_nl u27_6))), .unset] []))) (fun t k => XS.istore X107.here hx rfl (hb hby at_156) rfl (l' := #[.val (.int p0), .val (.int p1), .val (.int p2), .val (.int p3), .val (.int u7_2), .val (.int u17_4), .val (.int u27_6), .val (.int u37_8), .val (.ref b9), .val (.ref b14), .val (.int (4 : Int32)), .val (.ref b92), .val (.int u106_102), .val (.int (u140_106 + (own_nl u27_6))), .unset]) rfl k) ?_
    generalize hu156_108 : (u140_106 + (own_nl u27_6)) = u156_108
    refine OD.go (B := (T107.setTop (mkF m 160 #[.val (.int p0), .val (.int p1), .val (.int p2), .val (.int p3), .val (.int u7_2), .val (.int u17_4), .val (.int u27_6), .val (.int u37_8), .val (.ref b9), .val (.ref b14), .val (.int (4 : Int32)), .val (.ref b92), .val (.int u106_102), .val (.int u156_108), .unset] [(.int (4 : Int32))]))) (fun t k => XS.iload X107.here hx rfl (hb hby at_158) rfl k) ?_
    refine OD.go (B := (T107.setTop (mkF m 161 #[.val (.int p0), .val (.int p1), .val (.int p2), .val (.int p3), .val (.int u7_2), .val (.int u17_4), .val (.int u27_6), .val (.int u37_8), .val (.ref b9), .val (.ref b14), .val (.int (4 : Int32)), .val (.ref b92), .val (.int u106_102), .val (.int u156_108), .unset] [(.int (3 : Int32)), (.int (4 : Int32))]))) (fun t k => XS.iconst X107.here hx rfl (hb hby at_160) k) ?_
    refine OD.go (B := (T107.setTop (mkF m 164 #[.val (.int p0), .val (.int p1), .val (.int p2), .val (.int p3), .val (.int u7_2), .val (.int u17_4), .val (.int u27_6), .val (.int u37_8), .val (.ref b9), .val (.ref b14), .val (.int (4 : Int32)), .val (.ref b92), .val (.int u106_102), .val (.int u156_108), .unset] []))) (fun t k => XS.icmpNo X107.here hx rfl (hb hby at_161) rfl (tlt (by decide : (3 : Int32) < (4 : Int32))).2.2.2 k) ?_
    refine OD.go (B := (T107.setTop (mkF m 166 #[.val (.int p0), .val (.int p1), .val (.int p2), .val (.int p3), .val (.int u7_2), .val (.int u17_4), .val (.int u27_6), .val (.int u37_8), .val (.ref b9), .val (.ref b14), .val (.int (4 : Int32)), .val (.ref b92), .val (.int u106_102), .val (.int u156_108), .unset] [(.int u156_108)]))) (fun t k => XS.iload X107.here hx rfl (hb hby at_164) rfl k) ?_
    refine OD.go (B := (T107.setTop (mkF m 168 #[.val (.int p0), .val (.int p1), .val (.int p2), .val (.int p3), .val (.int u7_2), .val (.int u17_4), .val (.int u27_6), .val (.int u37_8), .val (.ref b9), .val (.ref b14), .val (.int (4 : Int32)), .val (.ref b92), .val (.int u106_102), .val (.int u156_108), .unset] [(.int u37_8), (.int u156_108)]))) (fun t k => XS.iload X107.here hx rfl (hb hby at_166) rfl k) ?_
    obtain ⟨_, _, ⟨T109, L109, k109, n109⟩, -, X109, ⟨Lc109, hQ109, l109, y109, z109⟩, st109⟩ := Jvm.LawKit.callS X107 hx (y := (⟨"com/example/querent/querent/trec/ElementLineAtPinLaw", "nl", "(C)I"⟩ : MethodName)) hown (mvT hZ (Wd78 hw)) (mvT hZ (Wd79 hw)) (mvT hZ (Wd2 hw)) (mvT hZ (Wd80 hw)) (by decide) (backOf (W := 1) (rmN l Z a0 hw [] u37_8 T95.heap) hZ (Wd80 hw) (Wd2 hw) (by decide) (by decide)) (g := (mkF m 168 #[.val (.int p0), .val (.int p1), .val (.int p2), .val (.int p3), .val (.int u7_2), .val (.int u17_4), .val (.int u27_6), .val (.int u37_8), .val (.ref b9), .val (.ref b14), .val (.int (4 : Int32)), .val (.ref b92), .val (.int u106_102), .val (.int u156_108), .unset] [(.int u37_8), (.int u156_108)])) rfl (by rw [hml]; rfl) (argsL := [(.int u37_8)]) (rest := [(.int u156_108)]) (lenOf pd6 rfl) rfl (by show 2 * 0 + _ ≤ _; exact Nat.le_of_eq rfl) (hb hby at_168) (fun _ _ => ⟨rfl, e107, (Nat.le_of_ble_eq_true rfl), (Nat.le_of_ble_eq_true rfl)⟩)
    dsimp only [Pt.U, Pt.locs, Pt.cells, Pt.slots] at X109 l109 y109 z109 st109 hQ109
    subst l109 y109 z109
    obtain ⟨rfl, rfl, e109⟩ := hQ109
    have N109 := Fr.app N107 (Fr.nil _)
    refine OD.go (B := (T109.setTop (mkF m 171 #[.val (.int p0), .val (.int p1), .val (.int p2), .val (.int p3), .val (.int u7_2), .val (.int u17_4), .val (.int u27_6), .val (.int u37_8), .val (.ref b9), .val (.ref b14), .val (.int (4 : Int32)), .val (.ref b92), .val (.int u106_102), .val (.int u156_108), .unset] [(.int (own_nl u37_8)), (.int u156_108)]))) st109 ?_
    refine OD.go (B := (T109.setTop (mkF m 172 #[.val (.int p0), .val (.int p1), .val (.int p2), .val (.int p3), .val (.int u7_2), .val (.int u17_4), .val (.int u27_6), .val (.int u37_8), .val (.ref b9), .val (.ref b14), .val (.int (4 : Int32)), .val (.ref b92), .val (.int u106_102), .val (.int u156_108), .unset] [(.int (u156_108 + (own_nl u37_8)))]))) (fun t k => XS.iadd X109.here hx rfl (hb hby at_171) rfl k) ?_
    refine OD.go (B := (T109.setTop (mkF m 174 #[.val (.int p0), .val (.int p1), .val (.int p2), .val (.int p3), .val (.int u7_2), .val (.int u17_4), .val (.int u27_6), .val (.int u37_8), .val (.ref b9), .val (.ref b14), .val (.int (4 : Int32)), .val (.ref b92), .val (.int u106_102), .val (.int (u156_108 + (own_nl u37_8))), .unset] []))) (fun t k => XS.istore X109.here hx rfl (hb hby at_172) rfl (l' := #[.val (.int p0), .val (.int p1), .val (.int p2), .val (.int p3), .val (.int u7_2), .val (.int u17_4), .val (.int u27_6), .val (.int u37_8), .val (.ref b9), .val (.ref b14), .val (.int (4 : Int32)), .val (.ref b92), .val (.int u106_102), .val (.int (u156_108 + (own_nl u37_8))), .unset]) rfl k) ?_
    generalize hu172_110 : (u156_108 + (own_nl u37_8)) = u172_110
    refine OD.go (B := (T109.setTop (mkF m 175 #[.val (.int p0), .val (.int p1), .val (.int p2), .val (.int p3), .val (.int u7_2), .val (.int u17_4), .val (.int u27_6), .val (.int u37_8), .val (.ref b9), .val (.ref b14), .val (.int (4 : Int32)), .val (.ref b92), .val (.int u106_102), .val (.int u172_110), .unset] [(.int p0)]))) (fun t k => XS.iloadN X109.here hx rfl (hb hby at_174) rfl k) ?_
    refine OD.go (B := (T109.setTop (mkF m 177 #[.val (.int p0), .val (.int p1), .val (.int p2), .val (.int p3), .val (.int u7_2), .val (.int u17_4), .val (.int u27_6), .val (.int u37_8), .val (.ref b9), .val (.ref b14), .val (.int (4 : Int32)), .val (.ref b92), .val (.int u106_102), .val (.int u172_110), .unset] [(.int u172_110), (.int p0)]))) (fun t k => XS.iload X109.here hx rfl (hb hby at_175) rfl k) ?_
    refine OD.go (B := (T109.setTop (mkF m 178 #[.val (.int p0), .val (.int p1), .val (.int p2), .val (.int p3), .val (.int u7_2), .val (.int u17_4), .val (.int u27_6), .val (.int u37_8), .val (.ref b9), .val (.ref b14), .val (.int (4 : Int32)), .val (.ref b92), .val (.int u106_102), .val (.int u172_110), .unset] [(.int (p0 + u172_110))]))) (fun t k => XS.iadd X109.here hx rfl (hb hby at_177) rfl k) ?_
    refine OD.go (B := (T109.setTop (mkF m 180 #[.val (.int p0), .val (.int p1), .val (.int p2), .val (.int p3), .val (.int u7_2), .val (.int u17_4), .val (.int u27_6), .val (.int u37_8), .val (.ref b9), .val (.ref b14), .val (.int (4 : Int32)), .val (.ref b92), .val (.int u106_102), .val (.int u172_110), .val (.int (p0 + u172_110))] []))) (fun t k => XS.istore X109.here hx rfl (hb hby at_178) rfl (l' := #[.val (.int p0), .val (.int p1), .val (.int p2), .val (.int p3), .val (.int u7_2), .val (.int u17_4), .val (.int u27_6), .val (.int u37_8), .val (.ref b9), .val (.ref b14), .val (.int (4 : Int32)), .val (.ref b92), .val (.int u106_102), .val (.int u172_110), .val (.int (p0 + u172_110))]) rfl k) ?_
    generalize hu178_111 : (p0 + u172_110) = u178_111
    refine OD.go (B := (T109.setTop (mkF m 182 #[.val (.int p0), .val (.int p1), .val (.int p2), .val (.int p3), .val (.int u7_2), .val (.int u17_4), .val (.int u27_6), .val (.int u37_8), .val (.ref b9), .val (.ref b14), .val (.int (4 : Int32)), .val (.ref b92), .val (.int u106_102), .val (.int u172_110), .val (.int u178_111)] [(.int u106_102)]))) (fun t k => XS.iload X109.here hx rfl (hb hby at_180) rfl k) ?_
    refine OD.go (B := (T109.setTop (mkF m 184 #[.val (.int p0), .val (.int p1), .val (.int p2), .val (.int p3), .val (.int u7_2), .val (.int u17_4), .val (.int u27_6), .val (.int u37_8), .val (.ref b9), .val (.ref b14), .val (.int (4 : Int32)), .val (.ref b92), .val (.int u106_102), .val (.int u172_110), .val (.int u178_111)] [(.int u178_111), (.int u106_102)]))) (fun t k => XS.iload X109.here hx rfl (hb hby at_182) rfl k) ?_
    obtain ⟨v192_112, hv192_112⟩ : ∃ z : Int32, z = (if u106_102 = u178_111 then (1 : Int32) else (0 : Int32)) := ⟨_, rfl⟩
    refine OD.cut (B := (T109.setTop (mkF m 192 #[.val (.int p0), .val (.int p1), .val (.int p2), .val (.int p3), .val (.int u7_2), .val (.int u17_4), .val (.int u27_6), .val (.int u37_8), .val (.ref b9), .val (.ref b14), .val (.int (4 : Int32)), .val (.ref b92), .val (.int u106_102), .val (.int u172_110), .val (.int u178_111)] [(.int v192_112)]))) (fun J192_113 => ?_) ?_
    · skip
      by_cases c184_114 : u106_102 = u178_111
      · refine OD.go (B := (T109.setTop (mkF m 187 #[.val (.int p0), .val (.int p1), .val (.int p2), .val (.int p3), .val (.int u7_2), .val (.int u17_4), .val (.int u27_6), .val (.int u37_8), .val (.ref b9), .val (.ref b14), .val (.int (4 : Int32)), .val (.ref b92), .val (.int u106_102), .val (.int u172_110), .val (.int u178_111)] []))) (fun t k => XS.icmpNo X109.here hx rfl (hb hby at_184) rfl (teq c184_114).2 k) ?_
        refine OD.go (B := (T109.setTop (mkF m 188 #[.val (.int p0), .val (.int p1), .val (.int p2), .val (.int p3), .val (.int u7_2), .val (.int u17_4), .val (.int u27_6), .val (.int u37_8), .val (.ref b9), .val (.ref b14), .val (.int (4 : Int32)), .val (.ref b92), .val (.int u106_102), .val (.int u172_110), .val (.int u178_111)] [(.int (1 : Int32))]))) (fun t k => XS.iconst X109.here hx rfl (hb hby at_187) k) ?_
        refine OD.go (B := (T109.setTop (mkF m 192 #[.val (.int p0), .val (.int p1), .val (.int p2), .val (.int p3), .val (.int u7_2), .val (.int u17_4), .val (.int u27_6), .val (.int u37_8), .val (.ref b9), .val (.ref b14), .val (.int (4 : Int32)), .val (.ref b92), .val (.int u106_102), .val (.int u172_110), .val (.int u178_111)] [(.int (1 : Int32))]))) (fun t k => XS.goto X109.here hx rfl (pc0 := 188) (pc' := 192) rfl (hb hby at_188) (by decide) (by decide) k) ?_
        rw [if_pos c184_114] at hv192_112
        rw [hv192_112] at J192_113
        exact J192_113
      · refine OD.go (B := (T109.setTop (mkF m 191 #[.val (.int p0), .val (.int p1), .val (.int p2), .val (.int p3), .val (.int u7_2), .val (.int u17_4), .val (.int u27_6), .val (.int u37_8), .val (.ref b9), .val (.ref b14), .val (.int (4 : Int32)), .val (.ref b92), .val (.int u106_102), .val (.int u172_110), .val (.int u178_111)] []))) (fun t k => XS.icmpYes X109.here hx rfl (pc0 := 184) (pc' := 191) rfl (hb hby at_184) rfl (feq c184_114).2 (by decide) (by decide) k) ?_
        refine OD.go (B := (T109.setTop (mkF m 192 #[.val (.int p0), .val (.int p1), .val (.int p2), .val (.int p3), .val (.int u7_2), .val (.int u17_4), .val (.int u27_6), .val (.int u37_8), .val (.ref b9), .val (.ref b14), .val (.int (4 : Int32)), .val (.ref b92), .val (.int u106_102), .val (.int u172_110), .val (.int u178_111)] [(.int (0 : Int32))]))) (fun t k => XS.iconst X109.here hx rfl (hb hby at_191) k) ?_
        rw [if_neg c184_114] at hv192_112
        rw [hv192_112] at J192_113
        exact J192_113
    have fin : v192_112 = 1 := by
      subst hu106_102
      subst hu124_104
      subst hu140_106
      subst hu156_108
      subst hu172_110
      subst hu178_111
      rw [hv192_112, if_pos]
      simp only [own_stnl, Int32.add_assoc, Int32.zero_add, Int32.add_zero]
    rw [fin]
    exact OD.ret X109 hx hlk (t := .boolean) Bd.returns rfl (Or.inl ⟨rfl, Or.inr (Or.inl rfl), _, rfl⟩) (hb hby at_192) (Nat.le_of_ble_eq_true rfl) (Nat.le_of_ble_eq_true rfl) ⟨rfl, N109⟩
set_option maxRecDepth 65536 in
set_option maxHeartbeats 40000000 in
theorem comes_1 {Post : Tables → Env → Array Value → State → Outcome → State → Prop} (hpost : ∀ tb e args s v u, (limb_1_1.after args s (.returned v) u = true ∧ limb_1_2.after args s (.returned v) u = true ∧ True) → FrameEnd s (.returned v) u (Jvm.fieldLocs frame_1_writes args s ++ Jvm.arrayLocs frame_1_arrays args s ++ Jvm.staticLocs frame_1_statics s) 16 128 → Post tb e args s (.returned v) u) :
    ArmFor flags0 classFile x code maxLocals ret World_1 tables_1 room_1 Calls_1 rest_1 Pre_1 Post := by
  intro l hfl _ _ p e ha hc hk s m args below hf hA hF happ hP
  obtain ⟨hcalls, hrest, hpre⟩ := hP
  obtain ⟨-, -, -, hnamed, -, -, -, hat⟩ := (Spec.applies_iff hf).mp happ
  obtain ⟨hg, hn⟩ := and_e (Cond.before_iff.mp (show (Jvm.Cond.and given_1 narrow_1).before args s = true from hpre))
  obtain ⟨hg0, hr0⟩ := and_e hg
  obtain ⟨hg1, hr1⟩ := and_e hr0
  obtain ⟨hg2, hr2⟩ := and_e hr1
  obtain ⟨hg3, hr3⟩ := and_e hr2
  obtain ⟨w0, w1, w2, w3, rfl⟩ : ∃ w0 w1 w2 w3 : Value, args = #[w0, w1, w2, w3] := by
    have hs : args.size = 4 := by simpa [Cond.value, given_1] using hg0
    obtain ⟨L⟩ := args
    match L, hs with
    | [w0, w1, w2, w3], _ => exact ⟨w0, w1, w2, w3, rfl⟩
  have hw := fun d (hd : d ∈ tables_1) => atoms_spec (ws := Jvm.Cond.code x code maxLocals ret :: tables_1) hat d (List.mem_cons_of_mem _ hd)
  obtain ⟨i0, ei0⟩ := is_v hg1
  obtain rfl : w0 = (.int i0) := Option.some.inj ei0
  obtain ⟨i1, ei1⟩ := is_v hg2
  obtain rfl : w1 = (.int i1) := Option.some.inj ei1
  obtain ⟨i2, ei2⟩ := is_v hg3
  obtain rfl : w2 = (.int i2) := Option.some.inj ei2
  obtain ⟨i3, ei3⟩ := is_v hr3
  obtain rfl : w3 = (.int i3) := Option.some.inj ei3
  obtain ⟨hsets, hown0⟩ := atoms_of _ (rest_1_c_eq ▸ (show rest_1_c.before _ s = true from hrest))
  have n5 := not_v (Cond.before_iff.mp (hsets _ (List.mem_of_getElem? (i := 2) rfl)))
  obtain ⟨zc, e10⟩ := is_v (Cond.before_iff.mp (hsets _ (List.mem_of_getElem? (i := 1) rfl)))
  have S12 : Sta s s.heap "java/lang/String" "COMPACT_STRINGS" "Z" (.int zc) := Sta.start e10 (Or.inl (hsets _ (List.mem_of_getElem? (i := 0) rfl)))
  have c17 : ¬ (zc = (0 : Int32)) := gotF (Cond.eq_ints e10 (Term.int_eval (0))) n5
  obtain ⟨fm, e14, r15⟩ := isR_v (Cond.before_iff.mp (hsets _ (List.mem_of_getElem? (i := 8) rfl)))
  have S16 : Sta s s.heap "jdk/internal/util/Preconditions" "SIOOBE_FORMATTER" "Ljava/util/function/BiFunction;" fm := Sta.start e14 (Or.inl (hsets _ (List.mem_of_getElem? (i := 7) rfl)))
  obtain ⟨n, o, h1, h2, h3, _, L, rfl, ⟨rfl, N⟩, hq⟩ := rm0 l s _ hw tables_1 i0 i1 i2 i3 s.heap (Old.start s) zc S12 c17 fm S16 r15 p e ha hc hk s m _ below hf ((Spec.applies_iff_loose hf).mp happ).1 ⟨rfl, State.Warmed39.refl s, rfl⟩ trivial
  refine ⟨n, _, h1, h2, h3, hpost _ _ _ _ _ _ ⟨Cond.after_iff.mpr rfl, Cond.after_iff.mpr (eq_i res_at (Term.int_eval (1)) rfl), trivial⟩ ⟨hq.1, hq.2.1, (hq.2.2.sift fun y hy => Or.inr (N y hy)).mono (by decide) (by decide)⟩⟩
theorem main_1_1 : Claimed_1_1 := comes_1 fun _ _ _ _ _ _ h hF => ⟨h.1, hF⟩
theorem main_1_2 : Claimed_1_2 := comes_1 fun _ _ _ _ _ _ h hF => ⟨h.2.1, hF⟩
end Jvm.Pilot.@@N@@
namespace Jvm.Pilot.@@N@@
open Jvm Jvm.ClassFile Sem Op Lib Jvm.Free Jvm.Stand Jvm.Pilot.@@N@@.Jvm.D
/-! MADE BY PROGRAM (witnessworld.py) out of the Statement's table words and the real class files: 21 classes; the members and pool entries that the words name. The judged class is class 1, her method 3. -/
namespace start1
open Jvm.ClassFile
def u (s : String) : CpInfo := .utf8 (stringToUtf16 s)
/-- a pool by its gaps: so many unusable entries, then the entry; so many at the end -/
def gap : Nat → List CpInfo → List CpInfo
  | 0, r => r
  | n + 1, r => .unusable :: gap n r
def poolList (es : List (Nat × CpInfo)) (last : Nat) : List CpInfo := es.foldr (fun e r => gap e.1 (e.2 :: r)) (gap last [])
def pool (es : List (Nat × CpInfo)) (last : Nat) : Array CpInfo := ⟨poolList es last⟩
def fileOf (pool : Array CpInfo) (this : Nat) (attrs : Array Attribute := #[]) (ms : Array MethodInfo := #[]) (fl : Nat := 33) (sup : Nat := 0) (ifs : Array Nat := #[]) (fds : Array FieldInfo := #[]) : ClassFile where
  minorVersion := 0
  majorVersion := 65
  constantPool := pool
  accessFlags := fl
  thisClass := this
  superClass := sup
  interfaces := ifs
  fields := fds
  methods := ms
  attributes := attrs
def plain (name : String) (sup : Option ClassId) : Class where
  name := name
  kind := .ordinary
  loader := none
  accessFlags := 33
  super := sup
  interfaces := #[]
  cf := none
  fields := #[]
  methods := #[]
  instanceTypes := #[]
  staticTypes := #[]
  resolved := #[]
  callSites := []
  init := .initialized
  statics := none
  mirror := none

def pool0 : Array CpInfo := pool [(5, u "<init>"), (0, u "()V"), (1, .class_ 10), (1, u "java/lang/Object")] 113

def k0c0 : Code := { maxStack := 0, maxLocals := 1, code := object_method_1_code, exceptionTable := #[], attributes := #[] }
def k0m0 : Method := { name := "<init>", desc := "()V", sig := { parameters := [], returnType := none }, accessFlags := 1, code := some k0c0 }
/-- java/lang/Object -/
def k0 : Class := { plain "java/lang/Object" none with
  accessFlags := 33
  interfaces := #[]
  cf := some (fileOf pool0 8 #[] #[{ accessFlags := 1, nameIndex := 5, descriptorIndex := 6, attributes := #[] }] 33 0 #[] #[])
  fields := #[]
  methods := #[k0m0]
  instanceTypes := #[]
  staticTypes := #[]
  resolved := Array.replicate 124 none
  statics := none }

def pool1 : Array CpInfo := pool [(2, .class_ 4), (1, u "java/lang/Object"), (0, u "<init>"), (0, u "()V"), (0, .methodref 8 9), (0, .class_ 10), (0, .nameAndType 11 12), (0, u "com/example/querent/querent/trec/ElementLineAtPinLaw"), (0, u "pick"), (0, u "(IIII)C"), (0, .class_ 14), (0, u "java/lang/String"), (0, .methodref 13 16), (0, .nameAndType 5 17), (0, u "([C)V"), (0, .integer 2147483647), (0, .class_ 20), (0, u "com/example/querent/querent/trec/ElementReader$Element"), (0, .methodref 19 22), (0, .nameAndType 5 23), (0, u "(Ljava/lang/String;I)V"), (0, .methodref 19 25), (0, .nameAndType 26 27), (0, u "lineAt"), (0, u "(I)I"), (0, .methodref 8 29), (0, .nameAndType 30 31), (0, u "nl"), (0, u "(C)I"), (3, u "law"), (0, u "(IIII)Z")] 8

def k1m0 : Method := { name := "<init>", desc := "()V", sig := { parameters := [], returnType := none }, accessFlags := 2, code := none }
def k1c1 : Code := { maxStack := 2, maxLocals := 4, code := method_2_code, exceptionTable := #[], attributes := #[] }
def k1m1 : Method := { name := "pick", desc := "(IIII)C", sig := { parameters := [.int, .int, .int, .int], returnType := some .char }, accessFlags := 10, code := some k1c1 }
def k1c2 : Code := { maxStack := 2, maxLocals := 1, code := method_3_code, exceptionTable := #[], attributes := #[] }
def k1m2 : Method := { name := "nl", desc := "(C)I", sig := { parameters := [.char], returnType := some .int }, accessFlags := 10, code := some k1c2 }
def k1c3 : Code := { maxStack := 4, maxLocals := 15, code := code, exceptionTable := #[], attributes := #[] }
def k1m3 : Method := { name := "law", desc := "(IIII)Z", sig := { parameters := [.int, .int, .int, .int], returnType := some .boolean }, accessFlags := 9, code := some k1c3 }
/-- com/example/querent/querent/trec/ElementLineAtPinLaw -/
def k1 : Class := { plain "com/example/querent/querent/trec/ElementLineAtPinLaw" (some 0) with
  accessFlags := 49
  interfaces := #[]
  cf := some (fileOf pool1 8 #[] #[{ accessFlags := 2, nameIndex := 5, descriptorIndex := 6, attributes := #[] }, { accessFlags := 10, nameIndex := 11, descriptorIndex := 12, attributes := #[] }, { accessFlags := 10, nameIndex := 30, descriptorIndex := 31, attributes := #[] }, { accessFlags := 9, nameIndex := 35, descriptorIndex := 36, attributes := #[] }] 49 2 #[] #[])
  fields := #[]
  methods := #[k1m0, k1m1, k1m2, k1m3]
  instanceTypes := #[]
  staticTypes := #[]
  resolved := Array.replicate 45 none
  statics := none }

def pool2 : Array CpInfo := pool [(1, .class_ 2), (0, u "java/io/Serializable"), (0, .class_ 4), (0, u "java/lang/Object")] 2

/-- java/io/Serializable -/
def k2 : Class := { plain "java/io/Serializable" (some 0) with
  accessFlags := 1537
  interfaces := #[]
  cf := some (fileOf pool2 1 #[] #[] 1537 3 #[] #[])
  fields := #[]
  methods := #[]
  instanceTypes := #[]
  staticTypes := #[]
  resolved := Array.replicate 7 none
  statics := none }

def pool3 : Array CpInfo := pool [(1, .class_ 2), (0, u "java/lang/Comparable"), (0, .class_ 4), (0, u "java/lang/Object")] 7

/-- java/lang/Comparable -/
def k3 : Class := { plain "java/lang/Comparable" (some 0) with
  accessFlags := 1537
  interfaces := #[]
  cf := some (fileOf pool3 1 #[] #[] 1537 3 #[] #[])
  fields := #[]
  methods := #[]
  instanceTypes := #[]
  staticTypes := #[]
  resolved := Array.replicate 12 none
  statics := none }

def pool4 : Array CpInfo := pool [(2, .class_ 4), (1, u "java/lang/CharSequence"), (42, .class_ 48), (0, u "java/lang/CharSequence$1CodePointIterator"), (10, .class_ 60), (0, u "java/lang/CharSequence$1CharIterator"), (5, .class_ 67), (0, u "java/lang/Object")] 63

/-- java/lang/CharSequence -/
def k4 : Class := { plain "java/lang/CharSequence" (some 0) with
  accessFlags := 1537
  interfaces := #[]
  cf := some (fileOf pool4 2 #[.nestMembers #[47, 59]] #[] 1537 66 #[] #[])
  fields := #[]
  methods := #[]
  instanceTypes := #[]
  staticTypes := #[]
  resolved := Array.replicate 131 none
  statics := none }

def pool5 : Array CpInfo := pool [(1, .class_ 2), (0, u "java/lang/constant/Constable"), (0, .class_ 4), (0, u "java/lang/Object")] 6

/-- java/lang/constant/Constable -/
def k5 : Class := { plain "java/lang/constant/Constable" (some 0) with
  accessFlags := 1537
  interfaces := #[]
  cf := some (fileOf pool5 1 #[] #[] 1537 3 #[] #[])
  fields := #[]
  methods := #[]
  instanceTypes := #[]
  staticTypes := #[]
  resolved := Array.replicate 11 none
  statics := none }

def pool6 : Array CpInfo := pool [(1, .class_ 2), (0, u "java/lang/constant/ConstantDesc"), (0, .class_ 4), (0, u "java/lang/Object")] 32

/-- java/lang/constant/ConstantDesc -/
def k6 : Class := { plain "java/lang/constant/ConstantDesc" (some 0) with
  accessFlags := 1537
  interfaces := #[]
  cf := some (fileOf pool6 1 #[] #[] 1537 3 #[] #[])
  fields := #[]
  methods := #[]
  instanceTypes := #[]
  staticTypes := #[]
  resolved := Array.replicate 37 none
  statics := none }

def pool7 : Array CpInfo := pool [(1, .methodref 2 3), (0, .class_ 4), (0, .nameAndType 5 6), (0, u "java/lang/Object"), (0, u "<init>"), (0, u "()V"), (2, .fieldref 10 11), (0, .class_ 12), (0, .nameAndType 13 14), (0, u "java/lang/String"), (0, u "value"), (0, u "[B"), (0, .fieldref 10 16), (0, .nameAndType 17 18), (0, u "coder"), (0, u "B"), (2, u "hash"), (0, u "I"), (2, u "hashIsZero"), (0, u "Z"), (0, .methodref 10 28), (0, .nameAndType 5 29), (0, u "([CIILjava/lang/Void;)V"), (8, .fieldref 10 39), (0, .nameAndType 40 26), (0, u "COMPACT_STRINGS"), (1, .class_ 44), (1, u "java/lang/StringUTF16"), (0, u "compress"), (1, .methodref 42 48), (0, .nameAndType 49 50), (0, u "coderFromArrayLen"), (0, u "([BI)B"), (56, .class_ 109), (1, u "java/lang/StringLatin1"), (32, u "()Z"), (34, .methodref 42 178), (0, .nameAndType 45 179), (0, u "([CII)[B"), (183, u "([BI)C"), (27, u "(II)V"), (35, u "(I)C"), (64, .methodref 10 493), (0, .nameAndType 494 142), (0, u "isLatin1"), (0, .methodref 107 496), (0, .nameAndType 497 363), (0, u "charAt"), (3, u "checkIndex"), (73, .class_ 576), (0, u "java/lang/CharSequence"), (22, u "CASE_INSENSITIVE_ORDER"), (0, u "Ljava/util/Comparator;"), (409, u "([C)V"), (42, .fieldref 1054 1055), (0, .class_ 1056), (0, .nameAndType 1057 1058), (0, u "jdk/internal/util/Preconditions"), (0, u "SIOOBE_FORMATTER"), (0, u "Ljava/util/function/BiFunction;"), (0, .methodref 1054 1060), (0, .nameAndType 501 1061), (0, u "(IILjava/util/function/BiFunction;)I"), (39, u "serialPersistentFields"), (0, u "[Ljava/io/ObjectStreamField;"), (0, .class_ 1104), (0, u "java/lang/String$CaseInsensitiveComparator"), (1, .class_ 1107), (0, u "java/io/Serializable"), (0, .class_ 1109), (0, u "java/lang/Comparable"), (0, .class_ 1111), (0, u "java/lang/constant/Constable"), (0, .class_ 1113), (0, u "java/lang/constant/ConstantDesc"), (2, u "serialVersionUID"), (0, u "J"), (3, u "REPL"), (0, u "C"), (2, u "LATIN1"), (1, u "UTF16")] 323

def k7m0 : Method := { name := "<init>", desc := "()V", sig := { parameters := [], returnType := none }, accessFlags := 1, code := none }
def k7c1 : Code := { maxStack := 5, maxLocals := 2, code := jdk_42_method_3_code, exceptionTable := #[], attributes := #[] }
def k7m1 : Method := { name := "<init>", desc := "([C)V", sig := { parameters := [(.array .char)], returnType := none }, accessFlags := 1, code := some k7c1 }
def k7c2 : Code := { maxStack := 2, maxLocals := 2, code := jdk_42_method_56_code, exceptionTable := #[], attributes := #[] }
def k7m2 : Method := { name := "charAt", desc := "(I)C", sig := { parameters := [.int], returnType := some .char }, accessFlags := 1, code := some k7c2 }
def k7c3 : Code := { maxStack := 4, maxLocals := 6, code := jdk_42_method_149_code, exceptionTable := #[], attributes := #[] }
def k7m3 : Method := { name := "<init>", desc := "([CIILjava/lang/Void;)V", sig := { parameters := [(.array .char), .int, .int, (.object "java/lang/Void")], returnType := none }, accessFlags := 2, code := some k7c3 }
def k7c4 : Code := { maxStack := 1, maxLocals := 1, code := jdk_42_method_154_code, exceptionTable := #[], attributes := #[] }
def k7m4 : Method := { name := "isLatin1", desc := "()Z", sig := { parameters := [], returnType := some .boolean }, accessFlags := 0, code := some k7c4 }
def k7c5 : Code := { maxStack := 3, maxLocals := 2, code := jdk_42_method_155_code, exceptionTable := #[], attributes := #[] }
def k7m5 : Method := { name := "checkIndex", desc := "(II)V", sig := { parameters := [.int, .int], returnType := none }, accessFlags := 8, code := some k7c5 }
/-- java/lang/String -/
def k7 : Class := { plain "java/lang/String" (some 0) with
  accessFlags := 49
  interfaces := #[2, 3, 4, 5, 6]
  cf := some (fileOf pool7 10 #[.nestMembers #[1103]] #[{ accessFlags := 1, nameIndex := 5, descriptorIndex := 6, attributes := #[] }, { accessFlags := 1, nameIndex := 5, descriptorIndex := 1010, attributes := #[] }, { accessFlags := 1, nameIndex := 497, descriptorIndex := 427, attributes := #[] }, { accessFlags := 2, nameIndex := 5, descriptorIndex := 29, attributes := #[] }, { accessFlags := 0, nameIndex := 494, descriptorIndex := 142, attributes := #[] }, { accessFlags := 8, nameIndex := 501, descriptorIndex := 391, attributes := #[] }] 49 2 #[1106, 1108, 575, 1110, 1112] #[{ accessFlags := 18, nameIndex := 13, descriptorIndex := 14, attributes := #[] }, { accessFlags := 18, nameIndex := 17, descriptorIndex := 18, attributes := #[] }, { accessFlags := 2, nameIndex := 21, descriptorIndex := 22, attributes := #[] }, { accessFlags := 2, nameIndex := 25, descriptorIndex := 26, attributes := #[] }, { accessFlags := 26, nameIndex := 1116, descriptorIndex := 1117, attributes := #[] }, { accessFlags := 24, nameIndex := 40, descriptorIndex := 26, attributes := #[] }, { accessFlags := 26, nameIndex := 1101, descriptorIndex := 1102, attributes := #[] }, { accessFlags := 26, nameIndex := 1121, descriptorIndex := 1122, attributes := #[] }, { accessFlags := 25, nameIndex := 599, descriptorIndex := 600, attributes := #[] }, { accessFlags := 24, nameIndex := 1125, descriptorIndex := 18, attributes := #[] }, { accessFlags := 24, nameIndex := 1127, descriptorIndex := 18, attributes := #[] }])
  fields := #[{ name := "value", type := (.array .byte), accessFlags := 18, slot := 0, constantValue := 0 }, { name := "coder", type := .byte, accessFlags := 18, slot := 1, constantValue := 0 }, { name := "hash", type := .int, accessFlags := 2, slot := 2, constantValue := 0 }, { name := "hashIsZero", type := .boolean, accessFlags := 2, slot := 3, constantValue := 0 }, { name := "serialVersionUID", type := .long, accessFlags := 26, slot := 0, constantValue := 0 }, { name := "COMPACT_STRINGS", type := .boolean, accessFlags := 24, slot := 1, constantValue := 0 }, { name := "serialPersistentFields", type := (.array (.object "java/io/ObjectStreamField")), accessFlags := 26, slot := 2, constantValue := 0 }, { name := "REPL", type := .char, accessFlags := 26, slot := 3, constantValue := 0 }, { name := "CASE_INSENSITIVE_ORDER", type := (.object "java/util/Comparator"), accessFlags := 25, slot := 4, constantValue := 0 }, { name := "LATIN1", type := .byte, accessFlags := 24, slot := 5, constantValue := 0 }, { name := "UTF16", type := .byte, accessFlags := 24, slot := 6, constantValue := 0 }]
  methods := #[k7m0, k7m1, k7m2, k7m3, k7m4, k7m5]
  instanceTypes := #[(.array .byte), .byte, .int, .boolean]
  staticTypes := #[.long, .boolean, (.array (.object "java/io/ObjectStreamField")), .char, (.object "java/util/Comparator"), .byte, .byte]
  resolved := Array.replicate 1451 none
  statics := some 0 }

def pool8 : Array CpInfo := pool [(6, .class_ 8), (1, u "java/lang/Object"), (0, u "<init>"), (0, u "()V"), (1, .class_ 14), (1, u "java/lang/StringUTF16"), (31, u "$assertionsDisabled"), (0, u "Z"), (13, u "HI_BYTE_SHIFT"), (0, u "I"), (2, u "LO_BYTE_SHIFT"), (49, .methodref 12 116), (0, .nameAndType 117 118), (0, u "compress"), (0, u "([CI[BII)I"), (3, u "([CII)[B"), (138, u "coderFromArrayLen"), (0, u "([BI)B"), (106, .class_ 371), (1, u "java/lang/StringUTF16$LinesSpliterator"), (58, u "MAX_LENGTH"), (196, .class_ 628), (0, u "java/lang/StringUTF16$CodePointsSpliterator"), (0, .class_ 630), (0, u "java/lang/StringUTF16$CharsSpliterator")] 4

def k8m0 : Method := { name := "<init>", desc := "()V", sig := { parameters := [], returnType := none }, accessFlags := 0, code := none }
def k8c1 : Code := { maxStack := 2, maxLocals := 2, code := jdk_52_method_15_code, exceptionTable := #[], attributes := #[] }
def k8m1 : Method := { name := "coderFromArrayLen", desc := "([BI)B", sig := { parameters := [(.array .byte), .int], returnType := some .byte }, accessFlags := 8, code := some k8c1 }
def k8c2 : Code := { maxStack := 5, maxLocals := 6, code := jdk_52_method_16_code, exceptionTable := #[], attributes := #[] }
def k8m2 : Method := { name := "compress", desc := "([CII)[B", sig := { parameters := [(.array .char), .int, .int], returnType := some (.array .byte) }, accessFlags := 9, code := some k8c2 }
def k8c3 : Code := { maxStack := 3, maxLocals := 7, code := jdk_52_method_21_code, exceptionTable := #[], attributes := #[] }
def k8m3 : Method := { name := "compress", desc := "([CI[BII)I", sig := { parameters := [(.array .char), .int, (.array .byte), .int, .int], returnType := some .int }, accessFlags := 9, code := some k8c3 }
/-- java/lang/StringUTF16 -/
def k8 : Class := { plain "java/lang/StringUTF16" (some 0) with
  accessFlags := 48
  interfaces := #[]
  cf := some (fileOf pool8 12 #[.nestMembers #[627, 629, 369]] #[{ accessFlags := 0, nameIndex := 9, descriptorIndex := 10, attributes := #[] }, { accessFlags := 8, nameIndex := 261, descriptorIndex := 262, attributes := #[] }, { accessFlags := 9, nameIndex := 117, descriptorIndex := 122, attributes := #[] }, { accessFlags := 9, nameIndex := 117, descriptorIndex := 118, attributes := #[] }] 48 6 #[] #[{ accessFlags := 26, nameIndex := 61, descriptorIndex := 62, attributes := #[] }, { accessFlags := 26, nameIndex := 65, descriptorIndex := 62, attributes := #[] }, { accessFlags := 24, nameIndex := 430, descriptorIndex := 62, attributes := #[] }, { accessFlags := 4120, nameIndex := 46, descriptorIndex := 47, attributes := #[] }])
  fields := #[{ name := "HI_BYTE_SHIFT", type := .int, accessFlags := 26, slot := 0, constantValue := 0 }, { name := "LO_BYTE_SHIFT", type := .int, accessFlags := 26, slot := 1, constantValue := 0 }, { name := "MAX_LENGTH", type := .int, accessFlags := 24, slot := 2, constantValue := 0 }, { name := "$assertionsDisabled", type := .boolean, accessFlags := 4120, slot := 3, constantValue := 0 }]
  methods := #[k8m0, k8m1, k8m2, k8m3]
  instanceTypes := #[]
  staticTypes := #[.int, .int, .int, .boolean]
  resolved := Array.replicate 635 none
  statics := none }

def pool9 : Array CpInfo := pool [(1, .methodref 2 3), (0, .class_ 4), (0, .nameAndType 5 6), (0, u "java/lang/Object"), (0, u "<init>"), (0, u "()V"), (0, .class_ 8), (0, u "java/lang/Record")] 13

def k9c0 : Code := { maxStack := 1, maxLocals := 1, code := jdk_30_method_1_code, exceptionTable := #[], attributes := #[] }
def k9m0 : Method := { name := "<init>", desc := "()V", sig := { parameters := [], returnType := none }, accessFlags := 4, code := some k9c0 }
/-- java/lang/Record -/
def k9 : Class := { plain "java/lang/Record" (some 0) with
  accessFlags := 1057
  interfaces := #[]
  cf := some (fileOf pool9 7 #[] #[{ accessFlags := 4, nameIndex := 5, descriptorIndex := 6, attributes := #[] }] 1057 2 #[] #[])
  fields := #[]
  methods := #[k9m0]
  instanceTypes := #[]
  staticTypes := #[]
  resolved := Array.replicate 22 none
  statics := none }

def pool10 : Array CpInfo := pool [(1, .methodref 2 3), (0, .class_ 4), (0, .nameAndType 5 6), (0, u "java/lang/Record"), (0, u "<init>"), (0, u "()V"), (0, .fieldref 8 9), (0, .class_ 10), (0, .nameAndType 11 12), (0, u "com/example/querent/querent/trec/ElementReader$Element"), (0, u "body"), (0, u "Ljava/lang/String;"), (0, .fieldref 8 14), (0, .nameAndType 15 16), (0, u "line"), (0, u "I"), (0, .methodref 18 19), (0, .class_ 20), (0, .nameAndType 21 22), (0, u "java/lang/String"), (0, u "charAt"), (0, u "(I)C"), (12, u "(Ljava/lang/String;I)V"), (3, u "lineAt"), (0, u "(I)I"), (7, .class_ 49), (0, u "com/example/querent/querent/trec/ElementReader")] 20

def k10c0 : Code := { maxStack := 2, maxLocals := 3, code := prog_27_method_1_code, exceptionTable := #[], attributes := #[] }
def k10m0 : Method := { name := "<init>", desc := "(Ljava/lang/String;I)V", sig := { parameters := [(.object "java/lang/String"), .int], returnType := none }, accessFlags := 0, code := some k10c0 }
def k10c1 : Code := { maxStack := 2, maxLocals := 4, code := prog_27_method_2_code, exceptionTable := #[], attributes := #[] }
def k10m1 : Method := { name := "lineAt", desc := "(I)I", sig := { parameters := [.int], returnType := some .int }, accessFlags := 0, code := some k10c1 }
/-- com/example/querent/querent/trec/ElementReader$Element -/
def k10 : Class := { plain "com/example/querent/querent/trec/ElementReader$Element" (some 9) with
  accessFlags := 48
  interfaces := #[]
  cf := some (fileOf pool10 8 #[.nestHost 48] #[{ accessFlags := 0, nameIndex := 5, descriptorIndex := 35, attributes := #[] }, { accessFlags := 0, nameIndex := 39, descriptorIndex := 40, attributes := #[] }] 48 2 #[] #[{ accessFlags := 18, nameIndex := 11, descriptorIndex := 12, attributes := #[] }, { accessFlags := 18, nameIndex := 15, descriptorIndex := 16, attributes := #[] }])
  fields := #[{ name := "body", type := (.object "java/lang/String"), accessFlags := 18, slot := 0, constantValue := 0 }, { name := "line", type := .int, accessFlags := 18, slot := 1, constantValue := 0 }]
  methods := #[k10m0, k10m1]
  instanceTypes := #[(.object "java/lang/String"), .int]
  staticTypes := #[]
  resolved := Array.replicate 70 none
  statics := none }

def pool11 : Array CpInfo := pool [(1, .class_ 2), (0, u "java/lang/String"), (1, .class_ 6), (1, u "java/lang/Object"), (0, u "<init>"), (0, u "()V"), (0, .methodref 1 10), (0, .nameAndType 11 12), (0, u "checkIndex"), (0, u "(II)V"), (1, .class_ 16), (1, u "java/lang/StringLatin1"), (36, u "([BI)C"), (67, u "$assertionsDisabled"), (0, u "Z"), (98, .class_ 223), (1, u "java/lang/StringLatin1$LinesSpliterator"), (28, u "charAt"), (137, .class_ 391), (0, u "java/lang/StringLatin1$CharsSpliterator")] 3

def k11m0 : Method := { name := "<init>", desc := "()V", sig := { parameters := [], returnType := none }, accessFlags := 0, code := none }
def k11c1 : Code := { maxStack := 2, maxLocals := 2, code := jdk_43_method_2_code, exceptionTable := #[], attributes := #[] }
def k11m1 : Method := { name := "charAt", desc := "([BI)C", sig := { parameters := [(.array .byte), .int], returnType := some .char }, accessFlags := 9, code := some k11c1 }
/-- java/lang/StringLatin1 -/
def k11 : Class := { plain "java/lang/StringLatin1" (some 0) with
  accessFlags := 48
  interfaces := #[]
  cf := some (fileOf pool11 14 #[.nestMembers #[390, 221]] #[{ accessFlags := 0, nameIndex := 7, descriptorIndex := 8, attributes := #[] }, { accessFlags := 9, nameIndex := 252, descriptorIndex := 53, attributes := #[] }] 48 4 #[] #[{ accessFlags := 4120, nameIndex := 121, descriptorIndex := 122, attributes := #[] }])
  fields := #[{ name := "$assertionsDisabled", type := .boolean, accessFlags := 4120, slot := 0, constantValue := 0 }]
  methods := #[k11m0, k11m1]
  instanceTypes := #[]
  staticTypes := #[.boolean]
  resolved := Array.replicate 395 none
  statics := none }

def pool12 : Array CpInfo := pool [(2, .class_ 4), (1, u "java/lang/Object"), (0, u "<init>"), (0, u "()V"), (17, .class_ 26), (1, u "jdk/internal/util/Preconditions"), (6, u "checkIndex"), (21, .class_ 56), (0, u "jdk/internal/util/Preconditions$4"), (57, .class_ 115), (0, u "jdk/internal/util/Preconditions$1"), (7, u "SIOOBE_FORMATTER"), (0, u "Ljava/util/function/BiFunction;"), (0, .class_ 126), (0, u "jdk/internal/util/Preconditions$2"), (3, u "AIOOBE_FORMATTER"), (0, .class_ 132), (0, u "jdk/internal/util/Preconditions$3"), (3, u "IOOBE_FORMATTER"), (41, u "(IILjava/util/function/BiFunction;)I")] 15

def k12m0 : Method := { name := "<init>", desc := "()V", sig := { parameters := [], returnType := none }, accessFlags := 1, code := none }
def k12c1 : Code := { maxStack := 3, maxLocals := 3, code := jdk_41_method_11_code, exceptionTable := #[], attributes := #[] }
def k12m1 : Method := { name := "checkIndex", desc := "(IILjava/util/function/BiFunction;)I", sig := { parameters := [.int, .int, (.object "java/util/function/BiFunction")], returnType := some .int }, accessFlags := 9, code := some k12c1 }
/-- jdk/internal/util/Preconditions -/
def k12 : Class := { plain "jdk/internal/util/Preconditions" (some 0) with
  accessFlags := 33
  interfaces := #[]
  cf := some (fileOf pool12 24 #[.nestMembers #[55, 131, 125, 114]] #[{ accessFlags := 1, nameIndex := 5, descriptorIndex := 6, attributes := #[] }, { accessFlags := 9, nameIndex := 33, descriptorIndex := 178, attributes := #[] }] 33 2 #[] #[{ accessFlags := 25, nameIndex := 123, descriptorIndex := 124, attributes := #[] }, { accessFlags := 25, nameIndex := 130, descriptorIndex := 124, attributes := #[] }, { accessFlags := 25, nameIndex := 136, descriptorIndex := 124, attributes := #[] }])
  fields := #[{ name := "SIOOBE_FORMATTER", type := (.object "java/util/function/BiFunction"), accessFlags := 25, slot := 0, constantValue := 0 }, { name := "AIOOBE_FORMATTER", type := (.object "java/util/function/BiFunction"), accessFlags := 25, slot := 1, constantValue := 0 }, { name := "IOOBE_FORMATTER", type := (.object "java/util/function/BiFunction"), accessFlags := 25, slot := 2, constantValue := 0 }]
  methods := #[k12m0, k12m1]
  instanceTypes := #[]
  staticTypes := #[(.object "java/util/function/BiFunction"), (.object "java/util/function/BiFunction"), (.object "java/util/function/BiFunction")]
  resolved := Array.replicate 194 none
  statics := some 1 }

def pool13 : Array CpInfo := pool [(9, u "<init>"), (6, .class_ 18), (1, u "java/lang/Object"), (0, u "()V"), (1, .class_ 23), (1, u "jdk/internal/util/ArraysSupport"), (0, u "LOG2_ARRAY_LONG_INDEX_SCALE"), (0, u "I"), (2, u "U"), (0, u "Ljdk/internal/misc/Unsafe;"), (8, u "BIG_ENDIAN"), (0, u "Z"), (8, u "LOG2_BYTE_BIT_SIZE"), (4, u "LOG2_ARRAY_INT_INDEX_SCALE"), (54, u "JLA"), (0, u "Ljdk/internal/access/JavaLangAccess;"), (11, u "LOG2_ARRAY_BOOLEAN_INDEX_SCALE"), (9, u "LOG2_ARRAY_BYTE_INDEX_SCALE"), (5, u "LOG2_ARRAY_CHAR_INDEX_SCALE"), (5, u "LOG2_ARRAY_SHORT_INDEX_SCALE"), (18, u "LOG2_ARRAY_FLOAT_INDEX_SCALE"), (24, u "LOG2_ARRAY_DOUBLE_INDEX_SCALE"), (89, u "T_BOOLEAN"), (2, u "T_CHAR"), (1, u "T_FLOAT"), (1, u "T_DOUBLE"), (1, u "T_BYTE"), (1, u "T_SHORT"), (1, u "T_INT"), (1, u "T_LONG"), (1, u "SOFT_MAX_ARRAY_LENGTH")] 83

def k13m0 : Method := { name := "<init>", desc := "()V", sig := { parameters := [], returnType := none }, accessFlags := 2, code := none }
/-- jdk/internal/util/ArraysSupport -/
def k13 : Class := { plain "jdk/internal/util/ArraysSupport" (some 0) with
  accessFlags := 33
  interfaces := #[]
  cf := some (fileOf pool13 21 #[] #[{ accessFlags := 2, nameIndex := 9, descriptorIndex := 19, attributes := #[] }] 33 16 #[] #[{ accessFlags := 24, nameIndex := 28, descriptorIndex := 29, attributes := #[] }, { accessFlags := 26, nameIndex := 38, descriptorIndex := 39, attributes := #[] }, { accessFlags := 25, nameIndex := 121, descriptorIndex := 25, attributes := #[] }, { accessFlags := 25, nameIndex := 131, descriptorIndex := 25, attributes := #[] }, { accessFlags := 25, nameIndex := 137, descriptorIndex := 25, attributes := #[] }, { accessFlags := 25, nameIndex := 143, descriptorIndex := 25, attributes := #[] }, { accessFlags := 25, nameIndex := 53, descriptorIndex := 25, attributes := #[] }, { accessFlags := 25, nameIndex := 24, descriptorIndex := 25, attributes := #[] }, { accessFlags := 25, nameIndex := 162, descriptorIndex := 25, attributes := #[] }, { accessFlags := 25, nameIndex := 187, descriptorIndex := 25, attributes := #[] }, { accessFlags := 26, nameIndex := 48, descriptorIndex := 25, attributes := #[] }, { accessFlags := 25, nameIndex := 277, descriptorIndex := 25, attributes := #[] }, { accessFlags := 25, nameIndex := 280, descriptorIndex := 25, attributes := #[] }, { accessFlags := 25, nameIndex := 282, descriptorIndex := 25, attributes := #[] }, { accessFlags := 25, nameIndex := 284, descriptorIndex := 25, attributes := #[] }, { accessFlags := 25, nameIndex := 286, descriptorIndex := 25, attributes := #[] }, { accessFlags := 25, nameIndex := 288, descriptorIndex := 25, attributes := #[] }, { accessFlags := 25, nameIndex := 290, descriptorIndex := 25, attributes := #[] }, { accessFlags := 25, nameIndex := 292, descriptorIndex := 25, attributes := #[] }, { accessFlags := 26, nameIndex := 108, descriptorIndex := 109, attributes := #[] }, { accessFlags := 25, nameIndex := 294, descriptorIndex := 25, attributes := #[] }])
  fields := #[{ name := "U", type := (.object "jdk/internal/misc/Unsafe"), accessFlags := 24, slot := 0, constantValue := 0 }, { name := "BIG_ENDIAN", type := .boolean, accessFlags := 26, slot := 1, constantValue := 0 }, { name := "LOG2_ARRAY_BOOLEAN_INDEX_SCALE", type := .int, accessFlags := 25, slot := 2, constantValue := 0 }, { name := "LOG2_ARRAY_BYTE_INDEX_SCALE", type := .int, accessFlags := 25, slot := 3, constantValue := 0 }, { name := "LOG2_ARRAY_CHAR_INDEX_SCALE", type := .int, accessFlags := 25, slot := 4, constantValue := 0 }, { name := "LOG2_ARRAY_SHORT_INDEX_SCALE", type := .int, accessFlags := 25, slot := 5, constantValue := 0 }, { name := "LOG2_ARRAY_INT_INDEX_SCALE", type := .int, accessFlags := 25, slot := 6, constantValue := 0 }, { name := "LOG2_ARRAY_LONG_INDEX_SCALE", type := .int, accessFlags := 25, slot := 7, constantValue := 0 }, { name := "LOG2_ARRAY_FLOAT_INDEX_SCALE", type := .int, accessFlags := 25, slot := 8, constantValue := 0 }, { name := "LOG2_ARRAY_DOUBLE_INDEX_SCALE", type := .int, accessFlags := 25, slot := 9, constantValue := 0 }, { name := "LOG2_BYTE_BIT_SIZE", type := .int, accessFlags := 26, slot := 10, constantValue := 0 }, { name := "T_BOOLEAN", type := .int, accessFlags := 25, slot := 11, constantValue := 0 }, { name := "T_CHAR", type := .int, accessFlags := 25, slot := 12, constantValue := 0 }, { name := "T_FLOAT", type := .int, accessFlags := 25, slot := 13, constantValue := 0 }, { name := "T_DOUBLE", type := .int, accessFlags := 25, slot := 14, constantValue := 0 }, { name := "T_BYTE", type := .int, accessFlags := 25, slot := 15, constantValue := 0 }, { name := "T_SHORT", type := .int, accessFlags := 25, slot := 16, constantValue := 0 }, { name := "T_INT", type := .int, accessFlags := 25, slot := 17, constantValue := 0 }, { name := "T_LONG", type := .int, accessFlags := 25, slot := 18, constantValue := 0 }, { name := "JLA", type := (.object "jdk/internal/access/JavaLangAccess"), accessFlags := 26, slot := 19, constantValue := 0 }, { name := "SOFT_MAX_ARRAY_LENGTH", type := .int, accessFlags := 25, slot := 20, constantValue := 0 }]
  methods := #[k13m0]
  instanceTypes := #[]
  staticTypes := #[(.object "jdk/internal/misc/Unsafe"), .boolean, .int, .int, .int, .int, .int, .int, .int, .int, .int, .int, .int, .int, .int, .int, .int, .int, .int, (.object "jdk/internal/access/JavaLangAccess"), .int]
  resolved := Array.replicate 378 none
  statics := none }

def pool14 : Array CpInfo := pool [(1, u "java/lang/Cloneable"), (0, .class_ 1), (0, u "java/lang/Object"), (0, .class_ 3)] 3

/-- java/lang/Cloneable -/
def k14 : Class := { plain "java/lang/Cloneable" (some 0) with
  accessFlags := 1537
  interfaces := #[]
  cf := some (fileOf pool14 2 #[] #[] 1537 4 #[] #[])
  fields := #[]
  methods := #[]
  instanceTypes := #[]
  staticTypes := #[]
  resolved := Array.replicate 8 none
  statics := none }

/-- the primitive byte -/
def k15 : Class := { plain "byte" none with kind := .primitive 'B', accessFlags := 0x411 }
/-- [B -/
def k16 : Class := { plain "[B" (some 0) with kind := .array 15 .byte, interfaces := #[14, 2], accessFlags := 1041 }

/-- the primitive char -/
def k17 : Class := { plain "char" none with kind := .primitive 'C', accessFlags := 0x411 }
/-- [C -/
def k18 : Class := { plain "[C" (some 0) with kind := .array 17 .char, interfaces := #[14, 2], accessFlags := 1041 }

/-- the primitive int -/
def k19 : Class := { plain "int" none with kind := .primitive 'I', accessFlags := 0x411 }
/-- [I -/
def k20 : Class := { plain "[I" (some 0) with kind := .array 19 .int, interfaces := #[14, 2], accessFlags := 1041 }

def heap : Heap := #[{ cls := 7, slots := #[.long 0, .int 1, .null, .int 0, .null, .int 0, .int 0], vm := .statics 7 },
  { cls := 12, slots := #[.null, .null, .null], vm := .statics 12 }]
def classes : Array Class := #[k0, k1, k2, k3, k4, k5, k6, k7, k8, k9, k10, k11, k12, k13, k14, k15, k16, k17, k18, k19, k20]
def interned : List (Array UInt16 × Addr) := []
def slotsUsed : Nat := 10
def theMethod : MethodId := ⟨1, 3⟩
def args0 : Array Value := #[.int 3, .int 2, .int 65, .int 1]
def aboutOver (below : List Frame) : State where
  vm := { classes := classes, interned := interned.toArray }
  heap := heap
  slotsUsed := slotsUsed
  threads := #[{ frames := .invoking theMethod args0 :: below }]
def below0 : List Frame := [.native { method := ⟨0, 0⟩, args := #[] }]
def about1 : State := aboutOver below0
def p0 : Program := .bare "" "" ""
def e0 : Env := launch0.env 0 0 0
theorem w_frames : about1.frames = Frame.invoking theMethod args0 :: below0 := rfl
set_option maxRecDepth 65536 in
theorem w_args : argsFit about1.vm theMethod args0 = true := by decide +kernel
set_option maxRecDepth 65536 in
theorem w_heap : heapFits about1 = true := by decide +kernel
set_option maxRecDepth 65536 in
theorem w_runnable : about1.curStatus? = some .runnable := by decide +kernel
set_option maxRecDepth 65536 in
theorem w_alone : about1.alone = true := by decide +kernel
set_option maxRecDepth 65536 in
theorem w_named : about1.methodNamed? x = some theMethod := by decide +kernel
set_option maxRecDepth 65536 in
theorem w_hears : about1.hears theMethod below0 = true := by decide +kernel
set_option maxRecDepth 65536 in
theorem w_ripe : about1.ripe theMethod args0 below0 = true := by decide +kernel
theorem w_running : about1.status = .running := rfl
set_option maxRecDepth 65536 in
theorem w_room : about1.hasRoom e0.platform room_1 = true :=
  launch0.hasRoom_least _ room_1 (by decide +kernel) (by decide +kernel) (by decide +kernel) (by decide +kernel) (by decide +kernel) (by decide +kernel)
theorem allAtoms_all (ts : List Jvm.Cond) (a : Array Jvm.Value) (st : Jvm.State) : (allAtoms ts).before a st = ts.all (fun c => c.before a st) := by
  induction ts with
  | nil => rfl
  | cons c t ih =>
    show (Jvm.Cond.and c (allAtoms t)).before a st = _
    rw [Jvm.Cond.before_and, ih, List.all_cons]
def words1 : List Jvm.Cond := Jvm.Cond.code x code maxLocals ret :: tables_1
/-- a 'code' word, met by the world's own term for the bytes: nothing is compared byte by byte -/
theorem code_word {y : MethodName} {bytes : ByteArray} {mx : Nat} {rt : Option FieldType} {a : Array Value} {s : State} {m : MethodId} {meth : Method} {c : Code} (h1 : s.methodNamed? y = some m) (h2 : s.vm.method? m = some meth) (h3 : meth.code = some c) (h4 : c.code = bytes)
    (h5 : (c.maxLocals == mx && c.exceptionTable.isEmpty && decide (c.maxStack ≤ mostOperands) && decide (meth.sig.returnType = rt) && !meth.locks && decide (parseMethodDescriptor y.desc = some meth.sig)) = true) : (Jvm.Cond.code y bytes mx rt).before a s = true := by
  simp only [Bool.and_eq_true, beq_iff_eq, Bool.not_eq_true', decide_eq_true_eq] at h5
  obtain ⟨⟨⟨⟨⟨g1, g2⟩, g3⟩, g4⟩, g5⟩, g6⟩ := h5
  simp [Cond.before, Cond.holds, Cond.value, h1, h2, h3, h4, g1, g2, g3, g4, g5, g6]
def isCode : Jvm.Cond → Bool
  | .code _ _ _ _ => true
  | _ => false
theorem all_split {L : List Jvm.Cond} {P : Jvm.Cond → Bool} (h1 : L.all (fun c => isCode c || P c) = true) (h2 : ∀ c ∈ L.filter isCode, P c = true) : L.all P = true := by
  refine List.all_eq_true.mpr fun c hc => ?_
  have h := List.all_eq_true.mp h1 c hc
  rcases Bool.eq_false_or_eq_true (isCode c) with hi | hi
  · exact h2 c (List.mem_filter.mpr ⟨hc, hi⟩)
  · simpa [hi] using h
set_option maxRecDepth 65536 in
theorem w_c0 : (Jvm.Cond.code x code maxLocals ret).before args0 about1 = true := code_word (m := ⟨1, 3⟩) (meth := k1m3) (c := k1c3) (by decide +kernel) rfl rfl rfl (by decide +kernel)
set_option maxRecDepth 65536 in
theorem w_c1 : (Jvm.Cond.code ({ cls := "com/example/querent/querent/trec/ElementLineAtPinLaw", name := "pick", desc := "(IIII)C" } : Jvm.MethodName) method_2_code (4 : Nat) (Option.some Jvm.ClassFile.FieldType.char)).before args0 about1 = true := code_word (m := ⟨1, 1⟩) (meth := k1m1) (c := k1c1) (by decide +kernel) rfl rfl rfl (by decide +kernel)
set_option maxRecDepth 65536 in
theorem w_c2 : (Jvm.Cond.code ({ cls := "java/lang/String", name := "<init>", desc := "([C)V" } : Jvm.MethodName) jdk_42_method_3_code (2 : Nat) (Option.none : Option Jvm.ClassFile.FieldType)).before args0 about1 = true := code_word (m := ⟨7, 1⟩) (meth := k7m1) (c := k7c1) (by decide +kernel) rfl rfl rfl (by decide +kernel)
set_option maxRecDepth 65536 in
theorem w_c3 : (Jvm.Cond.code ({ cls := "java/lang/String", name := "<init>", desc := "([CIILjava/lang/Void;)V" } : Jvm.MethodName) jdk_42_method_149_code (6 : Nat) (Option.none : Option Jvm.ClassFile.FieldType)).before args0 about1 = true := code_word (m := ⟨7, 3⟩) (meth := k7m3) (c := k7c3) (by decide +kernel) rfl rfl rfl (by decide +kernel)
set_option maxRecDepth 65536 in
theorem w_c4 : (Jvm.Cond.code ({ cls := "java/lang/Object", name := "<init>", desc := "()V" } : Jvm.MethodName) object_method_1_code (1 : Nat) (Option.none : Option Jvm.ClassFile.FieldType)).before args0 about1 = true := code_word (m := ⟨0, 0⟩) (meth := k0m0) (c := k0c0) (by decide +kernel) rfl rfl rfl (by decide +kernel)
set_option maxRecDepth 65536 in
theorem w_c5 : (Jvm.Cond.code ({ cls := "java/lang/StringUTF16", name := "compress", desc := "([CII)[B" } : Jvm.MethodName) jdk_52_method_16_code (6 : Nat) (Option.some (Jvm.ClassFile.FieldType.array Jvm.ClassFile.FieldType.byte))).before args0 about1 = true := code_word (m := ⟨8, 2⟩) (meth := k8m2) (c := k8c2) (by decide +kernel) rfl rfl rfl (by decide +kernel)
set_option maxRecDepth 65536 in
theorem w_c6 : (Jvm.Cond.code ({ cls := "java/lang/StringUTF16", name := "compress", desc := "([CI[BII)I" } : Jvm.MethodName) jdk_52_method_21_code (7 : Nat) (Option.some Jvm.ClassFile.FieldType.int)).before args0 about1 = true := code_word (m := ⟨8, 3⟩) (meth := k8m3) (c := k8c3) (by decide +kernel) rfl rfl rfl (by decide +kernel)
set_option maxRecDepth 65536 in
theorem w_c7 : (Jvm.Cond.code ({ cls := "java/lang/StringUTF16", name := "coderFromArrayLen", desc := "([BI)B" } : Jvm.MethodName) jdk_52_method_15_code (2 : Nat) (Option.some Jvm.ClassFile.FieldType.byte)).before args0 about1 = true := code_word (m := ⟨8, 1⟩) (meth := k8m1) (c := k8c1) (by decide +kernel) rfl rfl rfl (by decide +kernel)
set_option maxRecDepth 65536 in
theorem w_c8 : (Jvm.Cond.code ({ cls := "com/example/querent/querent/trec/ElementReader$Element", name := "<init>", desc := "(Ljava/lang/String;I)V" } : Jvm.MethodName) prog_27_method_1_code (3 : Nat) (Option.none : Option Jvm.ClassFile.FieldType)).before args0 about1 = true := code_word (m := ⟨10, 0⟩) (meth := k10m0) (c := k10c0) (by decide +kernel) rfl rfl rfl (by decide +kernel)
set_option maxRecDepth 65536 in
theorem w_c9 : (Jvm.Cond.code ({ cls := "java/lang/Record", name := "<init>", desc := "()V" } : Jvm.MethodName) jdk_30_method_1_code (1 : Nat) (Option.none : Option Jvm.ClassFile.FieldType)).before args0 about1 = true := code_word (m := ⟨9, 0⟩) (meth := k9m0) (c := k9c0) (by decide +kernel) rfl rfl rfl (by decide +kernel)
set_option maxRecDepth 65536 in
theorem w_c10 : (Jvm.Cond.code ({ cls := "com/example/querent/querent/trec/ElementReader$Element", name := "lineAt", desc := "(I)I" } : Jvm.MethodName) prog_27_method_2_code (4 : Nat) (Option.some Jvm.ClassFile.FieldType.int)).before args0 about1 = true := code_word (m := ⟨10, 1⟩) (meth := k10m1) (c := k10c1) (by decide +kernel) rfl rfl rfl (by decide +kernel)
set_option maxRecDepth 65536 in
theorem w_c11 : (Jvm.Cond.code ({ cls := "java/lang/String", name := "charAt", desc := "(I)C" } : Jvm.MethodName) jdk_42_method_56_code (2 : Nat) (Option.some Jvm.ClassFile.FieldType.char)).before args0 about1 = true := code_word (m := ⟨7, 2⟩) (meth := k7m2) (c := k7c2) (by decide +kernel) rfl rfl rfl (by decide +kernel)
set_option maxRecDepth 65536 in
theorem w_c12 : (Jvm.Cond.code ({ cls := "java/lang/String", name := "isLatin1", desc := "()Z" } : Jvm.MethodName) jdk_42_method_154_code (1 : Nat) (Option.some Jvm.ClassFile.FieldType.boolean)).before args0 about1 = true := code_word (m := ⟨7, 4⟩) (meth := k7m4) (c := k7c4) (by decide +kernel) rfl rfl rfl (by decide +kernel)
set_option maxRecDepth 65536 in
theorem w_c13 : (Jvm.Cond.code ({ cls := "java/lang/StringLatin1", name := "charAt", desc := "([BI)C" } : Jvm.MethodName) jdk_43_method_2_code (2 : Nat) (Option.some Jvm.ClassFile.FieldType.char)).before args0 about1 = true := code_word (m := ⟨11, 1⟩) (meth := k11m1) (c := k11c1) (by decide +kernel) rfl rfl rfl (by decide +kernel)
set_option maxRecDepth 65536 in
theorem w_c14 : (Jvm.Cond.code ({ cls := "java/lang/String", name := "checkIndex", desc := "(II)V" } : Jvm.MethodName) jdk_42_method_155_code (2 : Nat) (Option.none : Option Jvm.ClassFile.FieldType)).before args0 about1 = true := code_word (m := ⟨7, 5⟩) (meth := k7m5) (c := k7c5) (by decide +kernel) rfl rfl rfl (by decide +kernel)
set_option maxRecDepth 65536 in
theorem w_c15 : (Jvm.Cond.code ({ cls := "jdk/internal/util/Preconditions", name := "checkIndex", desc := "(IILjava/util/function/BiFunction;)I" } : Jvm.MethodName) jdk_41_method_11_code (3 : Nat) (Option.some Jvm.ClassFile.FieldType.int)).before args0 about1 = true := code_word (m := ⟨12, 1⟩) (meth := k12m1) (c := k12c1) (by decide +kernel) rfl rfl rfl (by decide +kernel)
set_option maxRecDepth 65536 in
theorem w_c16 : (Jvm.Cond.code ({ cls := "com/example/querent/querent/trec/ElementLineAtPinLaw", name := "nl", desc := "(C)I" } : Jvm.MethodName) method_3_code (1 : Nat) (Option.some Jvm.ClassFile.FieldType.int)).before args0 about1 = true := code_word (m := ⟨1, 2⟩) (meth := k1m2) (c := k1c2) (by decide +kernel) rfl rfl rfl (by decide +kernel)
def codes1 : List Jvm.Cond := [Jvm.Cond.code x code maxLocals ret, Jvm.Cond.code ({ cls := "com/example/querent/querent/trec/ElementLineAtPinLaw", name := "pick", desc := "(IIII)C" } : Jvm.MethodName) method_2_code (4 : Nat) (Option.some Jvm.ClassFile.FieldType.char), Jvm.Cond.code ({ cls := "java/lang/String", name := "<init>", desc := "([C)V" } : Jvm.MethodName) jdk_42_method_3_code (2 : Nat) (Option.none : Option Jvm.ClassFile.FieldType), Jvm.Cond.code ({ cls := "java/lang/String", name := "<init>", desc := "([CIILjava/lang/Void;)V" } : Jvm.MethodName) jdk_42_method_149_code (6 : Nat) (Option.none : Option Jvm.ClassFile.FieldType), Jvm.Cond.code ({ cls := "java/lang/Object", name := "<init>", desc := "()V" } : Jvm.MethodName) object_method_1_code (1 : Nat) (Option.none : Option Jvm.ClassFile.FieldType), Jvm.Cond.code ({ cls := "java/lang/StringUTF16", name := "compress", desc := "([CII)[B" } : Jvm.MethodName) jdk_52_method_16_code (6 : Nat) (Option.some (Jvm.ClassFile.FieldType.array Jvm.ClassFile.FieldType.byte)), Jvm.Cond.code ({ cls := "java/lang/StringUTF16", name := "compress", desc := "([CI[BII)I" } : Jvm.MethodName) jdk_52_method_21_code (7 : Nat) (Option.some Jvm.ClassFile.FieldType.int), Jvm.Cond.code ({ cls := "java/lang/StringUTF16", name := "coderFromArrayLen", desc := "([BI)B" } : Jvm.MethodName) jdk_52_method_15_code (2 : Nat) (Option.some Jvm.ClassFile.FieldType.byte), Jvm.Cond.code ({ cls := "com/example/querent/querent/trec/ElementReader$Element", name := "<init>", desc := "(Ljava/lang/String;I)V" } : Jvm.MethodName) prog_27_method_1_code (3 : Nat) (Option.none : Option Jvm.ClassFile.FieldType), Jvm.Cond.code ({ cls := "java/lang/Record", name := "<init>", desc := "()V" } : Jvm.MethodName) jdk_30_method_1_code (1 : Nat) (Option.none : Option Jvm.ClassFile.FieldType), Jvm.Cond.code ({ cls := "com/example/querent/querent/trec/ElementReader$Element", name := "lineAt", desc := "(I)I" } : Jvm.MethodName) prog_27_method_2_code (4 : Nat) (Option.some Jvm.ClassFile.FieldType.int), Jvm.Cond.code ({ cls := "java/lang/String", name := "charAt", desc := "(I)C" } : Jvm.MethodName) jdk_42_method_56_code (2 : Nat) (Option.some Jvm.ClassFile.FieldType.char), Jvm.Cond.code ({ cls := "java/lang/String", name := "isLatin1", desc := "()Z" } : Jvm.MethodName) jdk_42_method_154_code (1 : Nat) (Option.some Jvm.ClassFile.FieldType.boolean), Jvm.Cond.code ({ cls := "java/lang/StringLatin1", name := "charAt", desc := "([BI)C" } : Jvm.MethodName) jdk_43_method_2_code (2 : Nat) (Option.some Jvm.ClassFile.FieldType.char), Jvm.Cond.code ({ cls := "java/lang/String", name := "checkIndex", desc := "(II)V" } : Jvm.MethodName) jdk_42_method_155_code (2 : Nat) (Option.none : Option Jvm.ClassFile.FieldType), Jvm.Cond.code ({ cls := "jdk/internal/util/Preconditions", name := "checkIndex", desc := "(IILjava/util/function/BiFunction;)I" } : Jvm.MethodName) jdk_41_method_11_code (3 : Nat) (Option.some Jvm.ClassFile.FieldType.int), Jvm.Cond.code ({ cls := "com/example/querent/querent/trec/ElementLineAtPinLaw", name := "nl", desc := "(C)I" } : Jvm.MethodName) method_3_code (1 : Nat) (Option.some Jvm.ClassFile.FieldType.int)]
set_option maxRecDepth 65536 in
theorem codes_eq : words1.filter isCode = codes1 := rfl
theorem w_codes : ∀ c ∈ words1.filter isCode, c.before args0 about1 = true := by
  rw [codes_eq]
  intro c hc
  simp only [codes1, List.mem_cons, List.not_mem_nil, or_false] at hc
  rcases hc with rfl | rfl | rfl | rfl | rfl | rfl | rfl | rfl | rfl | rfl | rfl | rfl | rfl | rfl | rfl | rfl | rfl
  · exact w_c0
  · exact w_c1
  · exact w_c2
  · exact w_c3
  · exact w_c4
  · exact w_c5
  · exact w_c6
  · exact w_c7
  · exact w_c8
  · exact w_c9
  · exact w_c10
  · exact w_c11
  · exact w_c12
  · exact w_c13
  · exact w_c14
  · exact w_c15
  · exact w_c16
set_option maxRecDepth 65536 in
theorem w_t1 : (words1.take 24).all (fun c => isCode c || c.before args0 about1) = true := by decide +kernel
set_option maxRecDepth 65536 in
theorem w_t2 : ((words1.drop 24).take 24).all (fun c => isCode c || c.before args0 about1) = true := by decide +kernel
set_option maxRecDepth 65536 in
theorem w_t3 : (((words1.drop 24).drop 24).take 24).all (fun c => isCode c || c.before args0 about1) = true := by decide +kernel
set_option maxRecDepth 65536 in
theorem w_t4 : (((words1.drop 24).drop 24).drop 24).all (fun c => isCode c || c.before args0 about1) = true := by decide +kernel
theorem w_tables : (allAtoms (Jvm.Cond.code x code maxLocals ret :: tables_1)).before args0 about1 = true := by
  rw [allAtoms_all]
  show words1.all (fun c => c.before args0 about1) = true
  refine all_split ?_ w_codes
  rw [← List.take_append_drop 24 words1, List.all_append, w_t1, ← List.take_append_drop 24 (words1.drop 24), List.all_append, w_t2, ← List.take_append_drop 24 ((words1.drop 24).drop 24), List.all_append, w_t3, w_t4]
  rfl
set_option maxRecDepth 65536 in
theorem w_rest : rest_1_c.before args0 about1 = true := by decide +kernel
set_option maxRecDepth 65536 in
theorem w_case : (Jvm.Cond.and given_1 narrow_1).before args0 about1 = true := by decide +kernel
theorem w_applies : (headSpec (Jvm.Cond.code x code maxLocals ret :: tables_1) room_1).applies x e0.platform about1 = true :=
  (Spec.applies_iff w_frames).mpr ⟨w_running, w_runnable, w_alone, w_named, w_hears, w_ripe, w_room, w_tables⟩
theorem atStart : AtStart classFile x code maxLocals ret World_1 tables_1 room_1 Calls_1 rest_1 Pre_1 launch0 p0 e0 about1 theMethod args0 below0 :=
  ⟨lists_1, trivial, launch0.admits_env _ _ _, launch0.least_env, fairChoices_fair.cas, fairChoices_fair.clock, w_frames, w_args, w_heap, w_applies, trivial, w_rest, w_case⟩
end start1
theorem witness_1 : WitnessClaimed_1 := ⟨start1.p0, start1.e0, start1.about1, start1.theMethod, start1.args0, start1.below0, start1.atStart⟩
end Jvm.Pilot.@@N@@
