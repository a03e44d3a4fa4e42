import JvmDerived
import JvmDerived.Pilot.@@N@@Statement
import JvmDerived.Pilot.@@N@@Code
set_option linter.unusedVariables false
set_option linter.unusedSimpArgs false
namespace Jvm.Pilot.@@N@@
open Jvm Jvm.ClassFile Sem Op Lib Jvm.Free Jvm.Stand Jvm.LawKit Jvm.RoadKit Bundle Jvm.Pilot.@@N@@.Jvm.D

section OwnKit
variable {p : Program} {l : Launch} {e : Env} {R : Room} {s : State} {m : MethodId} {args : Array Value} {below : List Frame} {meth : Method} {c : Code} {T : State} {locs : List Loc} {cells slots : Nat}
/-- from A the invocation ends, and what it leaves is Q, within K cells and N slots -/
def OD (p : Program) (e : Env) (s : State) (below : List Frame) (Q : Option Value → Heap → List Loc → Prop) (K N : Nat) (A : State) : Prop :=
  ∃ s₂ o, Steps p.tables e below A s₂ ∧ s₂.status = .running ∧ Ended s₂ below o ∧ ∃ v L, o = .returned v ∧ Q v s₂.heap L ∧ FrameEnd s o s₂ L K N
theorem OD.go {Q : Option Value → Heap → List Loc → Prop} {K N : Nat} {A B : State} (h : ∀ t, Steps p.tables e below B t → Steps p.tables e below A t) (k : OD p e s below Q K N B) : OD p e s below Q K N A := by
  obtain ⟨s₂, o, h1, r⟩ := k
  exact ⟨s₂, o, h _ h1, r⟩
theorem OD.via {Q : Option Value → Heap → List Loc → Prop} {K N : Nat} {A B : State} (h : Steps p.tables e below A B) (k : OD p e s below Q K N B) : OD p e s below Q K N A := OD.go (fun _ q => h.trans q) k
theorem OD.cut {Q : Option Value → Heap → List Loc → Prop} {K N : Nat} {A B : State} (f : OD p e s below Q K N B → OD p e s below Q K N A) (g : OD p e s below Q K N B) : OD p e s below Q K N A := f g
theorem OD.cutA {Q : Option Value → Heap → List Loc → Prop} {K N : Nat} {A : State} {P : State → Prop} {B : State → State} (f : (∀ T, P T → OD p e s below Q K N (B T)) → OD p e s below Q K N A) (g : ∀ T, P T → OD p e s below Q K N (B T)) : OD p e s below Q K N A := f g
theorem OD.cutX {Q : Option Value → Heap → List Loc → Prop} {K N : Nat} {A s' T0 : State} {h : Heap} (X : Stand p l e R s' m args below meth c T0 locs cells slots) {B : State → State} (f : (∀ T, (Stand p l e R s' m args below meth c T locs cells slots ∧ T.heap = h) → OD p e s below Q K N (B T)) → OD p e s below Q K N A) (g : ∀ T, (Stand p l e R s' m args below meth c T locs cells slots ∧ T.heap = h) → OD p e s below Q K N (B T)) : OD p e s below Q K N A := f g
theorem OD.ret {Q : Option Value → Heap → List Loc → Prop} {K N : Nat} (X : Stand p l e R s m args below meth c T locs cells slots) (hx : p.tables.exec = Jvm.exec) (hlk : meth.locks = false) {pc : Nat} {Ls : Array Slot} {w : Value} {t : FieldType} {i : Instr} {rest : List Value} (hret : meth.sig.returnType = some t) (hn : narrow t w = w)
    (hi : (i = .ireturn ∧ (t = .int ∨ t = .boolean ∨ t = .byte ∨ t = .char ∨ t = .short) ∧ ∃ z, w = .int z) ∨ (i = .lreturn ∧ t = .long ∧ ∃ z, w = .long z) ∨ (i = .dreturn ∧ t = .double ∧ ∃ z, w = .double z) ∨ (i = .freturn ∧ t = .float ∧ ∃ z, w = .float z) ∨ (i = .areturn ∧ t.isReference = true ∧ w.isRef = true))
    (hd : decode c.code pc = .ok (i, 1)) (hk : cells ≤ K) (hs : slots ≤ N) (hQ : Q (some w) T.heap locs) : OD p e s below Q K N (T.setTop (mkF m pc Ls (w :: rest))) := by
  obtain ⟨fs, hr, hrun, hended, hW, hsame⟩ := X.leave (v := some w) (fun h => by rw [hret] at h; cases h) hlk
  exact ⟨_, _, retOut X hx hret hn hi hd hr, hrun, hended, _, _, rfl, hQ, ⟨_, rfl⟩, hW, hsame.mono hk hs⟩
theorem OD.retV {Q : Option Value → Heap → List Loc → Prop} {K N : Nat} (X : Stand p l e R s m args below meth c T locs cells slots) (hx : p.tables.exec = Jvm.exec) (hlk : meth.locks = false) {pc : Nat} {Ls : Array Slot} (hret : meth.sig.returnType = none)
    (hd : decode c.code pc = .ok (.return_, 1)) (hk : cells ≤ K) (hs : slots ≤ N) (hQ : Q none T.heap locs) : OD p e s below Q K N (T.setTop (mkF m pc Ls [])) := by
  obtain ⟨fs, hr, hrun, hended, hW, hsame⟩ := X.leave (v := none) (fun _ => rfl) hlk
  exact ⟨_, _, X.returnOut hx hret hd hr, hrun, hended, _, _, rfl, hQ, ⟨_, rfl⟩, hW, hsame.mono hk hs⟩
theorem own_len {Z : State} {h : Heap} {a : Addr} {k : ClassId} {ty : FieldType} {z : Int32} {vs : List Value} {dv : Value} (F : Arv Z h a k ty z vs dv) : ∃ cl : Cell, Arr Z h a cl ty ∧ cl.slots.size.toInt32 = z := by
  obtain ⟨cl, A, -, S, M, -⟩ := F
  exact ⟨cl, A, len_of S M⟩
theorem own_at {Z : State} {h : Heap} {a : Addr} {k : ClassId} {ty : FieldType} {z j : Int32} {vs : List Value} {dv v : Value} (F : Arv Z h a k ty z vs dv) (q : ¬ j < 0 ∧ j < z) (u : vs.getD j.toNatClampNeg dv = v) : ∃ cl : Cell, Arr Z h a cl ty ∧ ¬ (j < 0 ∨ cl.slots.size ≤ j.toNatClampNeg) ∧ cl.slots[j.toNatClampNeg]? = some v := by
  obtain ⟨cl, A, -, S, M, H, -⟩ := F
  exact ⟨cl, A, inb_of S q, H.at (inb_of S q) u⟩
theorem own_inst {Z : State} {a0 : Array Value} {h : Heap} {own C K : String} {index : Nat} {a : Addr} (X : Stand p l e R s m args below meth c T locs cells slots) (hZ : Z.Warmed39 s.vm) (hown : s.vm.findClass own = some m.cls) (w : (Jvm.Cond.classLink own index K).before a0 Z = true) (E : Exa Z h a C) : Ins Z h a K true ∨ ∃ c t, Z.vm.findClass C = some c ∧ Z.vm.findClass K = some t ∧ Z.vm.assignable c t = false := by
  have hpl : e.platform.magicAccessors = ({} : Platform).magicAccessors := by rw [X.admits.platform]
  obtain ⟨c', hc', -⟩ := Cond.classLink_spec (args := args) hown (mv hZ w) e.platform hpl
  rw [hZ.alike.findClass] at hc'
  obtain ⟨cell, k, h1, h2, h3, h4, -⟩ := E
  cases ha : Z.vm.assignable cell.cls c' with
  | true => exact Or.inl ⟨cell, c', h1, hc', by rw [ha, h4]; rfl⟩
  | false => exact Or.inr ⟨_, _, h2, hc', ha⟩
end OwnKit
/-- an array's values by a function of the index -/
def own_rg (N : Nat) (F : Int32 → Value) : List Value := (List.range N).map (fun i => F (Int32.ofNat i))
theorem own_ofNat {j z : Int32} (h : ¬ j < 0 ∧ j < z) : Int32.ofNat j.toNatClampNeg = j ∧ j.toNatClampNeg < z.toNatClampNeg := by
  have e := (back32 h.1).1
  refine ⟨e, ?_⟩
  have h1 := h.1
  have h2 := h.2
  rw [Int32.lt_iff_toInt_lt] at h1 h2
  have e0 : (0 : Int32).toInt = 0 := rfl
  simp only [Int32.toNatClampNeg] at *
  omega
theorem own_rg_at {j z : Int32} (h : ¬ j < 0 ∧ j < z) (F : Int32 → Value) (d : Value) : (own_rg z.toNatClampNeg F).getD j.toNatClampNeg d = F j := by
  obtain ⟨e, l⟩ := own_ofNat h
  simp [own_rg, List.getD_eq_getElem?_getD, l, e]
theorem own_rg_len (N : Nat) (F : Int32 → Value) : (own_rg N F).length = N := by simp [own_rg]
theorem own_rg_set {t z : Int32} (h : ¬ t < 0 ∧ t < z) (F F' : Int32 → Value) {v : Value} (h1 : F' t = v) (h2 : ∀ x, x ≠ t → F' x = F x) : (own_rg z.toNatClampNeg F).set t.toNatClampNeg v = own_rg z.toNatClampNeg F' := by
  obtain ⟨e, l⟩ := own_ofNat h
  have zz : z.toNatClampNeg < 2 ^ 31 := by
    have := z.toInt_lt
    simp only [Int32.toNatClampNeg]
    omega
  refine List.ext_getElem? fun i => ?_
  by_cases c : t.toNatClampNeg = i
  · subst c
    rw [List.getElem?_set_self (by rw [own_rg_len]; exact l)]
    simp [own_rg, l, e, h1]
  · rw [List.getElem?_set_ne c]
    by_cases l2 : i < z.toNatClampNeg
    · have n : Int32.ofNat i ≠ t := by
        intro q
        apply c
        rw [← q]
        have : (Int32.ofNat i).toInt = (i : Int) := toInt_of rfl (by omega)
        simp only [Int32.toNatClampNeg, this]
        omega
      simp [own_rg, l2, h2 _ n]
    · simp [own_rg, l2]
theorem own_pad (N : Nat) (d : Value) : ∀ i, (own_rg N (fun _ => d)).getD i d = ([] : List Value).getD i d := by
  intro i
  simp only [own_rg, List.getD_eq_getElem?_getD]
  by_cases l : i < N <;> simp [l]
theorem own_fill {Z : State} {h : Heap} {a : Addr} {k : ClassId} {ty : FieldType} {z : Int32} {d : Value} (F : Arv Z h a k ty z [] d) : Arv Z h a k ty z (own_rg z.toNatClampNeg (fun _ => d)) d := F.pad (own_pad _ _)
theorem own_put {Z : State} {h h' : Heap} {a : Addr} {k : ClassId} {ty : FieldType} {z t : Int32} {d v : Value} {F : Int32 → Value} (F' : Int32 → Value) {cl : Cell} (A : Arr Z h a cl ty) (q1 : cl.cls = k) (S : cl.slots.size = z.toNatClampNeg) (q3 : ¬ z < 0) (H : Has cl (own_rg z.toNatClampNeg F) d) (G : ∀ i, i < cl.slots.size → fits ty ((own_rg z.toNatClampNeg F).getD i d) = true) (hv : fits ty v = true) (W : Wr h h' a t.toNatClampNeg v) (ht : ¬ t < 0 ∧ t < z) (h1 : F' t = v) (h2 : ∀ x, x ≠ t → F' x = F x) : Arv Z h' a k ty z (own_rg z.toNatClampNeg F') d := by
  have q := Arv.set A q1 S q3 H G hv W t.toNatClampNeg rfl (by rw [own_rg_len]; exact (own_ofNat ht).2)
  rw [own_rg_set ht F F' h1 h2] at q
  exact q
def own_up (G : Int32 → Int32) (k v : Int32) : Int32 → Int32 := fun x => if k = x then v else G x
/-- the rest of a merge: so many turns left -/
def own_ml (sv : Int32 → UInt64) (F : Int32 → Int32) (mid hi : Int32) : Nat → Int32 → Int32 → Int32 → (Int32 → Int32) → (Int32 → Int32)
  | 0, _, _, _, G => G
  | n + 1, iv, jv, kv, G =>
    if jv = hi then own_ml sv F mid hi n (iv + (1 : Int32)) jv (kv + (1 : Int32)) (own_up G kv (F iv))
    else if iv < mid then
      (if (cmpValue (FP.dcmp (sv (F iv)) (sv (F jv))) .l) < (0 : Int32) then own_ml sv F mid hi n iv (jv + (1 : Int32)) (kv + (1 : Int32)) (own_up G kv (F jv))
       else own_ml sv F mid hi n (iv + (1 : Int32)) jv (kv + (1 : Int32)) (own_up G kv (F iv)))
    else own_ml sv F mid hi n iv (jv + (1 : Int32)) (kv + (1 : Int32)) (own_up G kv (F jv))
def own_iv (lo mid hi iv jv kv : Int32) (n : Nat) : Prop := lo.toInt ≤ iv.toInt ∧ iv.toInt ≤ mid.toInt ∧ mid.toInt ≤ jv.toInt ∧ jv.toInt ≤ hi.toInt ∧ kv.toInt = iv.toInt + jv.toInt - mid.toInt ∧ hi.toInt - kv.toInt = (n : Int)
theorem own_in {x z : Int32} (h1 : 0 ≤ x.toInt) (h2 : x.toInt < z.toInt) : ¬ x < 0 ∧ x < z := by
  rw [Int32.lt_iff_toInt_lt, Int32.lt_iff_toInt_lt]
  have e0 : (0 : Int32).toInt = 0 := rfl
  omega
theorem own_hk {lo mid hi iv jv kv : Int32} {n : Nat} (h : own_iv lo mid hi iv jv kv (n + 1)) : kv < hi := by
  obtain ⟨h1, h2, h3, h4, h5, h6⟩ := h
  rw [Int32.lt_iff_toInt_lt]
  omega
theorem own_h0 {lo mid hi iv jv kv : Int32} (h : own_iv lo mid hi iv jv kv 0) : ¬ kv < hi := by
  obtain ⟨h1, h2, h3, h4, h5, h6⟩ := h
  rw [Int32.lt_iff_toInt_lt]
  omega
theorem own_bi {lo mid hi iv jv kv z : Int32} {n : Nat} (h : own_iv lo mid hi iv jv kv (n + 1)) (hlo : 0 ≤ lo.toInt) (hz : hi.toInt ≤ z.toInt) (c : jv = hi ∨ iv < mid) : ¬ iv < 0 ∧ iv < z := by
  obtain ⟨h1, h2, h3, h4, h5, h6⟩ := h
  refine own_in (by omega) ?_
  rcases c with rfl | c
  · omega
  · rw [Int32.lt_iff_toInt_lt] at c; omega
theorem own_bj {lo mid hi iv jv kv z : Int32} {n : Nat} (h : own_iv lo mid hi iv jv kv (n + 1)) (hlo : 0 ≤ lo.toInt) (hz : hi.toInt ≤ z.toInt) (c : ¬ jv = hi) : ¬ jv < 0 ∧ jv < z := by
  obtain ⟨h1, h2, h3, h4, h5, h6⟩ := h
  have c' : jv.toInt ≠ hi.toInt := fun e => c (Int32.toInt_inj.mp e)
  exact own_in (by omega) (by omega)
theorem own_bk {lo mid hi iv jv kv z : Int32} {n : Nat} (h : own_iv lo mid hi iv jv kv (n + 1)) (hlo : 0 ≤ lo.toInt) (hz : hi.toInt ≤ z.toInt) : ¬ kv < 0 ∧ kv < z := by
  obtain ⟨h1, h2, h3, h4, h5, h6⟩ := h
  exact own_in (by omega) (by omega)
theorem own_s1 (x : Int32) (h : x.toInt < 2147483647) : (x + (1 : Int32)).toInt = x.toInt + 1 := by
  have q := c_iadd x 1
  have e1 : (1 : Int32).toInt = 1 := rfl
  have a := (x + (1 : Int32)).toInt_lt
  have b := (x + (1 : Int32)).le_toInt
  have d := x.le_toInt
  omega
theorem own_ivL {lo mid hi iv jv kv : Int32} {n : Nat} (h : own_iv lo mid hi iv jv kv (n + 1)) (c : jv = hi ∨ iv < mid) : own_iv lo mid hi (iv + (1 : Int32)) jv (kv + (1 : Int32)) n := by
  obtain ⟨h1, h2, h3, h4, h5, h6⟩ := h
  have t := hi.toInt_lt
  have lt : iv.toInt < mid.toInt := by
    rcases c with rfl | c
    · omega
    · rw [Int32.lt_iff_toInt_lt] at c; exact c
  have e1 := own_s1 iv (by omega)
  have e2 := own_s1 kv (by omega)
  refine ⟨?_, ?_, h3, h4, ?_, ?_⟩ <;> omega
theorem own_ivR {lo mid hi iv jv kv : Int32} {n : Nat} (h : own_iv lo mid hi iv jv kv (n + 1)) (c : ¬ jv = hi) : own_iv lo mid hi iv (jv + (1 : Int32)) (kv + (1 : Int32)) n := by
  obtain ⟨h1, h2, h3, h4, h5, h6⟩ := h
  have t := hi.toInt_lt
  have c' : jv.toInt ≠ hi.toInt := fun e => c (Int32.toInt_inj.mp e)
  have e1 := own_s1 jv (by omega)
  have e2 := own_s1 kv (by omega)
  refine ⟨h1, h2, ?_, ?_, ?_, ?_⟩ <;> omega
theorem own_up_at (G : Int32 → Int32) (k v : Int32) : own_up G k v k = v := if_pos rfl
theorem own_up_ne (G : Int32 → Int32) {k x : Int32} (v : Int32) (h : x ≠ k) : own_up G k v x = G x := if_neg (Ne.symm h)
def own_id (x : Int32) : Int32 := x
def own_zero (_ : Int32) : Int32 := 0
def own_Bd (z : Int32) (F : Int32 → Int32) : Prop := ∀ x, (¬ x < 0 ∧ x < z) → (¬ F x < 0 ∧ F x < z)
theorem own_mlB {sv : Int32 → UInt64} {F : Int32 → Int32} {lo mid hi z : Int32} (hlo : 0 ≤ lo.toInt) (hhz : hi.toInt ≤ z.toInt) (hF : own_Bd z F) : ∀ (n : Nat) (iv jv kv : Int32) (G : Int32 → Int32), own_iv lo mid hi iv jv kv n → own_Bd z G → own_Bd z (own_ml sv F mid hi n iv jv kv G) := by
  have up : ∀ (G : Int32 → Int32) (k v : Int32), own_Bd z G → (¬ v < 0 ∧ v < z) → own_Bd z (own_up G k v) := fun G k v hG hv x hx => by
    by_cases e : x = k
    · rw [e, own_up_at]; exact hv
    · rw [own_up_ne G v e]; exact hG x hx
  intro n
  induction n with
  | zero => intro iv jv kv G _ hG; exact hG
  | succ n ih =>
    intro iv jv kv G inv hG
    rw [own_ml]
    by_cases c1 : jv = hi
    · rw [if_pos c1]
      exact ih _ _ _ _ (own_ivL inv (Or.inl c1)) (up _ _ _ hG (hF _ (own_bi inv hlo hhz (Or.inl c1))))
    · rw [if_neg c1]
      by_cases c2 : iv < mid
      · rw [if_pos c2]
        split
        · exact ih _ _ _ _ (own_ivR inv c1) (up _ _ _ hG (hF _ (own_bj inv hlo hhz c1)))
        · exact ih _ _ _ _ (own_ivL inv (Or.inr c2)) (up _ _ _ hG (hF _ (own_bi inv hlo hhz (Or.inr c2))))
      · rw [if_neg c2]
        exact ih _ _ _ _ (own_ivR inv c1) (up _ _ _ hG (hF _ (own_bj inv hlo hhz c1)))
theorem own_mlB0 {sv : Int32 → UInt64} {F G : Int32 → Int32} {lo mid hi z : Int32} (hlo : 0 ≤ lo.toInt) (hlm : lo.toInt ≤ mid.toInt) (hmh : mid.toInt ≤ hi.toInt) (hhz : hi.toInt ≤ z.toInt) (hF : own_Bd z F) (hG : own_Bd z G) : own_Bd z (own_ml sv F mid hi (hi.toInt - lo.toInt).toNat lo mid lo G) :=
  own_mlB (lo := lo) hlo hhz hF _ _ _ _ _ ⟨Int.le_refl _, hlm, Int.le_refl _, hmh, by omega, by omega⟩ hG
theorem own_idB (z : Int32) : own_Bd z own_id := fun x h => h
theorem own_zeroB {z : Int32} (h : (0 : Int32) < z) : own_Bd z own_zero := fun x _ => ⟨by unfold own_zero; decide, h⟩
def own_m2_0 (sv : Int32 → UInt64) : Int32 → Int32 := own_ml sv own_id (1 : Int32) (2 : Int32) 2 (0 : Int32) (1 : Int32) (0 : Int32) own_zero
theorem own_m2_0_b (sv : Int32 → UInt64) : own_Bd (2 : Int32) (own_m2_0 sv) := own_mlB0 (lo := (0 : Int32)) (mid := (1 : Int32)) (hi := (2 : Int32)) (by decide) (by decide) (by decide) (by decide) (own_idB _) (own_zeroB (by decide))
def own_m3_0 (sv : Int32 → UInt64) : Int32 → Int32 := own_ml sv own_id (1 : Int32) (2 : Int32) 2 (0 : Int32) (1 : Int32) (0 : Int32) own_zero
theorem own_m3_0_b (sv : Int32 → UInt64) : own_Bd (3 : Int32) (own_m3_0 sv) := own_mlB0 (lo := (0 : Int32)) (mid := (1 : Int32)) (hi := (2 : Int32)) (by decide) (by decide) (by decide) (by decide) (own_idB _) (own_zeroB (by decide))
def own_m3_1 (sv : Int32 → UInt64) : Int32 → Int32 := own_ml sv own_id (3 : Int32) (3 : Int32) 1 (2 : Int32) (3 : Int32) (2 : Int32) (own_m3_0 sv)
theorem own_m3_1_b (sv : Int32 → UInt64) : own_Bd (3 : Int32) (own_m3_1 sv) := own_mlB0 (lo := (2 : Int32)) (mid := (3 : Int32)) (hi := (3 : Int32)) (by decide) (by decide) (by decide) (by decide) (own_idB _) (own_m3_0_b sv)
def own_m3_2 (sv : Int32 → UInt64) : Int32 → Int32 := own_ml sv (own_m3_1 sv) (2 : Int32) (3 : Int32) 3 (0 : Int32) (2 : Int32) (0 : Int32) own_id
theorem own_m3_2_b (sv : Int32 → UInt64) : own_Bd (3 : Int32) (own_m3_2 sv) := own_mlB0 (lo := (0 : Int32)) (mid := (2 : Int32)) (hi := (3 : Int32)) (by decide) (by decide) (by decide) (by decide) (own_m3_1_b sv) (own_idB _)
def own_m4_0 (sv : Int32 → UInt64) : Int32 → Int32 := own_ml sv own_id (1 : Int32) (2 : Int32) 2 (0 : Int32) (1 : Int32) (0 : Int32) own_zero
theorem own_m4_0_b (sv : Int32 → UInt64) : own_Bd (4 : Int32) (own_m4_0 sv) := own_mlB0 (lo := (0 : Int32)) (mid := (1 : Int32)) (hi := (2 : Int32)) (by decide) (by decide) (by decide) (by decide) (own_idB _) (own_zeroB (by decide))
def own_m4_1 (sv : Int32 → UInt64) : Int32 → Int32 := own_ml sv own_id (3 : Int32) (4 : Int32) 2 (2 : Int32) (3 : Int32) (2 : Int32) (own_m4_0 sv)
theorem own_m4_1_b (sv : Int32 → UInt64) : own_Bd (4 : Int32) (own_m4_1 sv) := own_mlB0 (lo := (2 : Int32)) (mid := (3 : Int32)) (hi := (4 : Int32)) (by decide) (by decide) (by decide) (by decide) (own_idB _) (own_m4_0_b sv)
def own_m4_2 (sv : Int32 → UInt64) : Int32 → Int32 := own_ml sv (own_m4_1 sv) (2 : Int32) (4 : Int32) 4 (0 : Int32) (2 : Int32) (0 : Int32) own_id
theorem own_m4_2_b (sv : Int32 → UInt64) : own_Bd (4 : Int32) (own_m4_2 sv) := own_mlB0 (lo := (0 : Int32)) (mid := (2 : Int32)) (hi := (4 : Int32)) (by decide) (by decide) (by decide) (by decide) (own_m4_1_b sv) (own_idB _)
def own_m5_0 (sv : Int32 → UInt64) : Int32 → Int32 := own_ml sv own_id (1 : Int32) (2 : Int32) 2 (0 : Int32) (1 : Int32) (0 : Int32) own_zero
theorem own_m5_0_b (sv : Int32 → UInt64) : own_Bd (5 : Int32) (own_m5_0 sv) := own_mlB0 (lo := (0 : Int32)) (mid := (1 : Int32)) (hi := (2 : Int32)) (by decide) (by decide) (by decide) (by decide) (own_idB _) (own_zeroB (by decide))
def own_m5_1 (sv : Int32 → UInt64) : Int32 → Int32 := own_ml sv own_id (3 : Int32) (4 : Int32) 2 (2 : Int32) (3 : Int32) (2 : Int32) (own_m5_0 sv)
theorem own_m5_1_b (sv : Int32 → UInt64) : own_Bd (5 : Int32) (own_m5_1 sv) := own_mlB0 (lo := (2 : Int32)) (mid := (3 : Int32)) (hi := (4 : Int32)) (by decide) (by decide) (by decide) (by decide) (own_idB _) (own_m5_0_b sv)
def own_m5_2 (sv : Int32 → UInt64) : Int32 → Int32 := own_ml sv own_id (5 : Int32) (5 : Int32) 1 (4 : Int32) (5 : Int32) (4 : Int32) (own_m5_1 sv)
theorem own_m5_2_b (sv : Int32 → UInt64) : own_Bd (5 : Int32) (own_m5_2 sv) := own_mlB0 (lo := (4 : Int32)) (mid := (5 : Int32)) (hi := (5 : Int32)) (by decide) (by decide) (by decide) (by decide) (own_idB _) (own_m5_1_b sv)
def own_m5_3 (sv : Int32 → UInt64) : Int32 → Int32 := own_ml sv (own_m5_2 sv) (2 : Int32) (4 : Int32) 4 (0 : Int32) (2 : Int32) (0 : Int32) own_id
theorem own_m5_3_b (sv : Int32 → UInt64) : own_Bd (5 : Int32) (own_m5_3 sv) := own_mlB0 (lo := (0 : Int32)) (mid := (2 : Int32)) (hi := (4 : Int32)) (by decide) (by decide) (by decide) (by decide) (own_m5_2_b sv) (own_idB _)
def own_m5_4 (sv : Int32 → UInt64) : Int32 → Int32 := own_ml sv (own_m5_2 sv) (5 : Int32) (5 : Int32) 1 (4 : Int32) (5 : Int32) (4 : Int32) (own_m5_3 sv)
theorem own_m5_4_b (sv : Int32 → UInt64) : own_Bd (5 : Int32) (own_m5_4 sv) := own_mlB0 (lo := (4 : Int32)) (mid := (5 : Int32)) (hi := (5 : Int32)) (by decide) (by decide) (by decide) (by decide) (own_m5_2_b sv) (own_m5_3_b sv)
def own_m5_5 (sv : Int32 → UInt64) : Int32 → Int32 := own_ml sv (own_m5_4 sv) (4 : Int32) (5 : Int32) 5 (0 : Int32) (4 : Int32) (0 : Int32) (own_m5_2 sv)
theorem own_m5_5_b (sv : Int32 → UInt64) : own_Bd (5 : Int32) (own_m5_5 sv) := own_mlB0 (lo := (0 : Int32)) (mid := (4 : Int32)) (hi := (5 : Int32)) (by decide) (by decide) (by decide) (by decide) (own_m5_4_b sv) (own_m5_2_b sv)
def own_pr (sv : Int32 → UInt64) (i j : Int32) : Int32 := (if (0 : Int32) < (cmpValue (FP.dcmp (sv i) (sv j)) .l) then (1 : Int32) else (if (cmpValue (FP.dcmp (sv i) (sv j)) .l) = (0 : Int32) then (if i < j then (1 : Int32) else (0 : Int32)) else (0 : Int32)))
theorem own_pr_nar (sv : Int32 → UInt64) (i j : Int32) : narrow .boolean (.int (own_pr sv i j)) = .int (own_pr sv i j) := by
  unfold own_pr
  repeat' split
  all_goals rfl
def own_sv (p1 p2 p3 p4 p5 : Int32) (x : Int32) : UInt64 := if x = 0 then FP.i2d p1 else if x = 1 then FP.i2d p2 else if x = 2 then FP.i2d p3 else if x = 3 then FP.i2d p4 else FP.i2d p5
theorem own_n6 {x u : Int32} (h : ((x &&& (7 : Int32)) % (6 : Int32)) = u) : u = 0 ∨ u = 1 ∨ u = 2 ∨ u = 3 ∨ u = 4 ∨ u = 5 := by
  have q := c_and x 7 (by decide)
  have r := (c_irem (x &&& 7) 6 6 rfl).1 q.1
  rw [h] at r
  have b1 := Int.emod_nonneg (x &&& 7).toInt (show (6 : Int) ≠ 0 by decide)
  have b2 := Int.emod_lt_of_pos (x &&& 7).toInt (show (0 : Int) < 6 by decide)
  have e : ∀ k : Int32, u.toInt = k.toInt → u = k := fun k hk => Int32.toInt_inj.mp hk
  have t : u.toInt = 0 ∨ u.toInt = 1 ∨ u.toInt = 2 ∨ u.toInt = 3 ∨ u.toInt = 4 ∨ u.toInt = 5 := by omega
  exact t.imp (e 0) (Or.imp (e 1) (Or.imp (e 2) (Or.imp (e 3) (Or.imp (e 4) (e 5)))))
abbrev own_q (sv : Int32 → UInt64) (x y : Int32) : Prop := (cmpValue (FP.dcmp (sv x) (sv y)) .l) < (0 : Int32)
theorem own_pr_lt {sv : Int32 → UInt64} {i j : Int32} (hij : i < j) (h : ¬ own_q sv i j) : own_pr sv i j = 1 := by
  unfold own_pr
  unfold own_q at h
  generalize cmpValue (FP.dcmp (sv i) (sv j)) .l = t at h ⊢
  by_cases c : (0 : Int32) < t
  · rw [if_pos c]
  · rw [if_neg c]
    have e : t = 0 := by
      rw [Int32.lt_iff_toInt_lt] at h c
      exact Int32.toInt_inj.mp (by omega)
    rw [if_pos e, if_pos hij]
theorem own_pr_gt {sv : Int32 → UInt64} (anti : ∀ x y, own_q sv x y → (0 : Int32) < (cmpValue (FP.dcmp (sv y) (sv x)) .l)) {i j : Int32} (h : own_q sv j i) : own_pr sv i j = 1 := by
  unfold own_pr
  rw [if_pos (anti _ _ h)]
theorem own_prs {sv : Int32 → UInt64} {a b i j : Int32} (h1 : a = i) (h2 : b = j) (h : own_pr sv i j = 1) : own_pr sv a b = 1 := by rw [h1, h2]; exact h
theorem own_anti (p1 p2 p3 p4 p5 x y : Int32) (h : own_q (own_sv p1 p2 p3 p4 p5) x y) : (0 : Int32) < (cmpValue (FP.dcmp (own_sv p1 p2 p3 p4 p5 y) (own_sv p1 p2 p3 p4 p5 x)) .l) := by
  have ex : ∀ z, ∃ i : Int, FP.Core.DInt i (own_sv p1 p2 p3 p4 p5 z) := fun z => by
    unfold own_sv
    repeat' split
    all_goals exact ⟨_, FP.Core.i2d_int _⟩
  obtain ⟨a, ha⟩ := ex x
  obtain ⟨b, hb⟩ := ex y
  unfold own_q at h
  rw [show FP.dcmp (own_sv p1 p2 p3 p4 p5 x) (own_sv p1 p2 p3 p4 p5 y) = some (compare a b) from FP.Core.dcmp_int ha hb, FP.Core.compare_ite] at h
  rw [show FP.dcmp (own_sv p1 p2 p3 p4 p5 y) (own_sv p1 p2 p3 p4 p5 x) = some (compare b a) from FP.Core.dcmp_int hb ha, FP.Core.compare_ite]
  by_cases c1 : a < b
  · rw [if_neg (by omega), if_neg (by omega)]; decide
  · rw [if_neg c1] at h
    by_cases c2 : a = b
    · rw [if_pos c2] at h; exact absurd h (by decide)
    · rw [if_neg c2] at h; exact absurd h (by decide)
theorem own_mask0 (p1 p2 p3 p4 p5 : Int32) : (((((0 : Int32) ||| (0 : Int32)) ||| (0 : Int32)) ||| (0 : Int32)) ||| (0 : Int32)) = (((1 : Int32) <<< ((0 : Int32) &&& 31)) - (1 : Int32)) := rfl
theorem own_mask1 (p1 p2 p3 p4 p5 : Int32) : ((((((1 : Int32) <<< ((own_id (0 : Int32)) &&& 31)) ||| (0 : Int32)) ||| (0 : Int32)) ||| (0 : Int32)) ||| (0 : Int32)) = (((1 : Int32) <<< ((1 : Int32) &&& 31)) - (1 : Int32)) := rfl
set_option maxHeartbeats 40000000 in
theorem own_ok2 (sv : Int32 → UInt64) (anti : ∀ x y, own_q sv x y → (0 : Int32) < (cmpValue (FP.dcmp (sv y) (sv x)) .l)) : (((((((1 : Int32) <<< (((own_m2_0 sv) (0 : Int32)) &&& 31)) ||| ((1 : Int32) <<< (((own_m2_0 sv) (1 : Int32)) &&& 31))) ||| (0 : Int32)) ||| (0 : Int32)) ||| (0 : Int32)) = (((1 : Int32) <<< ((2 : Int32) &&& 31)) - (1 : Int32))) ∧ ((own_pr sv ((own_m2_0 sv) (0 : Int32)) ((own_m2_0 sv) ((0 : Int32) + (1 : Int32)))) = 1) := by
  by_cases c01 : own_q sv 0 1
  · skip
    have r : own_m2_0 sv 0 = 1 ∧ own_m2_0 sv 1 = 0 := by
      simp [own_m2_0, own_ml, own_up, own_id, own_zero, c01]
    obtain ⟨r0, r1⟩ := r
    exact ⟨by rw [r0, r1]; decide, own_prs r0 r1 (own_pr_gt anti c01)⟩
  · skip
    have r : own_m2_0 sv 0 = 0 ∧ own_m2_0 sv 1 = 1 := by
      simp [own_m2_0, own_ml, own_up, own_id, own_zero, c01]
    obtain ⟨r0, r1⟩ := r
    exact ⟨by rw [r0, r1]; decide, own_prs r0 r1 (own_pr_lt (by decide) c01)⟩
theorem own_mask2 (p1 p2 p3 p4 p5 : Int32) : ((((((1 : Int32) <<< (((own_m2_0 (own_sv p1 p2 p3 p4 p5)) (0 : Int32)) &&& 31)) ||| ((1 : Int32) <<< (((own_m2_0 (own_sv p1 p2 p3 p4 p5)) (1 : Int32)) &&& 31))) ||| (0 : Int32)) ||| (0 : Int32)) ||| (0 : Int32)) = (((1 : Int32) <<< ((2 : Int32) &&& 31)) - (1 : Int32)) := (own_ok2 (own_sv p1 p2 p3 p4 p5) (own_anti p1 p2 p3 p4 p5)).1
theorem own_pair2_0 (p1 p2 p3 p4 p5 : Int32) : (own_pr (own_sv p1 p2 p3 p4 p5) ((own_m2_0 (own_sv p1 p2 p3 p4 p5)) (0 : Int32)) ((own_m2_0 (own_sv p1 p2 p3 p4 p5)) ((0 : Int32) + (1 : Int32)))) = 1 := (own_ok2 (own_sv p1 p2 p3 p4 p5) (own_anti p1 p2 p3 p4 p5)).2
set_option maxHeartbeats 40000000 in
theorem own_ok3 (sv : Int32 → UInt64) (anti : ∀ x y, own_q sv x y → (0 : Int32) < (cmpValue (FP.dcmp (sv y) (sv x)) .l)) : (((((((1 : Int32) <<< (((own_m3_2 sv) (0 : Int32)) &&& 31)) ||| ((1 : Int32) <<< (((own_m3_2 sv) (1 : Int32)) &&& 31))) ||| ((1 : Int32) <<< (((own_m3_2 sv) (2 : Int32)) &&& 31))) ||| (0 : Int32)) ||| (0 : Int32)) = (((1 : Int32) <<< ((3 : Int32) &&& 31)) - (1 : Int32))) ∧ ((own_pr sv ((own_m3_2 sv) (0 : Int32)) ((own_m3_2 sv) ((0 : Int32) + (1 : Int32)))) = 1) ∧ ((own_pr sv ((own_m3_2 sv) (1 : Int32)) ((own_m3_2 sv) ((1 : Int32) + (1 : Int32)))) = 1) := by
  by_cases c01 : own_q sv 0 1
  · skip
    by_cases c12 : own_q sv 1 2
    · skip
      have r : own_m3_2 sv 0 = 2 ∧ own_m3_2 sv 1 = 1 ∧ own_m3_2 sv 2 = 0 := by
        simp [own_m3_0, own_m3_1, own_m3_2, own_ml, own_up, own_id, own_zero, c01, c12]
      obtain ⟨r0, r1, r2⟩ := r
      exact ⟨by rw [r0, r1, r2]; decide, own_prs r0 r1 (own_pr_gt anti c12), own_prs r1 r2 (own_pr_gt anti c01)⟩
    · skip
      by_cases c02 : own_q sv 0 2
      · skip
        have r : own_m3_2 sv 0 = 1 ∧ own_m3_2 sv 1 = 2 ∧ own_m3_2 sv 2 = 0 := by
          simp [own_m3_0, own_m3_1, own_m3_2, own_ml, own_up, own_id, own_zero, c01, c12, c02]
        obtain ⟨r0, r1, r2⟩ := r
        exact ⟨by rw [r0, r1, r2]; decide, own_prs r0 r1 (own_pr_lt (by decide) c12), own_prs r1 r2 (own_pr_gt anti c02)⟩
      · skip
        have r : own_m3_2 sv 0 = 1 ∧ own_m3_2 sv 1 = 0 ∧ own_m3_2 sv 2 = 2 := by
          simp [own_m3_0, own_m3_1, own_m3_2, own_ml, own_up, own_id, own_zero, c01, c12, c02]
        obtain ⟨r0, r1, r2⟩ := r
        exact ⟨by rw [r0, r1, r2]; decide, own_prs r0 r1 (own_pr_gt anti c01), own_prs r1 r2 (own_pr_lt (by decide) c02)⟩
  · skip
    by_cases c02 : own_q sv 0 2
    · skip
      have r : own_m3_2 sv 0 = 2 ∧ own_m3_2 sv 1 = 0 ∧ own_m3_2 sv 2 = 1 := by
        simp [own_m3_0, own_m3_1, own_m3_2, own_ml, own_up, own_id, own_zero, c01, c02]
      obtain ⟨r0, r1, r2⟩ := r
      exact ⟨by rw [r0, r1, r2]; decide, own_prs r0 r1 (own_pr_gt anti c02), own_prs r1 r2 (own_pr_lt (by decide) c01)⟩
    · skip
      by_cases c12 : own_q sv 1 2
      · skip
        have r : own_m3_2 sv 0 = 0 ∧ own_m3_2 sv 1 = 2 ∧ own_m3_2 sv 2 = 1 := by
          simp [own_m3_0, own_m3_1, own_m3_2, own_ml, own_up, own_id, own_zero, c01, c02, c12]
        obtain ⟨r0, r1, r2⟩ := r
        exact ⟨by rw [r0, r1, r2]; decide, own_prs r0 r1 (own_pr_lt (by decide) c02), own_prs r1 r2 (own_pr_gt anti c12)⟩
      · skip
        have r : own_m3_2 sv 0 = 0 ∧ own_m3_2 sv 1 = 1 ∧ own_m3_2 sv 2 = 2 := by
          simp [own_m3_0, own_m3_1, own_m3_2, own_ml, own_up, own_id, own_zero, c01, c02, c12]
        obtain ⟨r0, r1, r2⟩ := r
        exact ⟨by rw [r0, r1, r2]; decide, own_prs r0 r1 (own_pr_lt (by decide) c01), own_prs r1 r2 (own_pr_lt (by decide) c12)⟩
theorem own_mask3 (p1 p2 p3 p4 p5 : Int32) : ((((((1 : Int32) <<< (((own_m3_2 (own_sv p1 p2 p3 p4 p5)) (0 : Int32)) &&& 31)) ||| ((1 : Int32) <<< (((own_m3_2 (own_sv p1 p2 p3 p4 p5)) (1 : Int32)) &&& 31))) ||| ((1 : Int32) <<< (((own_m3_2 (own_sv p1 p2 p3 p4 p5)) (2 : Int32)) &&& 31))) ||| (0 : Int32)) ||| (0 : Int32)) = (((1 : Int32) <<< ((3 : Int32) &&& 31)) - (1 : Int32)) := (own_ok3 (own_sv p1 p2 p3 p4 p5) (own_anti p1 p2 p3 p4 p5)).1
theorem own_pair3_0 (p1 p2 p3 p4 p5 : Int32) : (own_pr (own_sv p1 p2 p3 p4 p5) ((own_m3_2 (own_sv p1 p2 p3 p4 p5)) (0 : Int32)) ((own_m3_2 (own_sv p1 p2 p3 p4 p5)) ((0 : Int32) + (1 : Int32)))) = 1 := (own_ok3 (own_sv p1 p2 p3 p4 p5) (own_anti p1 p2 p3 p4 p5)).2.1
theorem own_pair3_1 (p1 p2 p3 p4 p5 : Int32) : (own_pr (own_sv p1 p2 p3 p4 p5) ((own_m3_2 (own_sv p1 p2 p3 p4 p5)) (1 : Int32)) ((own_m3_2 (own_sv p1 p2 p3 p4 p5)) ((1 : Int32) + (1 : Int32)))) = 1 := (own_ok3 (own_sv p1 p2 p3 p4 p5) (own_anti p1 p2 p3 p4 p5)).2.2
set_option maxHeartbeats 40000000 in
theorem own_ok4 (sv : Int32 → UInt64) (anti : ∀ x y, own_q sv x y → (0 : Int32) < (cmpValue (FP.dcmp (sv y) (sv x)) .l)) : (((((((1 : Int32) <<< (((own_m4_2 sv) (0 : Int32)) &&& 31)) ||| ((1 : Int32) <<< (((own_m4_2 sv) (1 : Int32)) &&& 31))) ||| ((1 : Int32) <<< (((own_m4_2 sv) (2 : Int32)) &&& 31))) ||| ((1 : Int32) <<< (((own_m4_2 sv) (3 : Int32)) &&& 31))) ||| (0 : Int32)) = (((1 : Int32) <<< ((4 : Int32) &&& 31)) - (1 : Int32))) ∧ ((own_pr sv ((own_m4_2 sv) (0 : Int32)) ((own_m4_2 sv) ((0 : Int32) + (1 : Int32)))) = 1) ∧ ((own_pr sv ((own_m4_2 sv) (1 : Int32)) ((own_m4_2 sv) ((1 : Int32) + (1 : Int32)))) = 1) ∧ ((own_pr sv ((own_m4_2 sv) (2 : Int32)) ((own_m4_2 sv) ((2 : Int32) + (1 : Int32)))) = 1) := by
  by_cases c01 : own_q sv 0 1
  · skip
    by_cases c23 : own_q sv 2 3
    · skip
      by_cases c13 : own_q sv 1 3
      · skip
        by_cases c12 : own_q sv 1 2
        · skip
          have r : own_m4_2 sv 0 = 3 ∧ own_m4_2 sv 1 = 2 ∧ own_m4_2 sv 2 = 1 ∧ own_m4_2 sv 3 = 0 := by
            simp [own_m4_0, own_m4_1, own_m4_2, own_ml, own_up, own_id, own_zero, c01, c23, c13, c12]
          obtain ⟨r0, r1, r2, r3⟩ := r
          exact ⟨by rw [r0, r1, r2, r3]; decide, own_prs r0 r1 (own_pr_gt anti c23), own_prs r1 r2 (own_pr_gt anti c12), own_prs r2 r3 (own_pr_gt anti c01)⟩
        · skip
          by_cases c02 : own_q sv 0 2
          · skip
            have r : own_m4_2 sv 0 = 3 ∧ own_m4_2 sv 1 = 1 ∧ own_m4_2 sv 2 = 2 ∧ own_m4_2 sv 3 = 0 := by
              simp [own_m4_0, own_m4_1, own_m4_2, own_ml, own_up, own_id, own_zero, c01, c23, c13, c12, c02]
            obtain ⟨r0, r1, r2, r3⟩ := r
            exact ⟨by rw [r0, r1, r2, r3]; decide, own_prs r0 r1 (own_pr_gt anti c13), own_prs r1 r2 (own_pr_lt (by decide) c12), own_prs r2 r3 (own_pr_gt anti c02)⟩
          · skip
            have r : own_m4_2 sv 0 = 3 ∧ own_m4_2 sv 1 = 1 ∧ own_m4_2 sv 2 = 0 ∧ own_m4_2 sv 3 = 2 := by
              simp [own_m4_0, own_m4_1, own_m4_2, own_ml, own_up, own_id, own_zero, c01, c23, c13, c12, c02]
            obtain ⟨r0, r1, r2, r3⟩ := r
            exact ⟨by rw [r0, r1, r2, r3]; decide, own_prs r0 r1 (own_pr_gt anti c13), own_prs r1 r2 (own_pr_gt anti c01), own_prs r2 r3 (own_pr_lt (by decide) c02)⟩
      · skip
        by_cases c03 : own_q sv 0 3
        · skip
          by_cases c02 : own_q sv 0 2
          · skip
            have r : own_m4_2 sv 0 = 1 ∧ own_m4_2 sv 1 = 3 ∧ own_m4_2 sv 2 = 2 ∧ own_m4_2 sv 3 = 0 := by
              simp [own_m4_0, own_m4_1, own_m4_2, own_ml, own_up, own_id, own_zero, c01, c23, c13, c03, c02]
            obtain ⟨r0, r1, r2, r3⟩ := r
            exact ⟨by rw [r0, r1, r2, r3]; decide, own_prs r0 r1 (own_pr_lt (by decide) c13), own_prs r1 r2 (own_pr_gt anti c23), own_prs r2 r3 (own_pr_gt anti c02)⟩
          · skip
            have r : own_m4_2 sv 0 = 1 ∧ own_m4_2 sv 1 = 3 ∧ own_m4_2 sv 2 = 0 ∧ own_m4_2 sv 3 = 2 := by
              simp [own_m4_0, own_m4_1, own_m4_2, own_ml, own_up, own_id, own_zero, c01, c23, c13, c03, c02]
            obtain ⟨r0, r1, r2, r3⟩ := r
            exact ⟨by rw [r0, r1, r2, r3]; decide, own_prs r0 r1 (own_pr_lt (by decide) c13), own_prs r1 r2 (own_pr_gt anti c03), own_prs r2 r3 (own_pr_lt (by decide) c02)⟩
        · skip
          have r : own_m4_2 sv 0 = 1 ∧ own_m4_2 sv 1 = 0 ∧ own_m4_2 sv 2 = 3 ∧ own_m4_2 sv 3 = 2 := by
            simp [own_m4_0, own_m4_1, own_m4_2, own_ml, own_up, own_id, own_zero, c01, c23, c13, c03]
          obtain ⟨r0, r1, r2, r3⟩ := r
          exact ⟨by rw [r0, r1, r2, r3]; decide, own_prs r0 r1 (own_pr_gt anti c01), own_prs r1 r2 (own_pr_lt (by decide) c03), own_prs r2 r3 (own_pr_gt anti c23)⟩
    · skip
      by_cases c12 : own_q sv 1 2
      · skip
        by_cases c13 : own_q sv 1 3
        · skip
          have r : own_m4_2 sv 0 = 2 ∧ own_m4_2 sv 1 = 3 ∧ own_m4_2 sv 2 = 1 ∧ own_m4_2 sv 3 = 0 := by
            simp [own_m4_0, own_m4_1, own_m4_2, own_ml, own_up, own_id, own_zero, c01, c23, c12, c13]
          obtain ⟨r0, r1, r2, r3⟩ := r
          exact ⟨by rw [r0, r1, r2, r3]; decide, own_prs r0 r1 (own_pr_lt (by decide) c23), own_prs r1 r2 (own_pr_gt anti c13), own_prs r2 r3 (own_pr_gt anti c01)⟩
        · skip
          by_cases c03 : own_q sv 0 3
          · skip
            have r : own_m4_2 sv 0 = 2 ∧ own_m4_2 sv 1 = 1 ∧ own_m4_2 sv 2 = 3 ∧ own_m4_2 sv 3 = 0 := by
              simp [own_m4_0, own_m4_1, own_m4_2, own_ml, own_up, own_id, own_zero, c01, c23, c12, c13, c03]
            obtain ⟨r0, r1, r2, r3⟩ := r
            exact ⟨by rw [r0, r1, r2, r3]; decide, own_prs r0 r1 (own_pr_gt anti c12), own_prs r1 r2 (own_pr_lt (by decide) c13), own_prs r2 r3 (own_pr_gt anti c03)⟩
          · skip
            have r : own_m4_2 sv 0 = 2 ∧ own_m4_2 sv 1 = 1 ∧ own_m4_2 sv 2 = 0 ∧ own_m4_2 sv 3 = 3 := by
              simp [own_m4_0, own_m4_1, own_m4_2, own_ml, own_up, own_id, own_zero, c01, c23, c12, c13, c03]
            obtain ⟨r0, r1, r2, r3⟩ := r
            exact ⟨by rw [r0, r1, r2, r3]; decide, own_prs r0 r1 (own_pr_gt anti c12), own_prs r1 r2 (own_pr_gt anti c01), own_prs r2 r3 (own_pr_lt (by decide) c03)⟩
      · skip
        by_cases c02 : own_q sv 0 2
        · skip
          by_cases c03 : own_q sv 0 3
          · skip
            have r : own_m4_2 sv 0 = 1 ∧ own_m4_2 sv 1 = 2 ∧ own_m4_2 sv 2 = 3 ∧ own_m4_2 sv 3 = 0 := by
              simp [own_m4_0, own_m4_1, own_m4_2, own_ml, own_up, own_id, own_zero, c01, c23, c12, c02, c03]
            obtain ⟨r0, r1, r2, r3⟩ := r
            exact ⟨by rw [r0, r1, r2, r3]; decide, own_prs r0 r1 (own_pr_lt (by decide) c12), own_prs r1 r2 (own_pr_lt (by decide) c23), own_prs r2 r3 (own_pr_gt anti c03)⟩
          · skip
            have r : own_m4_2 sv 0 = 1 ∧ own_m4_2 sv 1 = 2 ∧ own_m4_2 sv 2 = 0 ∧ own_m4_2 sv 3 = 3 := by
              simp [own_m4_0, own_m4_1, own_m4_2, own_ml, own_up, own_id, own_zero, c01, c23, c12, c02, c03]
            obtain ⟨r0, r1, r2, r3⟩ := r
            exact ⟨by rw [r0, r1, r2, r3]; decide, own_prs r0 r1 (own_pr_lt (by decide) c12), own_prs r1 r2 (own_pr_gt anti c02), own_prs r2 r3 (own_pr_lt (by decide) c03)⟩
        · skip
          have r : own_m4_2 sv 0 = 1 ∧ own_m4_2 sv 1 = 0 ∧ own_m4_2 sv 2 = 2 ∧ own_m4_2 sv 3 = 3 := by
            simp [own_m4_0, own_m4_1, own_m4_2, own_ml, own_up, own_id, own_zero, c01, c23, c12, c02]
          obtain ⟨r0, r1, r2, r3⟩ := r
          exact ⟨by rw [r0, r1, r2, r3]; decide, own_prs r0 r1 (own_pr_gt anti c01), own_prs r1 r2 (own_pr_lt (by decide) c02), own_prs r2 r3 (own_pr_lt (by decide) c23)⟩
  · skip
    by_cases c23 : own_q sv 2 3
    · skip
      by_cases c03 : own_q sv 0 3
      · skip
        by_cases c02 : own_q sv 0 2
        · skip
          have r : own_m4_2 sv 0 = 3 ∧ own_m4_2 sv 1 = 2 ∧ own_m4_2 sv 2 = 0 ∧ own_m4_2 sv 3 = 1 := by
            simp [own_m4_0, own_m4_1, own_m4_2, own_ml, own_up, own_id, own_zero, c01, c23, c03, c02]
          obtain ⟨r0, r1, r2, r3⟩ := r
          exact ⟨by rw [r0, r1, r2, r3]; decide, own_prs r0 r1 (own_pr_gt anti c23), own_prs r1 r2 (own_pr_gt anti c02), own_prs r2 r3 (own_pr_lt (by decide) c01)⟩
        · skip
          by_cases c12 : own_q sv 1 2
          · skip
            have r : own_m4_2 sv 0 = 3 ∧ own_m4_2 sv 1 = 0 ∧ own_m4_2 sv 2 = 2 ∧ own_m4_2 sv 3 = 1 := by
              simp [own_m4_0, own_m4_1, own_m4_2, own_ml, own_up, own_id, own_zero, c01, c23, c03, c02, c12]
            obtain ⟨r0, r1, r2, r3⟩ := r
            exact ⟨by rw [r0, r1, r2, r3]; decide, own_prs r0 r1 (own_pr_gt anti c03), own_prs r1 r2 (own_pr_lt (by decide) c02), own_prs r2 r3 (own_pr_gt anti c12)⟩
          · skip
            have r : own_m4_2 sv 0 = 3 ∧ own_m4_2 sv 1 = 0 ∧ own_m4_2 sv 2 = 1 ∧ own_m4_2 sv 3 = 2 := by
              simp [own_m4_0, own_m4_1, own_m4_2, own_ml, own_up, own_id, own_zero, c01, c23, c03, c02, c12]
            obtain ⟨r0, r1, r2, r3⟩ := r
            exact ⟨by rw [r0, r1, r2, r3]; decide, own_prs r0 r1 (own_pr_gt anti c03), own_prs r1 r2 (own_pr_lt (by decide) c01), own_prs r2 r3 (own_pr_lt (by decide) c12)⟩
      · skip
        by_cases c13 : own_q sv 1 3
        · skip
          by_cases c12 : own_q sv 1 2
          · skip
            have r : own_m4_2 sv 0 = 0 ∧ own_m4_2 sv 1 = 3 ∧ own_m4_2 sv 2 = 2 ∧ own_m4_2 sv 3 = 1 := by
              simp [own_m4_0, own_m4_1, own_m4_2, own_ml, own_up, own_id, own_zero, c01, c23, c03, c13, c12]
            obtain ⟨r0, r1, r2, r3⟩ := r
            exact ⟨by rw [r0, r1, r2, r3]; decide, own_prs r0 r1 (own_pr_lt (by decide) c03), own_prs r1 r2 (own_pr_gt anti c23), own_prs r2 r3 (own_pr_gt anti c12)⟩
          · skip
            have r : own_m4_2 sv 0 = 0 ∧ own_m4_2 sv 1 = 3 ∧ own_m4_2 sv 2 = 1 ∧ own_m4_2 sv 3 = 2 := by
              simp [own_m4_0, own_m4_1, own_m4_2, own_ml, own_up, own_id, own_zero, c01, c23, c03, c13, c12]
            obtain ⟨r0, r1, r2, r3⟩ := r
            exact ⟨by rw [r0, r1, r2, r3]; decide, own_prs r0 r1 (own_pr_lt (by decide) c03), own_prs r1 r2 (own_pr_gt anti c13), own_prs r2 r3 (own_pr_lt (by decide) c12)⟩
        · skip
          have r : own_m4_2 sv 0 = 0 ∧ own_m4_2 sv 1 = 1 ∧ own_m4_2 sv 2 = 3 ∧ own_m4_2 sv 3 = 2 := by
            simp [own_m4_0, own_m4_1, own_m4_2, own_ml, own_up, own_id, own_zero, c01, c23, c03, c13]
          obtain ⟨r0, r1, r2, r3⟩ := r
          exact ⟨by rw [r0, r1, r2, r3]; decide, own_prs r0 r1 (own_pr_lt (by decide) c01), own_prs r1 r2 (own_pr_lt (by decide) c13), own_prs r2 r3 (own_pr_gt anti c23)⟩
    · skip
      by_cases c02 : own_q sv 0 2
      · skip
        by_cases c03 : own_q sv 0 3
        · skip
          have r : own_m4_2 sv 0 = 2 ∧ own_m4_2 sv 1 = 3 ∧ own_m4_2 sv 2 = 0 ∧ own_m4_2 sv 3 = 1 := by
            simp [own_m4_0, own_m4_1, own_m4_2, own_ml, own_up, own_id, own_zero, c01, c23, c02, c03]
          obtain ⟨r0, r1, r2, r3⟩ := r
          exact ⟨by rw [r0, r1, r2, r3]; decide, own_prs r0 r1 (own_pr_lt (by decide) c23), own_prs r1 r2 (own_pr_gt anti c03), own_prs r2 r3 (own_pr_lt (by decide) c01)⟩
        · skip
          by_cases c13 : own_q sv 1 3
          · skip
            have r : own_m4_2 sv 0 = 2 ∧ own_m4_2 sv 1 = 0 ∧ own_m4_2 sv 2 = 3 ∧ own_m4_2 sv 3 = 1 := by
              simp [own_m4_0, own_m4_1, own_m4_2, own_ml, own_up, own_id, own_zero, c01, c23, c02, c03, c13]
            obtain ⟨r0, r1, r2, r3⟩ := r
            exact ⟨by rw [r0, r1, r2, r3]; decide, own_prs r0 r1 (own_pr_gt anti c02), own_prs r1 r2 (own_pr_lt (by decide) c03), own_prs r2 r3 (own_pr_gt anti c13)⟩
          · skip
            have r : own_m4_2 sv 0 = 2 ∧ own_m4_2 sv 1 = 0 ∧ own_m4_2 sv 2 = 1 ∧ own_m4_2 sv 3 = 3 := by
              simp [own_m4_0, own_m4_1, own_m4_2, own_ml, own_up, own_id, own_zero, c01, c23, c02, c03, c13]
            obtain ⟨r0, r1, r2, r3⟩ := r
            exact ⟨by rw [r0, r1, r2, r3]; decide, own_prs r0 r1 (own_pr_gt anti c02), own_prs r1 r2 (own_pr_lt (by decide) c01), own_prs r2 r3 (own_pr_lt (by decide) c13)⟩
      · skip
        by_cases c12 : own_q sv 1 2
        · skip
          by_cases c13 : own_q sv 1 3
          · skip
            have r : own_m4_2 sv 0 = 0 ∧ own_m4_2 sv 1 = 2 ∧ own_m4_2 sv 2 = 3 ∧ own_m4_2 sv 3 = 1 := by
              simp [own_m4_0, own_m4_1, own_m4_2, own_ml, own_up, own_id, own_zero, c01, c23, c02, c12, c13]
            obtain ⟨r0, r1, r2, r3⟩ := r
            exact ⟨by rw [r0, r1, r2, r3]; decide, own_prs r0 r1 (own_pr_lt (by decide) c02), own_prs r1 r2 (own_pr_lt (by decide) c23), own_prs r2 r3 (own_pr_gt anti c13)⟩
          · skip
            have r : own_m4_2 sv 0 = 0 ∧ own_m4_2 sv 1 = 2 ∧ own_m4_2 sv 2 = 1 ∧ own_m4_2 sv 3 = 3 := by
              simp [own_m4_0, own_m4_1, own_m4_2, own_ml, own_up, own_id, own_zero, c01, c23, c02, c12, c13]
            obtain ⟨r0, r1, r2, r3⟩ := r
            exact ⟨by rw [r0, r1, r2, r3]; decide, own_prs r0 r1 (own_pr_lt (by decide) c02), own_prs r1 r2 (own_pr_gt anti c12), own_prs r2 r3 (own_pr_lt (by decide) c13)⟩
        · skip
          have r : own_m4_2 sv 0 = 0 ∧ own_m4_2 sv 1 = 1 ∧ own_m4_2 sv 2 = 2 ∧ own_m4_2 sv 3 = 3 := by
            simp [own_m4_0, own_m4_1, own_m4_2, own_ml, own_up, own_id, own_zero, c01, c23, c02, c12]
          obtain ⟨r0, r1, r2, r3⟩ := r
          exact ⟨by rw [r0, r1, r2, r3]; decide, own_prs r0 r1 (own_pr_lt (by decide) c01), own_prs r1 r2 (own_pr_lt (by decide) c12), own_prs r2 r3 (own_pr_lt (by decide) c23)⟩
theorem own_mask4 (p1 p2 p3 p4 p5 : Int32) : ((((((1 : Int32) <<< (((own_m4_2 (own_sv p1 p2 p3 p4 p5)) (0 : Int32)) &&& 31)) ||| ((1 : Int32) <<< (((own_m4_2 (own_sv p1 p2 p3 p4 p5)) (1 : Int32)) &&& 31))) ||| ((1 : Int32) <<< (((own_m4_2 (own_sv p1 p2 p3 p4 p5)) (2 : Int32)) &&& 31))) ||| ((1 : Int32) <<< (((own_m4_2 (own_sv p1 p2 p3 p4 p5)) (3 : Int32)) &&& 31))) ||| (0 : Int32)) = (((1 : Int32) <<< ((4 : Int32) &&& 31)) - (1 : Int32)) := (own_ok4 (own_sv p1 p2 p3 p4 p5) (own_anti p1 p2 p3 p4 p5)).1
theorem own_pair4_0 (p1 p2 p3 p4 p5 : Int32) : (own_pr (own_sv p1 p2 p3 p4 p5) ((own_m4_2 (own_sv p1 p2 p3 p4 p5)) (0 : Int32)) ((own_m4_2 (own_sv p1 p2 p3 p4 p5)) ((0 : Int32) + (1 : Int32)))) = 1 := (own_ok4 (own_sv p1 p2 p3 p4 p5) (own_anti p1 p2 p3 p4 p5)).2.1
theorem own_pair4_1 (p1 p2 p3 p4 p5 : Int32) : (own_pr (own_sv p1 p2 p3 p4 p5) ((own_m4_2 (own_sv p1 p2 p3 p4 p5)) (1 : Int32)) ((own_m4_2 (own_sv p1 p2 p3 p4 p5)) ((1 : Int32) + (1 : Int32)))) = 1 := (own_ok4 (own_sv p1 p2 p3 p4 p5) (own_anti p1 p2 p3 p4 p5)).2.2.1
theorem own_pair4_2 (p1 p2 p3 p4 p5 : Int32) : (own_pr (own_sv p1 p2 p3 p4 p5) ((own_m4_2 (own_sv p1 p2 p3 p4 p5)) (2 : Int32)) ((own_m4_2 (own_sv p1 p2 p3 p4 p5)) ((2 : Int32) + (1 : Int32)))) = 1 := (own_ok4 (own_sv p1 p2 p3 p4 p5) (own_anti p1 p2 p3 p4 p5)).2.2.2
set_option maxHeartbeats 40000000 in
theorem own_ok5 (sv : Int32 → UInt64) (anti : ∀ x y, own_q sv x y → (0 : Int32) < (cmpValue (FP.dcmp (sv y) (sv x)) .l)) : (((((((1 : Int32) <<< (((own_m5_5 sv) (0 : Int32)) &&& 31)) ||| ((1 : Int32) <<< (((own_m5_5 sv) (1 : Int32)) &&& 31))) ||| ((1 : Int32) <<< (((own_m5_5 sv) (2 : Int32)) &&& 31))) ||| ((1 : Int32) <<< (((own_m5_5 sv) (3 : Int32)) &&& 31))) ||| ((1 : Int32) <<< (((own_m5_5 sv) (4 : Int32)) &&& 31))) = (((1 : Int32) <<< ((5 : Int32) &&& 31)) - (1 : Int32))) ∧ ((own_pr sv ((own_m5_5 sv) (0 : Int32)) ((own_m5_5 sv) ((0 : Int32) + (1 : Int32)))) = 1) ∧ ((own_pr sv ((own_m5_5 sv) (1 : Int32)) ((own_m5_5 sv) ((1 : Int32) + (1 : Int32)))) = 1) ∧ ((own_pr sv ((own_m5_5 sv) (2 : Int32)) ((own_m5_5 sv) ((2 : Int32) + (1 : Int32)))) = 1) ∧ ((own_pr sv ((own_m5_5 sv) (3 : Int32)) ((own_m5_5 sv) ((3 : Int32) + (1 : Int32)))) = 1) := by
  by_cases c01 : own_q sv 0 1
  · skip
    by_cases c23 : own_q sv 2 3
    · skip
      by_cases c13 : own_q sv 1 3
      · skip
        by_cases c12 : own_q sv 1 2
        · skip
          by_cases c34 : own_q sv 3 4
          · skip
            have r : own_m5_5 sv 0 = 4 ∧ own_m5_5 sv 1 = 3 ∧ own_m5_5 sv 2 = 2 ∧ own_m5_5 sv 3 = 1 ∧ own_m5_5 sv 4 = 0 := by
              simp [own_m5_0, own_m5_1, own_m5_2, own_m5_3, own_m5_4, own_m5_5, own_ml, own_up, own_id, own_zero, c01, c23, c13, c12, c34]
            obtain ⟨r0, r1, r2, r3, r4⟩ := r
            exact ⟨by rw [r0, r1, r2, r3, r4]; decide, own_prs r0 r1 (own_pr_gt anti c34), own_prs r1 r2 (own_pr_gt anti c23), own_prs r2 r3 (own_pr_gt anti c12), own_prs r3 r4 (own_pr_gt anti c01)⟩
          · skip
            by_cases c24 : own_q sv 2 4
            · skip
              have r : own_m5_5 sv 0 = 3 ∧ own_m5_5 sv 1 = 4 ∧ own_m5_5 sv 2 = 2 ∧ own_m5_5 sv 3 = 1 ∧ own_m5_5 sv 4 = 0 := by
                simp [own_m5_0, own_m5_1, own_m5_2, own_m5_3, own_m5_4, own_m5_5, own_ml, own_up, own_id, own_zero, c01, c23, c13, c12, c34, c24]
              obtain ⟨r0, r1, r2, r3, r4⟩ := r
              exact ⟨by rw [r0, r1, r2, r3, r4]; decide, own_prs r0 r1 (own_pr_lt (by decide) c34), own_prs r1 r2 (own_pr_gt anti c24), own_prs r2 r3 (own_pr_gt anti c12), own_prs r3 r4 (own_pr_gt anti c01)⟩
            · skip
              by_cases c14 : own_q sv 1 4
              · skip
                have r : own_m5_5 sv 0 = 3 ∧ own_m5_5 sv 1 = 2 ∧ own_m5_5 sv 2 = 4 ∧ own_m5_5 sv 3 = 1 ∧ own_m5_5 sv 4 = 0 := by
                  simp [own_m5_0, own_m5_1, own_m5_2, own_m5_3, own_m5_4, own_m5_5, own_ml, own_up, own_id, own_zero, c01, c23, c13, c12, c34, c24, c14]
                obtain ⟨r0, r1, r2, r3, r4⟩ := r
                exact ⟨by rw [r0, r1, r2, r3, r4]; decide, own_prs r0 r1 (own_pr_gt anti c23), own_prs r1 r2 (own_pr_lt (by decide) c24), own_prs r2 r3 (own_pr_gt anti c14), own_prs r3 r4 (own_pr_gt anti c01)⟩
              · skip
                by_cases c04 : own_q sv 0 4
                · skip
                  have r : own_m5_5 sv 0 = 3 ∧ own_m5_5 sv 1 = 2 ∧ own_m5_5 sv 2 = 1 ∧ own_m5_5 sv 3 = 4 ∧ own_m5_5 sv 4 = 0 := by
                    simp [own_m5_0, own_m5_1, own_m5_2, own_m5_3, own_m5_4, own_m5_5, own_ml, own_up, own_id, own_zero, c01, c23, c13, c12, c34, c24, c14, c04]
                  obtain ⟨r0, r1, r2, r3, r4⟩ := r
                  exact ⟨by rw [r0, r1, r2, r3, r4]; decide, own_prs r0 r1 (own_pr_gt anti c23), own_prs r1 r2 (own_pr_gt anti c12), own_prs r2 r3 (own_pr_lt (by decide) c14), own_prs r3 r4 (own_pr_gt anti c04)⟩
                · skip
                  have r : own_m5_5 sv 0 = 3 ∧ own_m5_5 sv 1 = 2 ∧ own_m5_5 sv 2 = 1 ∧ own_m5_5 sv 3 = 0 ∧ own_m5_5 sv 4 = 4 := by
                    simp [own_m5_0, own_m5_1, own_m5_2, own_m5_3, own_m5_4, own_m5_5, own_ml, own_up, own_id, own_zero, c01, c23, c13, c12, c34, c24, c14, c04]
                  obtain ⟨r0, r1, r2, r3, r4⟩ := r
                  exact ⟨by rw [r0, r1, r2, r3, r4]; decide, own_prs r0 r1 (own_pr_gt anti c23), own_prs r1 r2 (own_pr_gt anti c12), own_prs r2 r3 (own_pr_gt anti c01), own_prs r3 r4 (own_pr_lt (by decide) c04)⟩
        · skip
          by_cases c02 : own_q sv 0 2
          · skip
            by_cases c34 : own_q sv 3 4
            · skip
              have r : own_m5_5 sv 0 = 4 ∧ own_m5_5 sv 1 = 3 ∧ own_m5_5 sv 2 = 1 ∧ own_m5_5 sv 3 = 2 ∧ own_m5_5 sv 4 = 0 := by
                simp [own_m5_0, own_m5_1, own_m5_2, own_m5_3, own_m5_4, own_m5_5, own_ml, own_up, own_id, own_zero, c01, c23, c13, c12, c02, c34]
              obtain ⟨r0, r1, r2, r3, r4⟩ := r
              exact ⟨by rw [r0, r1, r2, r3, r4]; decide, own_prs r0 r1 (own_pr_gt anti c34), own_prs r1 r2 (own_pr_gt anti c13), own_prs r2 r3 (own_pr_lt (by decide) c12), own_prs r3 r4 (own_pr_gt anti c02)⟩
            · skip
              by_cases c14 : own_q sv 1 4
              · skip
                have r : own_m5_5 sv 0 = 3 ∧ own_m5_5 sv 1 = 4 ∧ own_m5_5 sv 2 = 1 ∧ own_m5_5 sv 3 = 2 ∧ own_m5_5 sv 4 = 0 := by
                  simp [own_m5_0, own_m5_1, own_m5_2, own_m5_3, own_m5_4, own_m5_5, own_ml, own_up, own_id, own_zero, c01, c23, c13, c12, c02, c34, c14]
                obtain ⟨r0, r1, r2, r3, r4⟩ := r
                exact ⟨by rw [r0, r1, r2, r3, r4]; decide, own_prs r0 r1 (own_pr_lt (by decide) c34), own_prs r1 r2 (own_pr_gt anti c14), own_prs r2 r3 (own_pr_lt (by decide) c12), own_prs r3 r4 (own_pr_gt anti c02)⟩
              · skip
                by_cases c24 : own_q sv 2 4
                · skip
                  have r : own_m5_5 sv 0 = 3 ∧ own_m5_5 sv 1 = 1 ∧ own_m5_5 sv 2 = 4 ∧ own_m5_5 sv 3 = 2 ∧ own_m5_5 sv 4 = 0 := by
                    simp [own_m5_0, own_m5_1, own_m5_2, own_m5_3, own_m5_4, own_m5_5, own_ml, own_up, own_id, own_zero, c01, c23, c13, c12, c02, c34, c14, c24]
                  obtain ⟨r0, r1, r2, r3, r4⟩ := r
                  exact ⟨by rw [r0, r1, r2, r3, r4]; decide, own_prs r0 r1 (own_pr_gt anti c13), own_prs r1 r2 (own_pr_lt (by decide) c14), own_prs r2 r3 (own_pr_gt anti c24), own_prs r3 r4 (own_pr_gt anti c02)⟩
                · skip
                  by_cases c04 : own_q sv 0 4
                  · skip
                    have r : own_m5_5 sv 0 = 3 ∧ own_m5_5 sv 1 = 1 ∧ own_m5_5 sv 2 = 2 ∧ own_m5_5 sv 3 = 4 ∧ own_m5_5 sv 4 = 0 := by
                      simp [own_m5_0, own_m5_1, own_m5_2, own_m5_3, own_m5_4, own_m5_5, own_ml, own_up, own_id, own_zero, c01, c23, c13, c12, c02, c34, c14, c24, c04]
                    obtain ⟨r0, r1, r2, r3, r4⟩ := r
                    exact ⟨by rw [r0, r1, r2, r3, r4]; decide, own_prs r0 r1 (own_pr_gt anti c13), own_prs r1 r2 (own_pr_lt (by decide) c12), own_prs r2 r3 (own_pr_lt (by decide) c24), own_prs r3 r4 (own_pr_gt anti c04)⟩
                  · skip
                    have r : own_m5_5 sv 0 = 3 ∧ own_m5_5 sv 1 = 1 ∧ own_m5_5 sv 2 = 2 ∧ own_m5_5 sv 3 = 0 ∧ own_m5_5 sv 4 = 4 := by
                      simp [own_m5_0, own_m5_1, own_m5_2, own_m5_3, own_m5_4, own_m5_5, own_ml, own_up, own_id, own_zero, c01, c23, c13, c12, c02, c34, c14, c24, c04]
                    obtain ⟨r0, r1, r2, r3, r4⟩ := r
                    exact ⟨by rw [r0, r1, r2, r3, r4]; decide, own_prs r0 r1 (own_pr_gt anti c13), own_prs r1 r2 (own_pr_lt (by decide) c12), own_prs r2 r3 (own_pr_gt anti c02), own_prs r3 r4 (own_pr_lt (by decide) c04)⟩
          · skip
            by_cases c34 : own_q sv 3 4
            · skip
              have r : own_m5_5 sv 0 = 4 ∧ own_m5_5 sv 1 = 3 ∧ own_m5_5 sv 2 = 1 ∧ own_m5_5 sv 3 = 0 ∧ own_m5_5 sv 4 = 2 := by
                simp [own_m5_0, own_m5_1, own_m5_2, own_m5_3, own_m5_4, own_m5_5, own_ml, own_up, own_id, own_zero, c01, c23, c13, c12, c02, c34]
              obtain ⟨r0, r1, r2, r3, r4⟩ := r
              exact ⟨by rw [r0, r1, r2, r3, r4]; decide, own_prs r0 r1 (own_pr_gt anti c34), own_prs r1 r2 (own_pr_gt anti c13), own_prs r2 r3 (own_pr_gt anti c01), own_prs r3 r4 (own_pr_lt (by decide) c02)⟩
            · skip
              by_cases c14 : own_q sv 1 4
              · skip
                have r : own_m5_5 sv 0 = 3 ∧ own_m5_5 sv 1 = 4 ∧ own_m5_5 sv 2 = 1 ∧ own_m5_5 sv 3 = 0 ∧ own_m5_5 sv 4 = 2 := by
                  simp [own_m5_0, own_m5_1, own_m5_2, own_m5_3, own_m5_4, own_m5_5, own_ml, own_up, own_id, own_zero, c01, c23, c13, c12, c02, c34, c14]
                obtain ⟨r0, r1, r2, r3, r4⟩ := r
                exact ⟨by rw [r0, r1, r2, r3, r4]; decide, own_prs r0 r1 (own_pr_lt (by decide) c34), own_prs r1 r2 (own_pr_gt anti c14), own_prs r2 r3 (own_pr_gt anti c01), own_prs r3 r4 (own_pr_lt (by decide) c02)⟩
              · skip
                by_cases c04 : own_q sv 0 4
                · skip
                  have r : own_m5_5 sv 0 = 3 ∧ own_m5_5 sv 1 = 1 ∧ own_m5_5 sv 2 = 4 ∧ own_m5_5 sv 3 = 0 ∧ own_m5_5 sv 4 = 2 := by
                    simp [own_m5_0, own_m5_1, own_m5_2, own_m5_3, own_m5_4, own_m5_5, own_ml, own_up, own_id, own_zero, c01, c23, c13, c12, c02, c34, c14, c04]
                  obtain ⟨r0, r1, r2, r3, r4⟩ := r
                  exact ⟨by rw [r0, r1, r2, r3, r4]; decide, own_prs r0 r1 (own_pr_gt anti c13), own_prs r1 r2 (own_pr_lt (by decide) c14), own_prs r2 r3 (own_pr_gt anti c04), own_prs r3 r4 (own_pr_lt (by decide) c02)⟩
                · skip
                  by_cases c24 : own_q sv 2 4
                  · skip
                    have r : own_m5_5 sv 0 = 3 ∧ own_m5_5 sv 1 = 1 ∧ own_m5_5 sv 2 = 0 ∧ own_m5_5 sv 3 = 4 ∧ own_m5_5 sv 4 = 2 := by
                      simp [own_m5_0, own_m5_1, own_m5_2, own_m5_3, own_m5_4, own_m5_5, own_ml, own_up, own_id, own_zero, c01, c23, c13, c12, c02, c34, c14, c04, c24]
                    obtain ⟨r0, r1, r2, r3, r4⟩ := r
                    exact ⟨by rw [r0, r1, r2, r3, r4]; decide, own_prs r0 r1 (own_pr_gt anti c13), own_prs r1 r2 (own_pr_gt anti c01), own_prs r2 r3 (own_pr_lt (by decide) c04), own_prs r3 r4 (own_pr_gt anti c24)⟩
                  · skip
                    have r : own_m5_5 sv 0 = 3 ∧ own_m5_5 sv 1 = 1 ∧ own_m5_5 sv 2 = 0 ∧ own_m5_5 sv 3 = 2 ∧ own_m5_5 sv 4 = 4 := by
                      simp [own_m5_0, own_m5_1, own_m5_2, own_m5_3, own_m5_4, own_m5_5, own_ml, own_up, own_id, own_zero, c01, c23, c13, c12, c02, c34, c14, c04, c24]
                    obtain ⟨r0, r1, r2, r3, r4⟩ := r
                    exact ⟨by rw [r0, r1, r2, r3, r4]; decide, own_prs r0 r1 (own_pr_gt anti c13), own_prs r1 r2 (own_pr_gt anti c01), own_prs r2 r3 (own_pr_lt (by decide) c02), own_prs r3 r4 (own_pr_lt (by decide) c24)⟩
      · skip
        by_cases c03 : own_q sv 0 3
        · skip
          by_cases c02 : own_q sv 0 2
          · skip
            by_cases c14 : own_q sv 1 4
            · skip
              have r : own_m5_5 sv 0 = 4 ∧ own_m5_5 sv 1 = 1 ∧ own_m5_5 sv 2 = 3 ∧ own_m5_5 sv 3 = 2 ∧ own_m5_5 sv 4 = 0 := by
                simp [own_m5_0, own_m5_1, own_m5_2, own_m5_3, own_m5_4, own_m5_5, own_ml, own_up, own_id, own_zero, c01, c23, c13, c03, c02, c14]
              obtain ⟨r0, r1, r2, r3, r4⟩ := r
              exact ⟨by rw [r0, r1, r2, r3, r4]; decide, own_prs r0 r1 (own_pr_gt anti c14), own_prs r1 r2 (own_pr_lt (by decide) c13), own_prs r2 r3 (own_pr_gt anti c23), own_prs r3 r4 (own_pr_gt anti c02)⟩
            · skip
              by_cases c34 : own_q sv 3 4
              · skip
                have r : own_m5_5 sv 0 = 1 ∧ own_m5_5 sv 1 = 4 ∧ own_m5_5 sv 2 = 3 ∧ own_m5_5 sv 3 = 2 ∧ own_m5_5 sv 4 = 0 := by
                  simp [own_m5_0, own_m5_1, own_m5_2, own_m5_3, own_m5_4, own_m5_5, own_ml, own_up, own_id, own_zero, c01, c23, c13, c03, c02, c14, c34]
                obtain ⟨r0, r1, r2, r3, r4⟩ := r
                exact ⟨by rw [r0, r1, r2, r3, r4]; decide, own_prs r0 r1 (own_pr_lt (by decide) c14), own_prs r1 r2 (own_pr_gt anti c34), own_prs r2 r3 (own_pr_gt anti c23), own_prs r3 r4 (own_pr_gt anti c02)⟩
              · skip
                by_cases c24 : own_q sv 2 4
                · skip
                  have r : own_m5_5 sv 0 = 1 ∧ own_m5_5 sv 1 = 3 ∧ own_m5_5 sv 2 = 4 ∧ own_m5_5 sv 3 = 2 ∧ own_m5_5 sv 4 = 0 := by
                    simp [own_m5_0, own_m5_1, own_m5_2, own_m5_3, own_m5_4, own_m5_5, own_ml, own_up, own_id, own_zero, c01, c23, c13, c03, c02, c14, c34, c24]
                  obtain ⟨r0, r1, r2, r3, r4⟩ := r
                  exact ⟨by rw [r0, r1, r2, r3, r4]; decide, own_prs r0 r1 (own_pr_lt (by decide) c13), own_prs r1 r2 (own_pr_lt (by decide) c34), own_prs r2 r3 (own_pr_gt anti c24), own_prs r3 r4 (own_pr_gt anti c02)⟩
                · skip
                  by_cases c04 : own_q sv 0 4
                  · skip
                    have r : own_m5_5 sv 0 = 1 ∧ own_m5_5 sv 1 = 3 ∧ own_m5_5 sv 2 = 2 ∧ own_m5_5 sv 3 = 4 ∧ own_m5_5 sv 4 = 0 := by
                      simp [own_m5_0, own_m5_1, own_m5_2, own_m5_3, own_m5_4, own_m5_5, own_ml, own_up, own_id, own_zero, c01, c23, c13, c03, c02, c14, c34, c24, c04]
                    obtain ⟨r0, r1, r2, r3, r4⟩ := r
                    exact ⟨by rw [r0, r1, r2, r3, r4]; decide, own_prs r0 r1 (own_pr_lt (by decide) c13), own_prs r1 r2 (own_pr_gt anti c23), own_prs r2 r3 (own_pr_lt (by decide) c24), own_prs r3 r4 (own_pr_gt anti c04)⟩
                  · skip
                    have r : own_m5_5 sv 0 = 1 ∧ own_m5_5 sv 1 = 3 ∧ own_m5_5 sv 2 = 2 ∧ own_m5_5 sv 3 = 0 ∧ own_m5_5 sv 4 = 4 := by
                      simp [own_m5_0, own_m5_1, own_m5_2, own_m5_3, own_m5_4, own_m5_5, own_ml, own_up, own_id, own_zero, c01, c23, c13, c03, c02, c14, c34, c24, c04]
                    obtain ⟨r0, r1, r2, r3, r4⟩ := r
                    exact ⟨by rw [r0, r1, r2, r3, r4]; decide, own_prs r0 r1 (own_pr_lt (by decide) c13), own_prs r1 r2 (own_pr_gt anti c23), own_prs r2 r3 (own_pr_gt anti c02), own_prs r3 r4 (own_pr_lt (by decide) c04)⟩
          · skip
            by_cases c14 : own_q sv 1 4
            · skip
              have r : own_m5_5 sv 0 = 4 ∧ own_m5_5 sv 1 = 1 ∧ own_m5_5 sv 2 = 3 ∧ own_m5_5 sv 3 = 0 ∧ own_m5_5 sv 4 = 2 := by
                simp [own_m5_0, own_m5_1, own_m5_2, own_m5_3, own_m5_4, own_m5_5, own_ml, own_up, own_id, own_zero, c01, c23, c13, c03, c02, c14]
              obtain ⟨r0, r1, r2, r3, r4⟩ := r
              exact ⟨by rw [r0, r1, r2, r3, r4]; decide, own_prs r0 r1 (own_pr_gt anti c14), own_prs r1 r2 (own_pr_lt (by decide) c13), own_prs r2 r3 (own_pr_gt anti c03), own_prs r3 r4 (own_pr_lt (by decide) c02)⟩
            · skip
              by_cases c34 : own_q sv 3 4
              · skip
                have r : own_m5_5 sv 0 = 1 ∧ own_m5_5 sv 1 = 4 ∧ own_m5_5 sv 2 = 3 ∧ own_m5_5 sv 3 = 0 ∧ own_m5_5 sv 4 = 2 := by
                  simp [own_m5_0, own_m5_1, own_m5_2, own_m5_3, own_m5_4, own_m5_5, own_ml, own_up, own_id, own_zero, c01, c23, c13, c03, c02, c14, c34]
                obtain ⟨r0, r1, r2, r3, r4⟩ := r
                exact ⟨by rw [r0, r1, r2, r3, r4]; decide, own_prs r0 r1 (own_pr_lt (by decide) c14), own_prs r1 r2 (own_pr_gt anti c34), own_prs r2 r3 (own_pr_gt anti c03), own_prs r3 r4 (own_pr_lt (by decide) c02)⟩
              · skip
                by_cases c04 : own_q sv 0 4
                · skip
                  have r : own_m5_5 sv 0 = 1 ∧ own_m5_5 sv 1 = 3 ∧ own_m5_5 sv 2 = 4 ∧ own_m5_5 sv 3 = 0 ∧ own_m5_5 sv 4 = 2 := by
                    simp [own_m5_0, own_m5_1, own_m5_2, own_m5_3, own_m5_4, own_m5_5, own_ml, own_up, own_id, own_zero, c01, c23, c13, c03, c02, c14, c34, c04]
                  obtain ⟨r0, r1, r2, r3, r4⟩ := r
                  exact ⟨by rw [r0, r1, r2, r3, r4]; decide, own_prs r0 r1 (own_pr_lt (by decide) c13), own_prs r1 r2 (own_pr_lt (by decide) c34), own_prs r2 r3 (own_pr_gt anti c04), own_prs r3 r4 (own_pr_lt (by decide) c02)⟩
                · skip
                  by_cases c24 : own_q sv 2 4
                  · skip
                    have r : own_m5_5 sv 0 = 1 ∧ own_m5_5 sv 1 = 3 ∧ own_m5_5 sv 2 = 0 ∧ own_m5_5 sv 3 = 4 ∧ own_m5_5 sv 4 = 2 := by
                      simp [own_m5_0, own_m5_1, own_m5_2, own_m5_3, own_m5_4, own_m5_5, own_ml, own_up, own_id, own_zero, c01, c23, c13, c03, c02, c14, c34, c04, c24]
                    obtain ⟨r0, r1, r2, r3, r4⟩ := r
                    exact ⟨by rw [r0, r1, r2, r3, r4]; decide, own_prs r0 r1 (own_pr_lt (by decide) c13), own_prs r1 r2 (own_pr_gt anti c03), own_prs r2 r3 (own_pr_lt (by decide) c04), own_prs r3 r4 (own_pr_gt anti c24)⟩
                  · skip
                    have r : own_m5_5 sv 0 = 1 ∧ own_m5_5 sv 1 = 3 ∧ own_m5_5 sv 2 = 0 ∧ own_m5_5 sv 3 = 2 ∧ own_m5_5 sv 4 = 4 := by
                      simp [own_m5_0, own_m5_1, own_m5_2, own_m5_3, own_m5_4, own_m5_5, own_ml, own_up, own_id, own_zero, c01, c23, c13, c03, c02, c14, c34, c04, c24]
                    obtain ⟨r0, r1, r2, r3, r4⟩ := r
                    exact ⟨by rw [r0, r1, r2, r3, r4]; decide, own_prs r0 r1 (own_pr_lt (by decide) c13), own_prs r1 r2 (own_pr_gt anti c03), own_prs r2 r3 (own_pr_lt (by decide) c02), own_prs r3 r4 (own_pr_lt (by decide) c24)⟩
        · skip
          by_cases c14 : own_q sv 1 4
          · skip
            have r : own_m5_5 sv 0 = 4 ∧ own_m5_5 sv 1 = 1 ∧ own_m5_5 sv 2 = 0 ∧ own_m5_5 sv 3 = 3 ∧ own_m5_5 sv 4 = 2 := by
              simp [own_m5_0, own_m5_1, own_m5_2, own_m5_3, own_m5_4, own_m5_5, own_ml, own_up, own_id, own_zero, c01, c23, c13, c03, c14]
            obtain ⟨r0, r1, r2, r3, r4⟩ := r
            exact ⟨by rw [r0, r1, r2, r3, r4]; decide, own_prs r0 r1 (own_pr_gt anti c14), own_prs r1 r2 (own_pr_gt anti c01), own_prs r2 r3 (own_pr_lt (by decide) c03), own_prs r3 r4 (own_pr_gt anti c23)⟩
          · skip
            by_cases c04 : own_q sv 0 4
            · skip
              have r : own_m5_5 sv 0 = 1 ∧ own_m5_5 sv 1 = 4 ∧ own_m5_5 sv 2 = 0 ∧ own_m5_5 sv 3 = 3 ∧ own_m5_5 sv 4 = 2 := by
                simp [own_m5_0, own_m5_1, own_m5_2, own_m5_3, own_m5_4, own_m5_5, own_ml, own_up, own_id, own_zero, c01, c23, c13, c03, c14, c04]
              obtain ⟨r0, r1, r2, r3, r4⟩ := r
              exact ⟨by rw [r0, r1, r2, r3, r4]; decide, own_prs r0 r1 (own_pr_lt (by decide) c14), own_prs r1 r2 (own_pr_gt anti c04), own_prs r2 r3 (own_pr_lt (by decide) c03), own_prs r3 r4 (own_pr_gt anti c23)⟩
            · skip
              by_cases c34 : own_q sv 3 4
              · skip
                have r : own_m5_5 sv 0 = 1 ∧ own_m5_5 sv 1 = 0 ∧ own_m5_5 sv 2 = 4 ∧ own_m5_5 sv 3 = 3 ∧ own_m5_5 sv 4 = 2 := by
                  simp [own_m5_0, own_m5_1, own_m5_2, own_m5_3, own_m5_4, own_m5_5, own_ml, own_up, own_id, own_zero, c01, c23, c13, c03, c14, c04, c34]
                obtain ⟨r0, r1, r2, r3, r4⟩ := r
                exact ⟨by rw [r0, r1, r2, r3, r4]; decide, own_prs r0 r1 (own_pr_gt anti c01), own_prs r1 r2 (own_pr_lt (by decide) c04), own_prs r2 r3 (own_pr_gt anti c34), own_prs r3 r4 (own_pr_gt anti c23)⟩
              · skip
                by_cases c24 : own_q sv 2 4
                · skip
                  have r : own_m5_5 sv 0 = 1 ∧ own_m5_5 sv 1 = 0 ∧ own_m5_5 sv 2 = 3 ∧ own_m5_5 sv 3 = 4 ∧ own_m5_5 sv 4 = 2 := by
                    simp [own_m5_0, own_m5_1, own_m5_2, own_m5_3, own_m5_4, own_m5_5, own_ml, own_up, own_id, own_zero, c01, c23, c13, c03, c14, c04, c34, c24]
                  obtain ⟨r0, r1, r2, r3, r4⟩ := r
                  exact ⟨by rw [r0, r1, r2, r3, r4]; decide, own_prs r0 r1 (own_pr_gt anti c01), own_prs r1 r2 (own_pr_lt (by decide) c03), own_prs r2 r3 (own_pr_lt (by decide) c34), own_prs r3 r4 (own_pr_gt anti c24)⟩
                · skip
                  have r : own_m5_5 sv 0 = 1 ∧ own_m5_5 sv 1 = 0 ∧ own_m5_5 sv 2 = 3 ∧ own_m5_5 sv 3 = 2 ∧ own_m5_5 sv 4 = 4 := by
                    simp [own_m5_0, own_m5_1, own_m5_2, own_m5_3, own_m5_4, own_m5_5, own_ml, own_up, own_id, own_zero, c01, c23, c13, c03, c14, c04, c34, c24]
                  obtain ⟨r0, r1, r2, r3, r4⟩ := r
                  exact ⟨by rw [r0, r1, r2, r3, r4]; decide, own_prs r0 r1 (own_pr_gt anti c01), own_prs r1 r2 (own_pr_lt (by decide) c03), own_prs r2 r3 (own_pr_gt anti c23), own_prs r3 r4 (own_pr_lt (by decide) c24)⟩
    · skip
      by_cases c12 : own_q sv 1 2
      · skip
        by_cases c13 : own_q sv 1 3
        · skip
          by_cases c24 : own_q sv 2 4
          · skip
            have r : own_m5_5 sv 0 = 4 ∧ own_m5_5 sv 1 = 2 ∧ own_m5_5 sv 2 = 3 ∧ own_m5_5 sv 3 = 1 ∧ own_m5_5 sv 4 = 0 := by
              simp [own_m5_0, own_m5_1, own_m5_2, own_m5_3, own_m5_4, own_m5_5, own_ml, own_up, own_id, own_zero, c01, c23, c12, c13, c24]
            obtain ⟨r0, r1, r2, r3, r4⟩ := r
            exact ⟨by rw [r0, r1, r2, r3, r4]; decide, own_prs r0 r1 (own_pr_gt anti c24), own_prs r1 r2 (own_pr_lt (by decide) c23), own_prs r2 r3 (own_pr_gt anti c13), own_prs r3 r4 (own_pr_gt anti c01)⟩
          · skip
            by_cases c34 : own_q sv 3 4
            · skip
              have r : own_m5_5 sv 0 = 2 ∧ own_m5_5 sv 1 = 4 ∧ own_m5_5 sv 2 = 3 ∧ own_m5_5 sv 3 = 1 ∧ own_m5_5 sv 4 = 0 := by
                simp [own_m5_0, own_m5_1, own_m5_2, own_m5_3, own_m5_4, own_m5_5, own_ml, own_up, own_id, own_zero, c01, c23, c12, c13, c24, c34]
              obtain ⟨r0, r1, r2, r3, r4⟩ := r
              exact ⟨by rw [r0, r1, r2, r3, r4]; decide, own_prs r0 r1 (own_pr_lt (by decide) c24), own_prs r1 r2 (own_pr_gt anti c34), own_prs r2 r3 (own_pr_gt anti c13), own_prs r3 r4 (own_pr_gt anti c01)⟩
            · skip
              by_cases c14 : own_q sv 1 4
              · skip
                have r : own_m5_5 sv 0 = 2 ∧ own_m5_5 sv 1 = 3 ∧ own_m5_5 sv 2 = 4 ∧ own_m5_5 sv 3 = 1 ∧ own_m5_5 sv 4 = 0 := by
                  simp [own_m5_0, own_m5_1, own_m5_2, own_m5_3, own_m5_4, own_m5_5, own_ml, own_up, own_id, own_zero, c01, c23, c12, c13, c24, c34, c14]
                obtain ⟨r0, r1, r2, r3, r4⟩ := r
                exact ⟨by rw [r0, r1, r2, r3, r4]; decide, own_prs r0 r1 (own_pr_lt (by decide) c23), own_prs r1 r2 (own_pr_lt (by decide) c34), own_prs r2 r3 (own_pr_gt anti c14), own_prs r3 r4 (own_pr_gt anti c01)⟩
              · skip
                by_cases c04 : own_q sv 0 4
                · skip
                  have r : own_m5_5 sv 0 = 2 ∧ own_m5_5 sv 1 = 3 ∧ own_m5_5 sv 2 = 1 ∧ own_m5_5 sv 3 = 4 ∧ own_m5_5 sv 4 = 0 := by
                    simp [own_m5_0, own_m5_1, own_m5_2, own_m5_3, own_m5_4, own_m5_5, own_ml, own_up, own_id, own_zero, c01, c23, c12, c13, c24, c34, c14, c04]
                  obtain ⟨r0, r1, r2, r3, r4⟩ := r
                  exact ⟨by rw [r0, r1, r2, r3, r4]; decide, own_prs r0 r1 (own_pr_lt (by decide) c23), own_prs r1 r2 (own_pr_gt anti c13), own_prs r2 r3 (own_pr_lt (by decide) c14), own_prs r3 r4 (own_pr_gt anti c04)⟩
                · skip
                  have r : own_m5_5 sv 0 = 2 ∧ own_m5_5 sv 1 = 3 ∧ own_m5_5 sv 2 = 1 ∧ own_m5_5 sv 3 = 0 ∧ own_m5_5 sv 4 = 4 := by
                    simp [own_m5_0, own_m5_1, own_m5_2, own_m5_3, own_m5_4, own_m5_5, own_ml, own_up, own_id, own_zero, c01, c23, c12, c13, c24, c34, c14, c04]
                  obtain ⟨r0, r1, r2, r3, r4⟩ := r
                  exact ⟨by rw [r0, r1, r2, r3, r4]; decide, own_prs r0 r1 (own_pr_lt (by decide) c23), own_prs r1 r2 (own_pr_gt anti c13), own_prs r2 r3 (own_pr_gt anti c01), own_prs r3 r4 (own_pr_lt (by decide) c04)⟩
        · skip
          by_cases c03 : own_q sv 0 3
          · skip
            by_cases c24 : own_q sv 2 4
            · skip
              have r : own_m5_5 sv 0 = 4 ∧ own_m5_5 sv 1 = 2 ∧ own_m5_5 sv 2 = 1 ∧ own_m5_5 sv 3 = 3 ∧ own_m5_5 sv 4 = 0 := by
                simp [own_m5_0, own_m5_1, own_m5_2, own_m5_3, own_m5_4, own_m5_5, own_ml, own_up, own_id, own_zero, c01, c23, c12, c13, c03, c24]
              obtain ⟨r0, r1, r2, r3, r4⟩ := r
              exact ⟨by rw [r0, r1, r2, r3, r4]; decide, own_prs r0 r1 (own_pr_gt anti c24), own_prs r1 r2 (own_pr_gt anti c12), own_prs r2 r3 (own_pr_lt (by decide) c13), own_prs r3 r4 (own_pr_gt anti c03)⟩
            · skip
              by_cases c14 : own_q sv 1 4
              · skip
                have r : own_m5_5 sv 0 = 2 ∧ own_m5_5 sv 1 = 4 ∧ own_m5_5 sv 2 = 1 ∧ own_m5_5 sv 3 = 3 ∧ own_m5_5 sv 4 = 0 := by
                  simp [own_m5_0, own_m5_1, own_m5_2, own_m5_3, own_m5_4, own_m5_5, own_ml, own_up, own_id, own_zero, c01, c23, c12, c13, c03, c24, c14]
                obtain ⟨r0, r1, r2, r3, r4⟩ := r
                exact ⟨by rw [r0, r1, r2, r3, r4]; decide, own_prs r0 r1 (own_pr_lt (by decide) c24), own_prs r1 r2 (own_pr_gt anti c14), own_prs r2 r3 (own_pr_lt (by decide) c13), own_prs r3 r4 (own_pr_gt anti c03)⟩
              · skip
                by_cases c34 : own_q sv 3 4
                · skip
                  have r : own_m5_5 sv 0 = 2 ∧ own_m5_5 sv 1 = 1 ∧ own_m5_5 sv 2 = 4 ∧ own_m5_5 sv 3 = 3 ∧ own_m5_5 sv 4 = 0 := by
                    simp [own_m5_0, own_m5_1, own_m5_2, own_m5_3, own_m5_4, own_m5_5, own_ml, own_up, own_id, own_zero, c01, c23, c12, c13, c03, c24, c14, c34]
                  obtain ⟨r0, r1, r2, r3, r4⟩ := r
                  exact ⟨by rw [r0, r1, r2, r3, r4]; decide, own_prs r0 r1 (own_pr_gt anti c12), own_prs r1 r2 (own_pr_lt (by decide) c14), own_prs r2 r3 (own_pr_gt anti c34), own_prs r3 r4 (own_pr_gt anti c03)⟩
                · skip
                  by_cases c04 : own_q sv 0 4
                  · skip
                    have r : own_m5_5 sv 0 = 2 ∧ own_m5_5 sv 1 = 1 ∧ own_m5_5 sv 2 = 3 ∧ own_m5_5 sv 3 = 4 ∧ own_m5_5 sv 4 = 0 := by
                      simp [own_m5_0, own_m5_1, own_m5_2, own_m5_3, own_m5_4, own_m5_5, own_ml, own_up, own_id, own_zero, c01, c23, c12, c13, c03, c24, c14, c34, c04]
                    obtain ⟨r0, r1, r2, r3, r4⟩ := r
                    exact ⟨by rw [r0, r1, r2, r3, r4]; decide, own_prs r0 r1 (own_pr_gt anti c12), own_prs r1 r2 (own_pr_lt (by decide) c13), own_prs r2 r3 (own_pr_lt (by decide) c34), own_prs r3 r4 (own_pr_gt anti c04)⟩
                  · skip
                    have r : own_m5_5 sv 0 = 2 ∧ own_m5_5 sv 1 = 1 ∧ own_m5_5 sv 2 = 3 ∧ own_m5_5 sv 3 = 0 ∧ own_m5_5 sv 4 = 4 := by
                      simp [own_m5_0, own_m5_1, own_m5_2, own_m5_3, own_m5_4, own_m5_5, own_ml, own_up, own_id, own_zero, c01, c23, c12, c13, c03, c24, c14, c34, c04]
                    obtain ⟨r0, r1, r2, r3, r4⟩ := r
                    exact ⟨by rw [r0, r1, r2, r3, r4]; decide, own_prs r0 r1 (own_pr_gt anti c12), own_prs r1 r2 (own_pr_lt (by decide) c13), own_prs r2 r3 (own_pr_gt anti c03), own_prs r3 r4 (own_pr_lt (by decide) c04)⟩
          · skip
            by_cases c24 : own_q sv 2 4
            · skip
              have r : own_m5_5 sv 0 = 4 ∧ own_m5_5 sv 1 = 2 ∧ own_m5_5 sv 2 = 1 ∧ own_m5_5 sv 3 = 0 ∧ own_m5_5 sv 4 = 3 := by
                simp [own_m5_0, own_m5_1, own_m5_2, own_m5_3, own_m5_4, own_m5_5, own_ml, own_up, own_id, own_zero, c01, c23, c12, c13, c03, c24]
              obtain ⟨r0, r1, r2, r3, r4⟩ := r
              exact ⟨by rw [r0, r1, r2, r3, r4]; decide, own_prs r0 r1 (own_pr_gt anti c24), own_prs r1 r2 (own_pr_gt anti c12), own_prs r2 r3 (own_pr_gt anti c01), own_prs r3 r4 (own_pr_lt (by decide) c03)⟩
            · skip
              by_cases c14 : own_q sv 1 4
              · skip
                have r : own_m5_5 sv 0 = 2 ∧ own_m5_5 sv 1 = 4 ∧ own_m5_5 sv 2 = 1 ∧ own_m5_5 sv 3 = 0 ∧ own_m5_5 sv 4 = 3 := by
                  simp [own_m5_0, own_m5_1, own_m5_2, own_m5_3, own_m5_4, own_m5_5, own_ml, own_up, own_id, own_zero, c01, c23, c12, c13, c03, c24, c14]
                obtain ⟨r0, r1, r2, r3, r4⟩ := r
                exact ⟨by rw [r0, r1, r2, r3, r4]; decide, own_prs r0 r1 (own_pr_lt (by decide) c24), own_prs r1 r2 (own_pr_gt anti c14), own_prs r2 r3 (own_pr_gt anti c01), own_prs r3 r4 (own_pr_lt (by decide) c03)⟩
              · skip
                by_cases c04 : own_q sv 0 4
                · skip
                  have r : own_m5_5 sv 0 = 2 ∧ own_m5_5 sv 1 = 1 ∧ own_m5_5 sv 2 = 4 ∧ own_m5_5 sv 3 = 0 ∧ own_m5_5 sv 4 = 3 := by
                    simp [own_m5_0, own_m5_1, own_m5_2, own_m5_3, own_m5_4, own_m5_5, own_ml, own_up, own_id, own_zero, c01, c23, c12, c13, c03, c24, c14, c04]
                  obtain ⟨r0, r1, r2, r3, r4⟩ := r
                  exact ⟨by rw [r0, r1, r2, r3, r4]; decide, own_prs r0 r1 (own_pr_gt anti c12), own_prs r1 r2 (own_pr_lt (by decide) c14), own_prs r2 r3 (own_pr_gt anti c04), own_prs r3 r4 (own_pr_lt (by decide) c03)⟩
                · skip
                  by_cases c34 : own_q sv 3 4
                  · skip
                    have r : own_m5_5 sv 0 = 2 ∧ own_m5_5 sv 1 = 1 ∧ own_m5_5 sv 2 = 0 ∧ own_m5_5 sv 3 = 4 ∧ own_m5_5 sv 4 = 3 := by
                      simp [own_m5_0, own_m5_1, own_m5_2, own_m5_3, own_m5_4, own_m5_5, own_ml, own_up, own_id, own_zero, c01, c23, c12, c13, c03, c24, c14, c04, c34]
                    obtain ⟨r0, r1, r2, r3, r4⟩ := r
                    exact ⟨by rw [r0, r1, r2, r3, r4]; decide, own_prs r0 r1 (own_pr_gt anti c12), own_prs r1 r2 (own_pr_gt anti c01), own_prs r2 r3 (own_pr_lt (by decide) c04), own_prs r3 r4 (own_pr_gt anti c34)⟩
                  · skip
                    have r : own_m5_5 sv 0 = 2 ∧ own_m5_5 sv 1 = 1 ∧ own_m5_5 sv 2 = 0 ∧ own_m5_5 sv 3 = 3 ∧ own_m5_5 sv 4 = 4 := by
                      simp [own_m5_0, own_m5_1, own_m5_2, own_m5_3, own_m5_4, own_m5_5, own_ml, own_up, own_id, own_zero, c01, c23, c12, c13, c03, c24, c14, c04, c34]
                    obtain ⟨r0, r1, r2, r3, r4⟩ := r
                    exact ⟨by rw [r0, r1, r2, r3, r4]; decide, own_prs r0 r1 (own_pr_gt anti c12), own_prs r1 r2 (own_pr_gt anti c01), own_prs r2 r3 (own_pr_lt (by decide) c03), own_prs r3 r4 (own_pr_lt (by decide) c34)⟩
      · skip
        by_cases c02 : own_q sv 0 2
        · skip
          by_cases c03 : own_q sv 0 3
          · skip
            by_cases c14 : own_q sv 1 4
            · skip
              have r : own_m5_5 sv 0 = 4 ∧ own_m5_5 sv 1 = 1 ∧ own_m5_5 sv 2 = 2 ∧ own_m5_5 sv 3 = 3 ∧ own_m5_5 sv 4 = 0 := by
                simp [own_m5_0, own_m5_1, own_m5_2, own_m5_3, own_m5_4, own_m5_5, own_ml, own_up, own_id, own_zero, c01, c23, c12, c02, c03, c14]
              obtain ⟨r0, r1, r2, r3, r4⟩ := r
              exact ⟨by rw [r0, r1, r2, r3, r4]; decide, own_prs r0 r1 (own_pr_gt anti c14), own_prs r1 r2 (own_pr_lt (by decide) c12), own_prs r2 r3 (own_pr_lt (by decide) c23), own_prs r3 r4 (own_pr_gt anti c03)⟩
            · skip
              by_cases c24 : own_q sv 2 4
              · skip
                have r : own_m5_5 sv 0 = 1 ∧ own_m5_5 sv 1 = 4 ∧ own_m5_5 sv 2 = 2 ∧ own_m5_5 sv 3 = 3 ∧ own_m5_5 sv 4 = 0 := by
                  simp [own_m5_0, own_m5_1, own_m5_2, own_m5_3, own_m5_4, own_m5_5, own_ml, own_up, own_id, own_zero, c01, c23, c12, c02, c03, c14, c24]
                obtain ⟨r0, r1, r2, r3, r4⟩ := r
                exact ⟨by rw [r0, r1, r2, r3, r4]; decide, own_prs r0 r1 (own_pr_lt (by decide) c14), own_prs r1 r2 (own_pr_gt anti c24), own_prs r2 r3 (own_pr_lt (by decide) c23), own_prs r3 r4 (own_pr_gt anti c03)⟩
              · skip
                by_cases c34 : own_q sv 3 4
                · skip
                  have r : own_m5_5 sv 0 = 1 ∧ own_m5_5 sv 1 = 2 ∧ own_m5_5 sv 2 = 4 ∧ own_m5_5 sv 3 = 3 ∧ own_m5_5 sv 4 = 0 := by
                    simp [own_m5_0, own_m5_1, own_m5_2, own_m5_3, own_m5_4, own_m5_5, own_ml, own_up, own_id, own_zero, c01, c23, c12, c02, c03, c14, c24, c34]
                  obtain ⟨r0, r1, r2, r3, r4⟩ := r
                  exact ⟨by rw [r0, r1, r2, r3, r4]; decide, own_prs r0 r1 (own_pr_lt (by decide) c12), own_prs r1 r2 (own_pr_lt (by decide) c24), own_prs r2 r3 (own_pr_gt anti c34), own_prs r3 r4 (own_pr_gt anti c03)⟩
                · skip
                  by_cases c04 : own_q sv 0 4
                  · skip
                    have r : own_m5_5 sv 0 = 1 ∧ own_m5_5 sv 1 = 2 ∧ own_m5_5 sv 2 = 3 ∧ own_m5_5 sv 3 = 4 ∧ own_m5_5 sv 4 = 0 := by
                      simp [own_m5_0, own_m5_1, own_m5_2, own_m5_3, own_m5_4, own_m5_5, own_ml, own_up, own_id, own_zero, c01, c23, c12, c02, c03, c14, c24, c34, c04]
                    obtain ⟨r0, r1, r2, r3, r4⟩ := r
                    exact ⟨by rw [r0, r1, r2, r3, r4]; decide, own_prs r0 r1 (own_pr_lt (by decide) c12), own_prs r1 r2 (own_pr_lt (by decide) c23), own_prs r2 r3 (own_pr_lt (by decide) c34), own_prs r3 r4 (own_pr_gt anti c04)⟩
                  · skip
                    have r : own_m5_5 sv 0 = 1 ∧ own_m5_5 sv 1 = 2 ∧ own_m5_5 sv 2 = 3 ∧ own_m5_5 sv 3 = 0 ∧ own_m5_5 sv 4 = 4 := by
                      simp [own_m5_0, own_m5_1, own_m5_2, own_m5_3, own_m5_4, own_m5_5, own_ml, own_up, own_id, own_zero, c01, c23, c12, c02, c03, c14, c24, c34, c04]
                    obtain ⟨r0, r1, r2, r3, r4⟩ := r
                    exact ⟨by rw [r0, r1, r2, r3, r4]; decide, own_prs r0 r1 (own_pr_lt (by decide) c12), own_prs r1 r2 (own_pr_lt (by decide) c23), own_prs r2 r3 (own_pr_gt anti c03), own_prs r3 r4 (own_pr_lt (by decide) c04)⟩
          · skip
            by_cases c14 : own_q sv 1 4
            · skip
              have r : own_m5_5 sv 0 = 4 ∧ own_m5_5 sv 1 = 1 ∧ own_m5_5 sv 2 = 2 ∧ own_m5_5 sv 3 = 0 ∧ own_m5_5 sv 4 = 3 := by
                simp [own_m5_0, own_m5_1, own_m5_2, own_m5_3, own_m5_4, own_m5_5, own_ml, own_up, own_id, own_zero, c01, c23, c12, c02, c03, c14]
              obtain ⟨r0, r1, r2, r3, r4⟩ := r
              exact ⟨by rw [r0, r1, r2, r3, r4]; decide, own_prs r0 r1 (own_pr_gt anti c14), own_prs r1 r2 (own_pr_lt (by decide) c12), own_prs r2 r3 (own_pr_gt anti c02), own_prs r3 r4 (own_pr_lt (by decide) c03)⟩
            · skip
              by_cases c24 : own_q sv 2 4
              · skip
                have r : own_m5_5 sv 0 = 1 ∧ own_m5_5 sv 1 = 4 ∧ own_m5_5 sv 2 = 2 ∧ own_m5_5 sv 3 = 0 ∧ own_m5_5 sv 4 = 3 := by
                  simp [own_m5_0, own_m5_1, own_m5_2, own_m5_3, own_m5_4, own_m5_5, own_ml, own_up, own_id, own_zero, c01, c23, c12, c02, c03, c14, c24]
                obtain ⟨r0, r1, r2, r3, r4⟩ := r
                exact ⟨by rw [r0, r1, r2, r3, r4]; decide, own_prs r0 r1 (own_pr_lt (by decide) c14), own_prs r1 r2 (own_pr_gt anti c24), own_prs r2 r3 (own_pr_gt anti c02), own_prs r3 r4 (own_pr_lt (by decide) c03)⟩
              · skip
                by_cases c04 : own_q sv 0 4
                · skip
                  have r : own_m5_5 sv 0 = 1 ∧ own_m5_5 sv 1 = 2 ∧ own_m5_5 sv 2 = 4 ∧ own_m5_5 sv 3 = 0 ∧ own_m5_5 sv 4 = 3 := by
                    simp [own_m5_0, own_m5_1, own_m5_2, own_m5_3, own_m5_4, own_m5_5, own_ml, own_up, own_id, own_zero, c01, c23, c12, c02, c03, c14, c24, c04]
                  obtain ⟨r0, r1, r2, r3, r4⟩ := r
                  exact ⟨by rw [r0, r1, r2, r3, r4]; decide, own_prs r0 r1 (own_pr_lt (by decide) c12), own_prs r1 r2 (own_pr_lt (by decide) c24), own_prs r2 r3 (own_pr_gt anti c04), own_prs r3 r4 (own_pr_lt (by decide) c03)⟩
                · skip
                  by_cases c34 : own_q sv 3 4
                  · skip
                    have r : own_m5_5 sv 0 = 1 ∧ own_m5_5 sv 1 = 2 ∧ own_m5_5 sv 2 = 0 ∧ own_m5_5 sv 3 = 4 ∧ own_m5_5 sv 4 = 3 := by
                      simp [own_m5_0, own_m5_1, own_m5_2, own_m5_3, own_m5_4, own_m5_5, own_ml, own_up, own_id, own_zero, c01, c23, c12, c02, c03, c14, c24, c04, c34]
                    obtain ⟨r0, r1, r2, r3, r4⟩ := r
                    exact ⟨by rw [r0, r1, r2, r3, r4]; decide, own_prs r0 r1 (own_pr_lt (by decide) c12), own_prs r1 r2 (own_pr_gt anti c02), own_prs r2 r3 (own_pr_lt (by decide) c04), own_prs r3 r4 (own_pr_gt anti c34)⟩
                  · skip
                    have r : own_m5_5 sv 0 = 1 ∧ own_m5_5 sv 1 = 2 ∧ own_m5_5 sv 2 = 0 ∧ own_m5_5 sv 3 = 3 ∧ own_m5_5 sv 4 = 4 := by
                      simp [own_m5_0, own_m5_1, own_m5_2, own_m5_3, own_m5_4, own_m5_5, own_ml, own_up, own_id, own_zero, c01, c23, c12, c02, c03, c14, c24, c04, c34]
                    obtain ⟨r0, r1, r2, r3, r4⟩ := r
                    exact ⟨by rw [r0, r1, r2, r3, r4]; decide, own_prs r0 r1 (own_pr_lt (by decide) c12), own_prs r1 r2 (own_pr_gt anti c02), own_prs r2 r3 (own_pr_lt (by decide) c03), own_prs r3 r4 (own_pr_lt (by decide) c34)⟩
        · skip
          by_cases c14 : own_q sv 1 4
          · skip
            have r : own_m5_5 sv 0 = 4 ∧ own_m5_5 sv 1 = 1 ∧ own_m5_5 sv 2 = 0 ∧ own_m5_5 sv 3 = 2 ∧ own_m5_5 sv 4 = 3 := by
              simp [own_m5_0, own_m5_1, own_m5_2, own_m5_3, own_m5_4, own_m5_5, own_ml, own_up, own_id, own_zero, c01, c23, c12, c02, c14]
            obtain ⟨r0, r1, r2, r3, r4⟩ := r
            exact ⟨by rw [r0, r1, r2, r3, r4]; decide, own_prs r0 r1 (own_pr_gt anti c14), own_prs r1 r2 (own_pr_gt anti c01), own_prs r2 r3 (own_pr_lt (by decide) c02), own_prs r3 r4 (own_pr_lt (by decide) c23)⟩
          · skip
            by_cases c04 : own_q sv 0 4
            · skip
              have r : own_m5_5 sv 0 = 1 ∧ own_m5_5 sv 1 = 4 ∧ own_m5_5 sv 2 = 0 ∧ own_m5_5 sv 3 = 2 ∧ own_m5_5 sv 4 = 3 := by
                simp [own_m5_0, own_m5_1, own_m5_2, own_m5_3, own_m5_4, own_m5_5, own_ml, own_up, own_id, own_zero, c01, c23, c12, c02, c14, c04]
              obtain ⟨r0, r1, r2, r3, r4⟩ := r
              exact ⟨by rw [r0, r1, r2, r3, r4]; decide, own_prs r0 r1 (own_pr_lt (by decide) c14), own_prs r1 r2 (own_pr_gt anti c04), own_prs r2 r3 (own_pr_lt (by decide) c02), own_prs r3 r4 (own_pr_lt (by decide) c23)⟩
            · skip
              by_cases c24 : own_q sv 2 4
              · skip
                have r : own_m5_5 sv 0 = 1 ∧ own_m5_5 sv 1 = 0 ∧ own_m5_5 sv 2 = 4 ∧ own_m5_5 sv 3 = 2 ∧ own_m5_5 sv 4 = 3 := by
                  simp [own_m5_0, own_m5_1, own_m5_2, own_m5_3, own_m5_4, own_m5_5, own_ml, own_up, own_id, own_zero, c01, c23, c12, c02, c14, c04, c24]
                obtain ⟨r0, r1, r2, r3, r4⟩ := r
                exact ⟨by rw [r0, r1, r2, r3, r4]; decide, own_prs r0 r1 (own_pr_gt anti c01), own_prs r1 r2 (own_pr_lt (by decide) c04), own_prs r2 r3 (own_pr_gt anti c24), own_prs r3 r4 (own_pr_lt (by decide) c23)⟩
              · skip
                by_cases c34 : own_q sv 3 4
                · skip
                  have r : own_m5_5 sv 0 = 1 ∧ own_m5_5 sv 1 = 0 ∧ own_m5_5 sv 2 = 2 ∧ own_m5_5 sv 3 = 4 ∧ own_m5_5 sv 4 = 3 := by
                    simp [own_m5_0, own_m5_1, own_m5_2, own_m5_3, own_m5_4, own_m5_5, own_ml, own_up, own_id, own_zero, c01, c23, c12, c02, c14, c04, c24, c34]
                  obtain ⟨r0, r1, r2, r3, r4⟩ := r
                  exact ⟨by rw [r0, r1, r2, r3, r4]; decide, own_prs r0 r1 (own_pr_gt anti c01), own_prs r1 r2 (own_pr_lt (by decide) c02), own_prs r2 r3 (own_pr_lt (by decide) c24), own_prs r3 r4 (own_pr_gt anti c34)⟩
                · skip
                  have r : own_m5_5 sv 0 = 1 ∧ own_m5_5 sv 1 = 0 ∧ own_m5_5 sv 2 = 2 ∧ own_m5_5 sv 3 = 3 ∧ own_m5_5 sv 4 = 4 := by
                    simp [own_m5_0, own_m5_1, own_m5_2, own_m5_3, own_m5_4, own_m5_5, own_ml, own_up, own_id, own_zero, c01, c23, c12, c02, c14, c04, c24, c34]
                  obtain ⟨r0, r1, r2, r3, r4⟩ := r
                  exact ⟨by rw [r0, r1, r2, r3, r4]; decide, own_prs r0 r1 (own_pr_gt anti c01), own_prs r1 r2 (own_pr_lt (by decide) c02), own_prs r2 r3 (own_pr_lt (by decide) c23), own_prs r3 r4 (own_pr_lt (by decide) c34)⟩
  · skip
    by_cases c23 : own_q sv 2 3
    · skip
      by_cases c03 : own_q sv 0 3
      · skip
        by_cases c02 : own_q sv 0 2
        · skip
          by_cases c34 : own_q sv 3 4
          · skip
            have r : own_m5_5 sv 0 = 4 ∧ own_m5_5 sv 1 = 3 ∧ own_m5_5 sv 2 = 2 ∧ own_m5_5 sv 3 = 0 ∧ own_m5_5 sv 4 = 1 := by
              simp [own_m5_0, own_m5_1, own_m5_2, own_m5_3, own_m5_4, own_m5_5, own_ml, own_up, own_id, own_zero, c01, c23, c03, c02, c34]
            obtain ⟨r0, r1, r2, r3, r4⟩ := r
            exact ⟨by rw [r0, r1, r2, r3, r4]; decide, own_prs r0 r1 (own_pr_gt anti c34), own_prs r1 r2 (own_pr_gt anti c23), own_prs r2 r3 (own_pr_gt anti c02), own_prs r3 r4 (own_pr_lt (by decide) c01)⟩
          · skip
            by_cases c24 : own_q sv 2 4
            · skip
              have r : own_m5_5 sv 0 = 3 ∧ own_m5_5 sv 1 = 4 ∧ own_m5_5 sv 2 = 2 ∧ own_m5_5 sv 3 = 0 ∧ own_m5_5 sv 4 = 1 := by
                simp [own_m5_0, own_m5_1, own_m5_2, own_m5_3, own_m5_4, own_m5_5, own_ml, own_up, own_id, own_zero, c01, c23, c03, c02, c34, c24]
              obtain ⟨r0, r1, r2, r3, r4⟩ := r
              exact ⟨by rw [r0, r1, r2, r3, r4]; decide, own_prs r0 r1 (own_pr_lt (by decide) c34), own_prs r1 r2 (own_pr_gt anti c24), own_prs r2 r3 (own_pr_gt anti c02), own_prs r3 r4 (own_pr_lt (by decide) c01)⟩
            · skip
              by_cases c04 : own_q sv 0 4
              · skip
                have r : own_m5_5 sv 0 = 3 ∧ own_m5_5 sv 1 = 2 ∧ own_m5_5 sv 2 = 4 ∧ own_m5_5 sv 3 = 0 ∧ own_m5_5 sv 4 = 1 := by
                  simp [own_m5_0, own_m5_1, own_m5_2, own_m5_3, own_m5_4, own_m5_5, own_ml, own_up, own_id, own_zero, c01, c23, c03, c02, c34, c24, c04]
                obtain ⟨r0, r1, r2, r3, r4⟩ := r
                exact ⟨by rw [r0, r1, r2, r3, r4]; decide, own_prs r0 r1 (own_pr_gt anti c23), own_prs r1 r2 (own_pr_lt (by decide) c24), own_prs r2 r3 (own_pr_gt anti c04), own_prs r3 r4 (own_pr_lt (by decide) c01)⟩
              · skip
                by_cases c14 : own_q sv 1 4
                · skip
                  have r : own_m5_5 sv 0 = 3 ∧ own_m5_5 sv 1 = 2 ∧ own_m5_5 sv 2 = 0 ∧ own_m5_5 sv 3 = 4 ∧ own_m5_5 sv 4 = 1 := by
                    simp [own_m5_0, own_m5_1, own_m5_2, own_m5_3, own_m5_4, own_m5_5, own_ml, own_up, own_id, own_zero, c01, c23, c03, c02, c34, c24, c04, c14]
                  obtain ⟨r0, r1, r2, r3, r4⟩ := r
                  exact ⟨by rw [r0, r1, r2, r3, r4]; decide, own_prs r0 r1 (own_pr_gt anti c23), own_prs r1 r2 (own_pr_gt anti c02), own_prs r2 r3 (own_pr_lt (by decide) c04), own_prs r3 r4 (own_pr_gt anti c14)⟩
                · skip
                  have r : own_m5_5 sv 0 = 3 ∧ own_m5_5 sv 1 = 2 ∧ own_m5_5 sv 2 = 0 ∧ own_m5_5 sv 3 = 1 ∧ own_m5_5 sv 4 = 4 := by
                    simp [own_m5_0, own_m5_1, own_m5_2, own_m5_3, own_m5_4, own_m5_5, own_ml, own_up, own_id, own_zero, c01, c23, c03, c02, c34, c24, c04, c14]
                  obtain ⟨r0, r1, r2, r3, r4⟩ := r
                  exact ⟨by rw [r0, r1, r2, r3, r4]; decide, own_prs r0 r1 (own_pr_gt anti c23), own_prs r1 r2 (own_pr_gt anti c02), own_prs r2 r3 (own_pr_lt (by decide) c01), own_prs r3 r4 (own_pr_lt (by decide) c14)⟩
        · skip
          by_cases c12 : own_q sv 1 2
          · skip
            by_cases c34 : own_q sv 3 4
            · skip
              have r : own_m5_5 sv 0 = 4 ∧ own_m5_5 sv 1 = 3 ∧ own_m5_5 sv 2 = 0 ∧ own_m5_5 sv 3 = 2 ∧ own_m5_5 sv 4 = 1 := by
                simp [own_m5_0, own_m5_1, own_m5_2, own_m5_3, own_m5_4, own_m5_5, own_ml, own_up, own_id, own_zero, c01, c23, c03, c02, c12, c34]
              obtain ⟨r0, r1, r2, r3, r4⟩ := r
              exact ⟨by rw [r0, r1, r2, r3, r4]; decide, own_prs r0 r1 (own_pr_gt anti c34), own_prs r1 r2 (own_pr_gt anti c03), own_prs r2 r3 (own_pr_lt (by decide) c02), own_prs r3 r4 (own_pr_gt anti c12)⟩
            · skip
              by_cases c04 : own_q sv 0 4
              · skip
                have r : own_m5_5 sv 0 = 3 ∧ own_m5_5 sv 1 = 4 ∧ own_m5_5 sv 2 = 0 ∧ own_m5_5 sv 3 = 2 ∧ own_m5_5 sv 4 = 1 := by
                  simp [own_m5_0, own_m5_1, own_m5_2, own_m5_3, own_m5_4, own_m5_5, own_ml, own_up, own_id, own_zero, c01, c23, c03, c02, c12, c34, c04]
                obtain ⟨r0, r1, r2, r3, r4⟩ := r
                exact ⟨by rw [r0, r1, r2, r3, r4]; decide, own_prs r0 r1 (own_pr_lt (by decide) c34), own_prs r1 r2 (own_pr_gt anti c04), own_prs r2 r3 (own_pr_lt (by decide) c02), own_prs r3 r4 (own_pr_gt anti c12)⟩
              · skip
                by_cases c24 : own_q sv 2 4
                · skip
                  have r : own_m5_5 sv 0 = 3 ∧ own_m5_5 sv 1 = 0 ∧ own_m5_5 sv 2 = 4 ∧ own_m5_5 sv 3 = 2 ∧ own_m5_5 sv 4 = 1 := by
                    simp [own_m5_0, own_m5_1, own_m5_2, own_m5_3, own_m5_4, own_m5_5, own_ml, own_up, own_id, own_zero, c01, c23, c03, c02, c12, c34, c04, c24]
                  obtain ⟨r0, r1, r2, r3, r4⟩ := r
                  exact ⟨by rw [r0, r1, r2, r3, r4]; decide, own_prs r0 r1 (own_pr_gt anti c03), own_prs r1 r2 (own_pr_lt (by decide) c04), own_prs r2 r3 (own_pr_gt anti c24), own_prs r3 r4 (own_pr_gt anti c12)⟩
                · skip
                  by_cases c14 : own_q sv 1 4
                  · skip
                    have r : own_m5_5 sv 0 = 3 ∧ own_m5_5 sv 1 = 0 ∧ own_m5_5 sv 2 = 2 ∧ own_m5_5 sv 3 = 4 ∧ own_m5_5 sv 4 = 1 := by
                      simp [own_m5_0, own_m5_1, own_m5_2, own_m5_3, own_m5_4, own_m5_5, own_ml, own_up, own_id, own_zero, c01, c23, c03, c02, c12, c34, c04, c24, c14]
                    obtain ⟨r0, r1, r2, r3, r4⟩ := r
                    exact ⟨by rw [r0, r1, r2, r3, r4]; decide, own_prs r0 r1 (own_pr_gt anti c03), own_prs r1 r2 (own_pr_lt (by decide) c02), own_prs r2 r3 (own_pr_lt (by decide) c24), own_prs r3 r4 (own_pr_gt anti c14)⟩
                  · skip
                    have r : own_m5_5 sv 0 = 3 ∧ own_m5_5 sv 1 = 0 ∧ own_m5_5 sv 2 = 2 ∧ own_m5_5 sv 3 = 1 ∧ own_m5_5 sv 4 = 4 := by
                      simp [own_m5_0, own_m5_1, own_m5_2, own_m5_3, own_m5_4, own_m5_5, own_ml, own_up, own_id, own_zero, c01, c23, c03, c02, c12, c34, c04, c24, c14]
                    obtain ⟨r0, r1, r2, r3, r4⟩ := r
                    exact ⟨by rw [r0, r1, r2, r3, r4]; decide, own_prs r0 r1 (own_pr_gt anti c03), own_prs r1 r2 (own_pr_lt (by decide) c02), own_prs r2 r3 (own_pr_gt anti c12), own_prs r3 r4 (own_pr_lt (by decide) c14)⟩
          · skip
            by_cases c34 : own_q sv 3 4
            · skip
              have r : own_m5_5 sv 0 = 4 ∧ own_m5_5 sv 1 = 3 ∧ own_m5_5 sv 2 = 0 ∧ own_m5_5 sv 3 = 1 ∧ own_m5_5 sv 4 = 2 := by
                simp [own_m5_0, own_m5_1, own_m5_2, own_m5_3, own_m5_4, own_m5_5, own_ml, own_up, own_id, own_zero, c01, c23, c03, c02, c12, c34]
              obtain ⟨r0, r1, r2, r3, r4⟩ := r
              exact ⟨by rw [r0, r1, r2, r3, r4]; decide, own_prs r0 r1 (own_pr_gt anti c34), own_prs r1 r2 (own_pr_gt anti c03), own_prs r2 r3 (own_pr_lt (by decide) c01), own_prs r3 r4 (own_pr_lt (by decide) c12)⟩
            · skip
              by_cases c04 : own_q sv 0 4
              · skip
                have r : own_m5_5 sv 0 = 3 ∧ own_m5_5 sv 1 = 4 ∧ own_m5_5 sv 2 = 0 ∧ own_m5_5 sv 3 = 1 ∧ own_m5_5 sv 4 = 2 := by
                  simp [own_m5_0, own_m5_1, own_m5_2, own_m5_3, own_m5_4, own_m5_5, own_ml, own_up, own_id, own_zero, c01, c23, c03, c02, c12, c34, c04]
                obtain ⟨r0, r1, r2, r3, r4⟩ := r
                exact ⟨by rw [r0, r1, r2, r3, r4]; decide, own_prs r0 r1 (own_pr_lt (by decide) c34), own_prs r1 r2 (own_pr_gt anti c04), own_prs r2 r3 (own_pr_lt (by decide) c01), own_prs r3 r4 (own_pr_lt (by decide) c12)⟩
              · skip
                by_cases c14 : own_q sv 1 4
                · skip
                  have r : own_m5_5 sv 0 = 3 ∧ own_m5_5 sv 1 = 0 ∧ own_m5_5 sv 2 = 4 ∧ own_m5_5 sv 3 = 1 ∧ own_m5_5 sv 4 = 2 := by
                    simp [own_m5_0, own_m5_1, own_m5_2, own_m5_3, own_m5_4, own_m5_5, own_ml, own_up, own_id, own_zero, c01, c23, c03, c02, c12, c34, c04, c14]
                  obtain ⟨r0, r1, r2, r3, r4⟩ := r
                  exact ⟨by rw [r0, r1, r2, r3, r4]; decide, own_prs r0 r1 (own_pr_gt anti c03), own_prs r1 r2 (own_pr_lt (by decide) c04), own_prs r2 r3 (own_pr_gt anti c14), own_prs r3 r4 (own_pr_lt (by decide) c12)⟩
                · skip
                  by_cases c24 : own_q sv 2 4
                  · skip
                    have r : own_m5_5 sv 0 = 3 ∧ own_m5_5 sv 1 = 0 ∧ own_m5_5 sv 2 = 1 ∧ own_m5_5 sv 3 = 4 ∧ own_m5_5 sv 4 = 2 := by
                      simp [own_m5_0, own_m5_1, own_m5_2, own_m5_3, own_m5_4, own_m5_5, own_ml, own_up, own_id, own_zero, c01, c23, c03, c02, c12, c34, c04, c14, c24]
                    obtain ⟨r0, r1, r2, r3, r4⟩ := r
                    exact ⟨by rw [r0, r1, r2, r3, r4]; decide, own_prs r0 r1 (own_pr_gt anti c03), own_prs r1 r2 (own_pr_lt (by decide) c01), own_prs r2 r3 (own_pr_lt (by decide) c14), own_prs r3 r4 (own_pr_gt anti c24)⟩
                  · skip
                    have r : own_m5_5 sv 0 = 3 ∧ own_m5_5 sv 1 = 0 ∧ own_m5_5 sv 2 = 1 ∧ own_m5_5 sv 3 = 2 ∧ own_m5_5 sv 4 = 4 := by
                      simp [own_m5_0, own_m5_1, own_m5_2, own_m5_3, own_m5_4, own_m5_5, own_ml, own_up, own_id, own_zero, c01, c23, c03, c02, c12, c34, c04, c14, c24]
                    obtain ⟨r0, r1, r2, r3, r4⟩ := r
                    exact ⟨by rw [r0, r1, r2, r3, r4]; decide, own_prs r0 r1 (own_pr_gt anti c03), own_prs r1 r2 (own_pr_lt (by decide) c01), own_prs r2 r3 (own_pr_lt (by decide) c12), own_prs r3 r4 (own_pr_lt (by decide) c24)⟩
      · skip
        by_cases c13 : own_q sv 1 3
        · skip
          by_cases c12 : own_q sv 1 2
          · skip
            by_cases c04 : own_q sv 0 4
            · skip
              have r : own_m5_5 sv 0 = 4 ∧ own_m5_5 sv 1 = 0 ∧ own_m5_5 sv 2 = 3 ∧ own_m5_5 sv 3 = 2 ∧ own_m5_5 sv 4 = 1 := by
                simp [own_m5_0, own_m5_1, own_m5_2, own_m5_3, own_m5_4, own_m5_5, own_ml, own_up, own_id, own_zero, c01, c23, c03, c13, c12, c04]
              obtain ⟨r0, r1, r2, r3, r4⟩ := r
              exact ⟨by rw [r0, r1, r2, r3, r4]; decide, own_prs r0 r1 (own_pr_gt anti c04), own_prs r1 r2 (own_pr_lt (by decide) c03), own_prs r2 r3 (own_pr_gt anti c23), own_prs r3 r4 (own_pr_gt anti c12)⟩
            · skip
              by_cases c34 : own_q sv 3 4
              · skip
                have r : own_m5_5 sv 0 = 0 ∧ own_m5_5 sv 1 = 4 ∧ own_m5_5 sv 2 = 3 ∧ own_m5_5 sv 3 = 2 ∧ own_m5_5 sv 4 = 1 := by
                  simp [own_m5_0, own_m5_1, own_m5_2, own_m5_3, own_m5_4, own_m5_5, own_ml, own_up, own_id, own_zero, c01, c23, c03, c13, c12, c04, c34]
                obtain ⟨r0, r1, r2, r3, r4⟩ := r
                exact ⟨by rw [r0, r1, r2, r3, r4]; decide, own_prs r0 r1 (own_pr_lt (by decide) c04), own_prs r1 r2 (own_pr_gt anti c34), own_prs r2 r3 (own_pr_gt anti c23), own_prs r3 r4 (own_pr_gt anti c12)⟩
              · skip
                by_cases c24 : own_q sv 2 4
                · skip
                  have r : own_m5_5 sv 0 = 0 ∧ own_m5_5 sv 1 = 3 ∧ own_m5_5 sv 2 = 4 ∧ own_m5_5 sv 3 = 2 ∧ own_m5_5 sv 4 = 1 := by
                    simp [own_m5_0, own_m5_1, own_m5_2, own_m5_3, own_m5_4, own_m5_5, own_ml, own_up, own_id, own_zero, c01, c23, c03, c13, c12, c04, c34, c24]
                  obtain ⟨r0, r1, r2, r3, r4⟩ := r
                  exact ⟨by rw [r0, r1, r2, r3, r4]; decide, own_prs r0 r1 (own_pr_lt (by decide) c03), own_prs r1 r2 (own_pr_lt (by decide) c34), own_prs r2 r3 (own_pr_gt anti c24), own_prs r3 r4 (own_pr_gt anti c12)⟩
                · skip
                  by_cases c14 : own_q sv 1 4
                  · skip
                    have r : own_m5_5 sv 0 = 0 ∧ own_m5_5 sv 1 = 3 ∧ own_m5_5 sv 2 = 2 ∧ own_m5_5 sv 3 = 4 ∧ own_m5_5 sv 4 = 1 := by
                      simp [own_m5_0, own_m5_1, own_m5_2, own_m5_3, own_m5_4, own_m5_5, own_ml, own_up, own_id, own_zero, c01, c23, c03, c13, c12, c04, c34, c24, c14]
                    obtain ⟨r0, r1, r2, r3, r4⟩ := r
                    exact ⟨by rw [r0, r1, r2, r3, r4]; decide, own_prs r0 r1 (own_pr_lt (by decide) c03), own_prs r1 r2 (own_pr_gt anti c23), own_prs r2 r3 (own_pr_lt (by decide) c24), own_prs r3 r4 (own_pr_gt anti c14)⟩
                  · skip
                    have r : own_m5_5 sv 0 = 0 ∧ own_m5_5 sv 1 = 3 ∧ own_m5_5 sv 2 = 2 ∧ own_m5_5 sv 3 = 1 ∧ own_m5_5 sv 4 = 4 := by
                      simp [own_m5_0, own_m5_1, own_m5_2, own_m5_3, own_m5_4, own_m5_5, own_ml, own_up, own_id, own_zero, c01, c23, c03, c13, c12, c04, c34, c24, c14]
                    obtain ⟨r0, r1, r2, r3, r4⟩ := r
                    exact ⟨by rw [r0, r1, r2, r3, r4]; decide, own_prs r0 r1 (own_pr_lt (by decide) c03), own_prs r1 r2 (own_pr_gt anti c23), own_prs r2 r3 (own_pr_gt anti c12), own_prs r3 r4 (own_pr_lt (by decide) c14)⟩
          · skip
            by_cases c04 : own_q sv 0 4
            · skip
              have r : own_m5_5 sv 0 = 4 ∧ own_m5_5 sv 1 = 0 ∧ own_m5_5 sv 2 = 3 ∧ own_m5_5 sv 3 = 1 ∧ own_m5_5 sv 4 = 2 := by
                simp [own_m5_0, own_m5_1, own_m5_2, own_m5_3, own_m5_4, own_m5_5, own_ml, own_up, own_id, own_zero, c01, c23, c03, c13, c12, c04]
              obtain ⟨r0, r1, r2, r3, r4⟩ := r
              exact ⟨by rw [r0, r1, r2, r3, r4]; decide, own_prs r0 r1 (own_pr_gt anti c04), own_prs r1 r2 (own_pr_lt (by decide) c03), own_prs r2 r3 (own_pr_gt anti c13), own_prs r3 r4 (own_pr_lt (by decide) c12)⟩
            · skip
              by_cases c34 : own_q sv 3 4
              · skip
                have r : own_m5_5 sv 0 = 0 ∧ own_m5_5 sv 1 = 4 ∧ own_m5_5 sv 2 = 3 ∧ own_m5_5 sv 3 = 1 ∧ own_m5_5 sv 4 = 2 := by
                  simp [own_m5_0, own_m5_1, own_m5_2, own_m5_3, own_m5_4, own_m5_5, own_ml, own_up, own_id, own_zero, c01, c23, c03, c13, c12, c04, c34]
                obtain ⟨r0, r1, r2, r3, r4⟩ := r
                exact ⟨by rw [r0, r1, r2, r3, r4]; decide, own_prs r0 r1 (own_pr_lt (by decide) c04), own_prs r1 r2 (own_pr_gt anti c34), own_prs r2 r3 (own_pr_gt anti c13), own_prs r3 r4 (own_pr_lt (by decide) c12)⟩
              · skip
                by_cases c14 : own_q sv 1 4
                · skip
                  have r : own_m5_5 sv 0 = 0 ∧ own_m5_5 sv 1 = 3 ∧ own_m5_5 sv 2 = 4 ∧ own_m5_5 sv 3 = 1 ∧ own_m5_5 sv 4 = 2 := by
                    simp [own_m5_0, own_m5_1, own_m5_2, own_m5_3, own_m5_4, own_m5_5, own_ml, own_up, own_id, own_zero, c01, c23, c03, c13, c12, c04, c34, c14]
                  obtain ⟨r0, r1, r2, r3, r4⟩ := r
                  exact ⟨by rw [r0, r1, r2, r3, r4]; decide, own_prs r0 r1 (own_pr_lt (by decide) c03), own_prs r1 r2 (own_pr_lt (by decide) c34), own_prs r2 r3 (own_pr_gt anti c14), own_prs r3 r4 (own_pr_lt (by decide) c12)⟩
                · skip
                  by_cases c24 : own_q sv 2 4
                  · skip
                    have r : own_m5_5 sv 0 = 0 ∧ own_m5_5 sv 1 = 3 ∧ own_m5_5 sv 2 = 1 ∧ own_m5_5 sv 3 = 4 ∧ own_m5_5 sv 4 = 2 := by
                      simp [own_m5_0, own_m5_1, own_m5_2, own_m5_3, own_m5_4, own_m5_5, own_ml, own_up, own_id, own_zero, c01, c23, c03, c13, c12, c04, c34, c14, c24]
                    obtain ⟨r0, r1, r2, r3, r4⟩ := r
                    exact ⟨by rw [r0, r1, r2, r3, r4]; decide, own_prs r0 r1 (own_pr_lt (by decide) c03), own_prs r1 r2 (own_pr_gt anti c13), own_prs r2 r3 (own_pr_lt (by decide) c14), own_prs r3 r4 (own_pr_gt anti c24)⟩
                  · skip
                    have r : own_m5_5 sv 0 = 0 ∧ own_m5_5 sv 1 = 3 ∧ own_m5_5 sv 2 = 1 ∧ own_m5_5 sv 3 = 2 ∧ own_m5_5 sv 4 = 4 := by
                      simp [own_m5_0, own_m5_1, own_m5_2, own_m5_3, own_m5_4, own_m5_5, own_ml, own_up, own_id, own_zero, c01, c23, c03, c13, c12, c04, c34, c14, c24]
                    obtain ⟨r0, r1, r2, r3, r4⟩ := r
                    exact ⟨by rw [r0, r1, r2, r3, r4]; decide, own_prs r0 r1 (own_pr_lt (by decide) c03), own_prs r1 r2 (own_pr_gt anti c13), own_prs r2 r3 (own_pr_lt (by decide) c12), own_prs r3 r4 (own_pr_lt (by decide) c24)⟩
        · skip
          by_cases c04 : own_q sv 0 4
          · skip
            have r : own_m5_5 sv 0 = 4 ∧ own_m5_5 sv 1 = 0 ∧ own_m5_5 sv 2 = 1 ∧ own_m5_5 sv 3 = 3 ∧ own_m5_5 sv 4 = 2 := by
              simp [own_m5_0, own_m5_1, own_m5_2, own_m5_3, own_m5_4, own_m5_5, own_ml, own_up, own_id, own_zero, c01, c23, c03, c13, c04]
            obtain ⟨r0, r1, r2, r3, r4⟩ := r
            exact ⟨by rw [r0, r1, r2, r3, r4]; decide, own_prs r0 r1 (own_pr_gt anti c04), own_prs r1 r2 (own_pr_lt (by decide) c01), own_prs r2 r3 (own_pr_lt (by decide) c13), own_prs r3 r4 (own_pr_gt anti c23)⟩
          · skip
            by_cases c14 : own_q sv 1 4
            · skip
              have r : own_m5_5 sv 0 = 0 ∧ own_m5_5 sv 1 = 4 ∧ own_m5_5 sv 2 = 1 ∧ own_m5_5 sv 3 = 3 ∧ own_m5_5 sv 4 = 2 := by
                simp [own_m5_0, own_m5_1, own_m5_2, own_m5_3, own_m5_4, own_m5_5, own_ml, own_up, own_id, own_zero, c01, c23, c03, c13, c04, c14]
              obtain ⟨r0, r1, r2, r3, r4⟩ := r
              exact ⟨by rw [r0, r1, r2, r3, r4]; decide, own_prs r0 r1 (own_pr_lt (by decide) c04), own_prs r1 r2 (own_pr_gt anti c14), own_prs r2 r3 (own_pr_lt (by decide) c13), own_prs r3 r4 (own_pr_gt anti c23)⟩
            · skip
              by_cases c34 : own_q sv 3 4
              · skip
                have r : own_m5_5 sv 0 = 0 ∧ own_m5_5 sv 1 = 1 ∧ own_m5_5 sv 2 = 4 ∧ own_m5_5 sv 3 = 3 ∧ own_m5_5 sv 4 = 2 := by
                  simp [own_m5_0, own_m5_1, own_m5_2, own_m5_3, own_m5_4, own_m5_5, own_ml, own_up, own_id, own_zero, c01, c23, c03, c13, c04, c14, c34]
                obtain ⟨r0, r1, r2, r3, r4⟩ := r
                exact ⟨by rw [r0, r1, r2, r3, r4]; decide, own_prs r0 r1 (own_pr_lt (by decide) c01), own_prs r1 r2 (own_pr_lt (by decide) c14), own_prs r2 r3 (own_pr_gt anti c34), own_prs r3 r4 (own_pr_gt anti c23)⟩
              · skip
                by_cases c24 : own_q sv 2 4
                · skip
                  have r : own_m5_5 sv 0 = 0 ∧ own_m5_5 sv 1 = 1 ∧ own_m5_5 sv 2 = 3 ∧ own_m5_5 sv 3 = 4 ∧ own_m5_5 sv 4 = 2 := by
                    simp [own_m5_0, own_m5_1, own_m5_2, own_m5_3, own_m5_4, own_m5_5, own_ml, own_up, own_id, own_zero, c01, c23, c03, c13, c04, c14, c34, c24]
                  obtain ⟨r0, r1, r2, r3, r4⟩ := r
                  exact ⟨by rw [r0, r1, r2, r3, r4]; decide, own_prs r0 r1 (own_pr_lt (by decide) c01), own_prs r1 r2 (own_pr_lt (by decide) c13), own_prs r2 r3 (own_pr_lt (by decide) c34), own_prs r3 r4 (own_pr_gt anti c24)⟩
                · skip
                  have r : own_m5_5 sv 0 = 0 ∧ own_m5_5 sv 1 = 1 ∧ own_m5_5 sv 2 = 3 ∧ own_m5_5 sv 3 = 2 ∧ own_m5_5 sv 4 = 4 := by
                    simp [own_m5_0, own_m5_1, own_m5_2, own_m5_3, own_m5_4, own_m5_5, own_ml, own_up, own_id, own_zero, c01, c23, c03, c13, c04, c14, c34, c24]
                  obtain ⟨r0, r1, r2, r3, r4⟩ := r
                  exact ⟨by rw [r0, r1, r2, r3, r4]; decide, own_prs r0 r1 (own_pr_lt (by decide) c01), own_prs r1 r2 (own_pr_lt (by decide) c13), own_prs r2 r3 (own_pr_gt anti c23), own_prs r3 r4 (own_pr_lt (by decide) c24)⟩
    · skip
      by_cases c02 : own_q sv 0 2
      · skip
        by_cases c03 : own_q sv 0 3
        · skip
          by_cases c24 : own_q sv 2 4
          · skip
            have r : own_m5_5 sv 0 = 4 ∧ own_m5_5 sv 1 = 2 ∧ own_m5_5 sv 2 = 3 ∧ own_m5_5 sv 3 = 0 ∧ own_m5_5 sv 4 = 1 := by
              simp [own_m5_0, own_m5_1, own_m5_2, own_m5_3, own_m5_4, own_m5_5, own_ml, own_up, own_id, own_zero, c01, c23, c02, c03, c24]
            obtain ⟨r0, r1, r2, r3, r4⟩ := r
            exact ⟨by rw [r0, r1, r2, r3, r4]; decide, own_prs r0 r1 (own_pr_gt anti c24), own_prs r1 r2 (own_pr_lt (by decide) c23), own_prs r2 r3 (own_pr_gt anti c03), own_prs r3 r4 (own_pr_lt (by decide) c01)⟩
          · skip
            by_cases c34 : own_q sv 3 4
            · skip
              have r : own_m5_5 sv 0 = 2 ∧ own_m5_5 sv 1 = 4 ∧ own_m5_5 sv 2 = 3 ∧ own_m5_5 sv 3 = 0 ∧ own_m5_5 sv 4 = 1 := by
                simp [own_m5_0, own_m5_1, own_m5_2, own_m5_3, own_m5_4, own_m5_5, own_ml, own_up, own_id, own_zero, c01, c23, c02, c03, c24, c34]
              obtain ⟨r0, r1, r2, r3, r4⟩ := r
              exact ⟨by rw [r0, r1, r2, r3, r4]; decide, own_prs r0 r1 (own_pr_lt (by decide) c24), own_prs r1 r2 (own_pr_gt anti c34), own_prs r2 r3 (own_pr_gt anti c03), own_prs r3 r4 (own_pr_lt (by decide) c01)⟩
            · skip
              by_cases c04 : own_q sv 0 4
              · skip
                have r : own_m5_5 sv 0 = 2 ∧ own_m5_5 sv 1 = 3 ∧ own_m5_5 sv 2 = 4 ∧ own_m5_5 sv 3 = 0 ∧ own_m5_5 sv 4 = 1 := by
                  simp [own_m5_0, own_m5_1, own_m5_2, own_m5_3, own_m5_4, own_m5_5, own_ml, own_up, own_id, own_zero, c01, c23, c02, c03, c24, c34, c04]
                obtain ⟨r0, r1, r2, r3, r4⟩ := r
                exact ⟨by rw [r0, r1, r2, r3, r4]; decide, own_prs r0 r1 (own_pr_lt (by decide) c23), own_prs r1 r2 (own_pr_lt (by decide) c34), own_prs r2 r3 (own_pr_gt anti c04), own_prs r3 r4 (own_pr_lt (by decide) c01)⟩
              · skip
                by_cases c14 : own_q sv 1 4
                · skip
                  have r : own_m5_5 sv 0 = 2 ∧ own_m5_5 sv 1 = 3 ∧ own_m5_5 sv 2 = 0 ∧ own_m5_5 sv 3 = 4 ∧ own_m5_5 sv 4 = 1 := by
                    simp [own_m5_0, own_m5_1, own_m5_2, own_m5_3, own_m5_4, own_m5_5, own_ml, own_up, own_id, own_zero, c01, c23, c02, c03, c24, c34, c04, c14]
                  obtain ⟨r0, r1, r2, r3, r4⟩ := r
                  exact ⟨by rw [r0, r1, r2, r3, r4]; decide, own_prs r0 r1 (own_pr_lt (by decide) c23), own_prs r1 r2 (own_pr_gt anti c03), own_prs r2 r3 (own_pr_lt (by decide) c04), own_prs r3 r4 (own_pr_gt anti c14)⟩
                · skip
                  have r : own_m5_5 sv 0 = 2 ∧ own_m5_5 sv 1 = 3 ∧ own_m5_5 sv 2 = 0 ∧ own_m5_5 sv 3 = 1 ∧ own_m5_5 sv 4 = 4 := by
                    simp [own_m5_0, own_m5_1, own_m5_2, own_m5_3, own_m5_4, own_m5_5, own_ml, own_up, own_id, own_zero, c01, c23, c02, c03, c24, c34, c04, c14]
                  obtain ⟨r0, r1, r2, r3, r4⟩ := r
                  exact ⟨by rw [r0, r1, r2, r3, r4]; decide, own_prs r0 r1 (own_pr_lt (by decide) c23), own_prs r1 r2 (own_pr_gt anti c03), own_prs r2 r3 (own_pr_lt (by decide) c01), own_prs r3 r4 (own_pr_lt (by decide) c14)⟩
        · skip
          by_cases c13 : own_q sv 1 3
          · skip
            by_cases c24 : own_q sv 2 4
            · skip
              have r : own_m5_5 sv 0 = 4 ∧ own_m5_5 sv 1 = 2 ∧ own_m5_5 sv 2 = 0 ∧ own_m5_5 sv 3 = 3 ∧ own_m5_5 sv 4 = 1 := by
                simp [own_m5_0, own_m5_1, own_m5_2, own_m5_3, own_m5_4, own_m5_5, own_ml, own_up, own_id, own_zero, c01, c23, c02, c03, c13, c24]
              obtain ⟨r0, r1, r2, r3, r4⟩ := r
              exact ⟨by rw [r0, r1, r2, r3, r4]; decide, own_prs r0 r1 (own_pr_gt anti c24), own_prs r1 r2 (own_pr_gt anti c02), own_prs r2 r3 (own_pr_lt (by decide) c03), own_prs r3 r4 (own_pr_gt anti c13)⟩
            · skip
              by_cases c04 : own_q sv 0 4
              · skip
                have r : own_m5_5 sv 0 = 2 ∧ own_m5_5 sv 1 = 4 ∧ own_m5_5 sv 2 = 0 ∧ own_m5_5 sv 3 = 3 ∧ own_m5_5 sv 4 = 1 := by
                  simp [own_m5_0, own_m5_1, own_m5_2, own_m5_3, own_m5_4, own_m5_5, own_ml, own_up, own_id, own_zero, c01, c23, c02, c03, c13, c24, c04]
                obtain ⟨r0, r1, r2, r3, r4⟩ := r
                exact ⟨by rw [r0, r1, r2, r3, r4]; decide, own_prs r0 r1 (own_pr_lt (by decide) c24), own_prs r1 r2 (own_pr_gt anti c04), own_prs r2 r3 (own_pr_lt (by decide) c03), own_prs r3 r4 (own_pr_gt anti c13)⟩
              · skip
                by_cases c34 : own_q sv 3 4
                · skip
                  have r : own_m5_5 sv 0 = 2 ∧ own_m5_5 sv 1 = 0 ∧ own_m5_5 sv 2 = 4 ∧ own_m5_5 sv 3 = 3 ∧ own_m5_5 sv 4 = 1 := by
                    simp [own_m5_0, own_m5_1, own_m5_2, own_m5_3, own_m5_4, own_m5_5, own_ml, own_up, own_id, own_zero, c01, c23, c02, c03, c13, c24, c04, c34]
                  obtain ⟨r0, r1, r2, r3, r4⟩ := r
                  exact ⟨by rw [r0, r1, r2, r3, r4]; decide, own_prs r0 r1 (own_pr_gt anti c02), own_prs r1 r2 (own_pr_lt (by decide) c04), own_prs r2 r3 (own_pr_gt anti c34), own_prs r3 r4 (own_pr_gt anti c13)⟩
                · skip
                  by_cases c14 : own_q sv 1 4
                  · skip
                    have r : own_m5_5 sv 0 = 2 ∧ own_m5_5 sv 1 = 0 ∧ own_m5_5 sv 2 = 3 ∧ own_m5_5 sv 3 = 4 ∧ own_m5_5 sv 4 = 1 := by
                      simp [own_m5_0, own_m5_1, own_m5_2, own_m5_3, own_m5_4, own_m5_5, own_ml, own_up, own_id, own_zero, c01, c23, c02, c03, c13, c24, c04, c34, c14]
                    obtain ⟨r0, r1, r2, r3, r4⟩ := r
                    exact ⟨by rw [r0, r1, r2, r3, r4]; decide, own_prs r0 r1 (own_pr_gt anti c02), own_prs r1 r2 (own_pr_lt (by decide) c03), own_prs r2 r3 (own_pr_lt (by decide) c34), own_prs r3 r4 (own_pr_gt anti c14)⟩
                  · skip
                    have r : own_m5_5 sv 0 = 2 ∧ own_m5_5 sv 1 = 0 ∧ own_m5_5 sv 2 = 3 ∧ own_m5_5 sv 3 = 1 ∧ own_m5_5 sv 4 = 4 := by
                      simp [own_m5_0, own_m5_1, own_m5_2, own_m5_3, own_m5_4, own_m5_5, own_ml, own_up, own_id, own_zero, c01, c23, c02, c03, c13, c24, c04, c34, c14]
                    obtain ⟨r0, r1, r2, r3, r4⟩ := r
                    exact ⟨by rw [r0, r1, r2, r3, r4]; decide, own_prs r0 r1 (own_pr_gt anti c02), own_prs r1 r2 (own_pr_lt (by decide) c03), own_prs r2 r3 (own_pr_gt anti c13), own_prs r3 r4 (own_pr_lt (by decide) c14)⟩
          · skip
            by_cases c24 : own_q sv 2 4
            · skip
              have r : own_m5_5 sv 0 = 4 ∧ own_m5_5 sv 1 = 2 ∧ own_m5_5 sv 2 = 0 ∧ own_m5_5 sv 3 = 1 ∧ own_m5_5 sv 4 = 3 := by
                simp [own_m5_0, own_m5_1, own_m5_2, own_m5_3, own_m5_4, own_m5_5, own_ml, own_up, own_id, own_zero, c01, c23, c02, c03, c13, c24]
              obtain ⟨r0, r1, r2, r3, r4⟩ := r
              exact ⟨by rw [r0, r1, r2, r3, r4]; decide, own_prs r0 r1 (own_pr_gt anti c24), own_prs r1 r2 (own_pr_gt anti c02), own_prs r2 r3 (own_pr_lt (by decide) c01), own_prs r3 r4 (own_pr_lt (by decide) c13)⟩
            · skip
              by_cases c04 : own_q sv 0 4
              · skip
                have r : own_m5_5 sv 0 = 2 ∧ own_m5_5 sv 1 = 4 ∧ own_m5_5 sv 2 = 0 ∧ own_m5_5 sv 3 = 1 ∧ own_m5_5 sv 4 = 3 := by
                  simp [own_m5_0, own_m5_1, own_m5_2, own_m5_3, own_m5_4, own_m5_5, own_ml, own_up, own_id, own_zero, c01, c23, c02, c03, c13, c24, c04]
                obtain ⟨r0, r1, r2, r3, r4⟩ := r
                exact ⟨by rw [r0, r1, r2, r3, r4]; decide, own_prs r0 r1 (own_pr_lt (by decide) c24), own_prs r1 r2 (own_pr_gt anti c04), own_prs r2 r3 (own_pr_lt (by decide) c01), own_prs r3 r4 (own_pr_lt (by decide) c13)⟩
              · skip
                by_cases c14 : own_q sv 1 4
                · skip
                  have r : own_m5_5 sv 0 = 2 ∧ own_m5_5 sv 1 = 0 ∧ own_m5_5 sv 2 = 4 ∧ own_m5_5 sv 3 = 1 ∧ own_m5_5 sv 4 = 3 := by
                    simp [own_m5_0, own_m5_1, own_m5_2, own_m5_3, own_m5_4, own_m5_5, own_ml, own_up, own_id, own_zero, c01, c23, c02, c03, c13, c24, c04, c14]
                  obtain ⟨r0, r1, r2, r3, r4⟩ := r
                  exact ⟨by rw [r0, r1, r2, r3, r4]; decide, own_prs r0 r1 (own_pr_gt anti c02), own_prs r1 r2 (own_pr_lt (by decide) c04), own_prs r2 r3 (own_pr_gt anti c14), own_prs r3 r4 (own_pr_lt (by decide) c13)⟩
                · skip
                  by_cases c34 : own_q sv 3 4
                  · skip
                    have r : own_m5_5 sv 0 = 2 ∧ own_m5_5 sv 1 = 0 ∧ own_m5_5 sv 2 = 1 ∧ own_m5_5 sv 3 = 4 ∧ own_m5_5 sv 4 = 3 := by
                      simp [own_m5_0, own_m5_1, own_m5_2, own_m5_3, own_m5_4, own_m5_5, own_ml, own_up, own_id, own_zero, c01, c23, c02, c03, c13, c24, c04, c14, c34]
                    obtain ⟨r0, r1, r2, r3, r4⟩ := r
                    exact ⟨by rw [r0, r1, r2, r3, r4]; decide, own_prs r0 r1 (own_pr_gt anti c02), own_prs r1 r2 (own_pr_lt (by decide) c01), own_prs r2 r3 (own_pr_lt (by decide) c14), own_prs r3 r4 (own_pr_gt anti c34)⟩
                  · skip
                    have r : own_m5_5 sv 0 = 2 ∧ own_m5_5 sv 1 = 0 ∧ own_m5_5 sv 2 = 1 ∧ own_m5_5 sv 3 = 3 ∧ own_m5_5 sv 4 = 4 := by
                      simp [own_m5_0, own_m5_1, own_m5_2, own_m5_3, own_m5_4, own_m5_5, own_ml, own_up, own_id, own_zero, c01, c23, c02, c03, c13, c24, c04, c14, c34]
                    obtain ⟨r0, r1, r2, r3, r4⟩ := r
                    exact ⟨by rw [r0, r1, r2, r3, r4]; decide, own_prs r0 r1 (own_pr_gt anti c02), own_prs r1 r2 (own_pr_lt (by decide) c01), own_prs r2 r3 (own_pr_lt (by decide) c13), own_prs r3 r4 (own_pr_lt (by decide) c34)⟩
      · skip
        by_cases c12 : own_q sv 1 2
        · skip
          by_cases c13 : own_q sv 1 3
          · skip
            by_cases c04 : own_q sv 0 4
            · skip
              have r : own_m5_5 sv 0 = 4 ∧ own_m5_5 sv 1 = 0 ∧ own_m5_5 sv 2 = 2 ∧ own_m5_5 sv 3 = 3 ∧ own_m5_5 sv 4 = 1 := by
                simp [own_m5_0, own_m5_1, own_m5_2, own_m5_3, own_m5_4, own_m5_5, own_ml, own_up, own_id, own_zero, c01, c23, c02, c12, c13, c04]
              obtain ⟨r0, r1, r2, r3, r4⟩ := r
              exact ⟨by rw [r0, r1, r2, r3, r4]; decide, own_prs r0 r1 (own_pr_gt anti c04), own_prs r1 r2 (own_pr_lt (by decide) c02), own_prs r2 r3 (own_pr_lt (by decide) c23), own_prs r3 r4 (own_pr_gt anti c13)⟩
            · skip
              by_cases c24 : own_q sv 2 4
              · skip
                have r : own_m5_5 sv 0 = 0 ∧ own_m5_5 sv 1 = 4 ∧ own_m5_5 sv 2 = 2 ∧ own_m5_5 sv 3 = 3 ∧ own_m5_5 sv 4 = 1 := by
                  simp [own_m5_0, own_m5_1, own_m5_2, own_m5_3, own_m5_4, own_m5_5, own_ml, own_up, own_id, own_zero, c01, c23, c02, c12, c13, c04, c24]
                obtain ⟨r0, r1, r2, r3, r4⟩ := r
                exact ⟨by rw [r0, r1, r2, r3, r4]; decide, own_prs r0 r1 (own_pr_lt (by decide) c04), own_prs r1 r2 (own_pr_gt anti c24), own_prs r2 r3 (own_pr_lt (by decide) c23), own_prs r3 r4 (own_pr_gt anti c13)⟩
              · skip
                by_cases c34 : own_q sv 3 4
                · skip
                  have r : own_m5_5 sv 0 = 0 ∧ own_m5_5 sv 1 = 2 ∧ own_m5_5 sv 2 = 4 ∧ own_m5_5 sv 3 = 3 ∧ own_m5_5 sv 4 = 1 := by
                    simp [own_m5_0, own_m5_1, own_m5_2, own_m5_3, own_m5_4, own_m5_5, own_ml, own_up, own_id, own_zero, c01, c23, c02, c12, c13, c04, c24, c34]
                  obtain ⟨r0, r1, r2, r3, r4⟩ := r
                  exact ⟨by rw [r0, r1, r2, r3, r4]; decide, own_prs r0 r1 (own_pr_lt (by decide) c02), own_prs r1 r2 (own_pr_lt (by decide) c24), own_prs r2 r3 (own_pr_gt anti c34), own_prs r3 r4 (own_pr_gt anti c13)⟩
                · skip
                  by_cases c14 : own_q sv 1 4
                  · skip
                    have r : own_m5_5 sv 0 = 0 ∧ own_m5_5 sv 1 = 2 ∧ own_m5_5 sv 2 = 3 ∧ own_m5_5 sv 3 = 4 ∧ own_m5_5 sv 4 = 1 := by
                      simp [own_m5_0, own_m5_1, own_m5_2, own_m5_3, own_m5_4, own_m5_5, own_ml, own_up, own_id, own_zero, c01, c23, c02, c12, c13, c04, c24, c34, c14]
                    obtain ⟨r0, r1, r2, r3, r4⟩ := r
                    exact ⟨by rw [r0, r1, r2, r3, r4]; decide, own_prs r0 r1 (own_pr_lt (by decide) c02), own_prs r1 r2 (own_pr_lt (by decide) c23), own_prs r2 r3 (own_pr_lt (by decide) c34), own_prs r3 r4 (own_pr_gt anti c14)⟩
                  · skip
                    have r : own_m5_5 sv 0 = 0 ∧ own_m5_5 sv 1 = 2 ∧ own_m5_5 sv 2 = 3 ∧ own_m5_5 sv 3 = 1 ∧ own_m5_5 sv 4 = 4 := by
                      simp [own_m5_0, own_m5_1, own_m5_2, own_m5_3, own_m5_4, own_m5_5, own_ml, own_up, own_id, own_zero, c01, c23, c02, c12, c13, c04, c24, c34, c14]
                    obtain ⟨r0, r1, r2, r3, r4⟩ := r
                    exact ⟨by rw [r0, r1, r2, r3, r4]; decide, own_prs r0 r1 (own_pr_lt (by decide) c02), own_prs r1 r2 (own_pr_lt (by decide) c23), own_prs r2 r3 (own_pr_gt anti c13), own_prs r3 r4 (own_pr_lt (by decide) c14)⟩
          · skip
            by_cases c04 : own_q sv 0 4
            · skip
              have r : own_m5_5 sv 0 = 4 ∧ own_m5_5 sv 1 = 0 ∧ own_m5_5 sv 2 = 2 ∧ own_m5_5 sv 3 = 1 ∧ own_m5_5 sv 4 = 3 := by
                simp [own_m5_0, own_m5_1, own_m5_2, own_m5_3, own_m5_4, own_m5_5, own_ml, own_up, own_id, own_zero, c01, c23, c02, c12, c13, c04]
              obtain ⟨r0, r1, r2, r3, r4⟩ := r
              exact ⟨by rw [r0, r1, r2, r3, r4]; decide, own_prs r0 r1 (own_pr_gt anti c04), own_prs r1 r2 (own_pr_lt (by decide) c02), own_prs r2 r3 (own_pr_gt anti c12), own_prs r3 r4 (own_pr_lt (by decide) c13)⟩
            · skip
              by_cases c24 : own_q sv 2 4
              · skip
                have r : own_m5_5 sv 0 = 0 ∧ own_m5_5 sv 1 = 4 ∧ own_m5_5 sv 2 = 2 ∧ own_m5_5 sv 3 = 1 ∧ own_m5_5 sv 4 = 3 := by
                  simp [own_m5_0, own_m5_1, own_m5_2, own_m5_3, own_m5_4, own_m5_5, own_ml, own_up, own_id, own_zero, c01, c23, c02, c12, c13, c04, c24]
                obtain ⟨r0, r1, r2, r3, r4⟩ := r
                exact ⟨by rw [r0, r1, r2, r3, r4]; decide, own_prs r0 r1 (own_pr_lt (by decide) c04), own_prs r1 r2 (own_pr_gt anti c24), own_prs r2 r3 (own_pr_gt anti c12), own_prs r3 r4 (own_pr_lt (by decide) c13)⟩
              · skip
                by_cases c14 : own_q sv 1 4
                · skip
                  have r : own_m5_5 sv 0 = 0 ∧ own_m5_5 sv 1 = 2 ∧ own_m5_5 sv 2 = 4 ∧ own_m5_5 sv 3 = 1 ∧ own_m5_5 sv 4 = 3 := by
                    simp [own_m5_0, own_m5_1, own_m5_2, own_m5_3, own_m5_4, own_m5_5, own_ml, own_up, own_id, own_zero, c01, c23, c02, c12, c13, c04, c24, c14]
                  obtain ⟨r0, r1, r2, r3, r4⟩ := r
                  exact ⟨by rw [r0, r1, r2, r3, r4]; decide, own_prs r0 r1 (own_pr_lt (by decide) c02), own_prs r1 r2 (own_pr_lt (by decide) c24), own_prs r2 r3 (own_pr_gt anti c14), own_prs r3 r4 (own_pr_lt (by decide) c13)⟩
                · skip
                  by_cases c34 : own_q sv 3 4
                  · skip
                    have r : own_m5_5 sv 0 = 0 ∧ own_m5_5 sv 1 = 2 ∧ own_m5_5 sv 2 = 1 ∧ own_m5_5 sv 3 = 4 ∧ own_m5_5 sv 4 = 3 := by
                      simp [own_m5_0, own_m5_1, own_m5_2, own_m5_3, own_m5_4, own_m5_5, own_ml, own_up, own_id, own_zero, c01, c23, c02, c12, c13, c04, c24, c14, c34]
                    obtain ⟨r0, r1, r2, r3, r4⟩ := r
                    exact ⟨by rw [r0, r1, r2, r3, r4]; decide, own_prs r0 r1 (own_pr_lt (by decide) c02), own_prs r1 r2 (own_pr_gt anti c12), own_prs r2 r3 (own_pr_lt (by decide) c14), own_prs r3 r4 (own_pr_gt anti c34)⟩
                  · skip
                    have r : own_m5_5 sv 0 = 0 ∧ own_m5_5 sv 1 = 2 ∧ own_m5_5 sv 2 = 1 ∧ own_m5_5 sv 3 = 3 ∧ own_m5_5 sv 4 = 4 := by
                      simp [own_m5_0, own_m5_1, own_m5_2, own_m5_3, own_m5_4, own_m5_5, own_ml, own_up, own_id, own_zero, c01, c23, c02, c12, c13, c04, c24, c14, c34]
                    obtain ⟨r0, r1, r2, r3, r4⟩ := r
                    exact ⟨by rw [r0, r1, r2, r3, r4]; decide, own_prs r0 r1 (own_pr_lt (by decide) c02), own_prs r1 r2 (own_pr_gt anti c12), own_prs r2 r3 (own_pr_lt (by decide) c13), own_prs r3 r4 (own_pr_lt (by decide) c34)⟩
        · skip
          by_cases c04 : own_q sv 0 4
          · skip
            have r : own_m5_5 sv 0 = 4 ∧ own_m5_5 sv 1 = 0 ∧ own_m5_5 sv 2 = 1 ∧ own_m5_5 sv 3 = 2 ∧ own_m5_5 sv 4 = 3 := by
              simp [own_m5_0, own_m5_1, own_m5_2, own_m5_3, own_m5_4, own_m5_5, own_ml, own_up, own_id, own_zero, c01, c23, c02, c12, c04]
            obtain ⟨r0, r1, r2, r3, r4⟩ := r
            exact ⟨by rw [r0, r1, r2, r3, r4]; decide, own_prs r0 r1 (own_pr_gt anti c04), own_prs r1 r2 (own_pr_lt (by decide) c01), own_prs r2 r3 (own_pr_lt (by decide) c12), own_prs r3 r4 (own_pr_lt (by decide) c23)⟩
          · skip
            by_cases c14 : own_q sv 1 4
            · skip
              have r : own_m5_5 sv 0 = 0 ∧ own_m5_5 sv 1 = 4 ∧ own_m5_5 sv 2 = 1 ∧ own_m5_5 sv 3 = 2 ∧ own_m5_5 sv 4 = 3 := by
                simp [own_m5_0, own_m5_1, own_m5_2, own_m5_3, own_m5_4, own_m5_5, own_ml, own_up, own_id, own_zero, c01, c23, c02, c12, c04, c14]
              obtain ⟨r0, r1, r2, r3, r4⟩ := r
              exact ⟨by rw [r0, r1, r2, r3, r4]; decide, own_prs r0 r1 (own_pr_lt (by decide) c04), own_prs r1 r2 (own_pr_gt anti c14), own_prs r2 r3 (own_pr_lt (by decide) c12), own_prs r3 r4 (own_pr_lt (by decide) c23)⟩
            · skip
              by_cases c24 : own_q sv 2 4
              · skip
                have r : own_m5_5 sv 0 = 0 ∧ own_m5_5 sv 1 = 1 ∧ own_m5_5 sv 2 = 4 ∧ own_m5_5 sv 3 = 2 ∧ own_m5_5 sv 4 = 3 := by
                  simp [own_m5_0, own_m5_1, own_m5_2, own_m5_3, own_m5_4, own_m5_5, own_ml, own_up, own_id, own_zero, c01, c23, c02, c12, c04, c14, c24]
                obtain ⟨r0, r1, r2, r3, r4⟩ := r
                exact ⟨by rw [r0, r1, r2, r3, r4]; decide, own_prs r0 r1 (own_pr_lt (by decide) c01), own_prs r1 r2 (own_pr_lt (by decide) c14), own_prs r2 r3 (own_pr_gt anti c24), own_prs r3 r4 (own_pr_lt (by decide) c23)⟩
              · skip
                by_cases c34 : own_q sv 3 4
                · skip
                  have r : own_m5_5 sv 0 = 0 ∧ own_m5_5 sv 1 = 1 ∧ own_m5_5 sv 2 = 2 ∧ own_m5_5 sv 3 = 4 ∧ own_m5_5 sv 4 = 3 := by
                    simp [own_m5_0, own_m5_1, own_m5_2, own_m5_3, own_m5_4, own_m5_5, own_ml, own_up, own_id, own_zero, c01, c23, c02, c12, c04, c14, c24, c34]
                  obtain ⟨r0, r1, r2, r3, r4⟩ := r
                  exact ⟨by rw [r0, r1, r2, r3, r4]; decide, own_prs r0 r1 (own_pr_lt (by decide) c01), own_prs r1 r2 (own_pr_lt (by decide) c12), own_prs r2 r3 (own_pr_lt (by decide) c24), own_prs r3 r4 (own_pr_gt anti c34)⟩
                · skip
                  have r : own_m5_5 sv 0 = 0 ∧ own_m5_5 sv 1 = 1 ∧ own_m5_5 sv 2 = 2 ∧ own_m5_5 sv 3 = 3 ∧ own_m5_5 sv 4 = 4 := by
                    simp [own_m5_0, own_m5_1, own_m5_2, own_m5_3, own_m5_4, own_m5_5, own_ml, own_up, own_id, own_zero, c01, c23, c02, c12, c04, c14, c24, c34]
                  obtain ⟨r0, r1, r2, r3, r4⟩ := r
                  exact ⟨by rw [r0, r1, r2, r3, r4]; decide, own_prs r0 r1 (own_pr_lt (by decide) c01), own_prs r1 r2 (own_pr_lt (by decide) c12), own_prs r2 r3 (own_pr_lt (by decide) c23), own_prs r3 r4 (own_pr_lt (by decide) c34)⟩
theorem own_mask5 (p1 p2 p3 p4 p5 : Int32) : ((((((1 : Int32) <<< (((own_m5_5 (own_sv p1 p2 p3 p4 p5)) (0 : Int32)) &&& 31)) ||| ((1 : Int32) <<< (((own_m5_5 (own_sv p1 p2 p3 p4 p5)) (1 : Int32)) &&& 31))) ||| ((1 : Int32) <<< (((own_m5_5 (own_sv p1 p2 p3 p4 p5)) (2 : Int32)) &&& 31))) ||| ((1 : Int32) <<< (((own_m5_5 (own_sv p1 p2 p3 p4 p5)) (3 : Int32)) &&& 31))) ||| ((1 : Int32) <<< (((own_m5_5 (own_sv p1 p2 p3 p4 p5)) (4 : Int32)) &&& 31))) = (((1 : Int32) <<< ((5 : Int32) &&& 31)) - (1 : Int32)) := (own_ok5 (own_sv p1 p2 p3 p4 p5) (own_anti p1 p2 p3 p4 p5)).1
theorem own_pair5_0 (p1 p2 p3 p4 p5 : Int32) : (own_pr (own_sv p1 p2 p3 p4 p5) ((own_m5_5 (own_sv p1 p2 p3 p4 p5)) (0 : Int32)) ((own_m5_5 (own_sv p1 p2 p3 p4 p5)) ((0 : Int32) + (1 : Int32)))) = 1 := (own_ok5 (own_sv p1 p2 p3 p4 p5) (own_anti p1 p2 p3 p4 p5)).2.1
theorem own_pair5_1 (p1 p2 p3 p4 p5 : Int32) : (own_pr (own_sv p1 p2 p3 p4 p5) ((own_m5_5 (own_sv p1 p2 p3 p4 p5)) (1 : Int32)) ((own_m5_5 (own_sv p1 p2 p3 p4 p5)) ((1 : Int32) + (1 : Int32)))) = 1 := (own_ok5 (own_sv p1 p2 p3 p4 p5) (own_anti p1 p2 p3 p4 p5)).2.2.1
theorem own_pair5_2 (p1 p2 p3 p4 p5 : Int32) : (own_pr (own_sv p1 p2 p3 p4 p5) ((own_m5_5 (own_sv p1 p2 p3 p4 p5)) (2 : Int32)) ((own_m5_5 (own_sv p1 p2 p3 p4 p5)) ((2 : Int32) + (1 : Int32)))) = 1 := (own_ok5 (own_sv p1 p2 p3 p4 p5) (own_anti p1 p2 p3 p4 p5)).2.2.2.1
theorem own_pair5_3 (p1 p2 p3 p4 p5 : Int32) : (own_pr (own_sv p1 p2 p3 p4 p5) ((own_m5_5 (own_sv p1 p2 p3 p4 p5)) (3 : Int32)) ((own_m5_5 (own_sv p1 p2 p3 p4 p5)) ((3 : Int32) + (1 : Int32)))) = 1 := (own_ok5 (own_sv p1 p2 p3 p4 p5) (own_anti p1 p2 p3 p4 p5)).2.2.2.2
theorem ef0 (m : MethodId) (x0 : Addr) (x1 : Addr) (x2 : Addr) (x3 : Int32) (x4 : Int32) (x5 : Int32) : entryFrame m #[(.ref x0), (.ref x1), (.ref x2), (.int x3), (.int x4), (.int x5)] 9 = mkF m 0 #[.val (.ref x0), .val (.ref x1), .val (.ref x2), .val (.int x3), .val (.int x4), .val (.int x5), .unset, .unset, .unset] [] := by first | (simp [entryFrame, mkF, argsToLocals, Value.category]; done) | rfl
theorem pn0 : plainName "com/example/topside/topside/DescendingOrder" = true := by first | (simp [plainName, overriddenIn]; done) | decide +kernel
theorem d5_0 : decode prog_5_method_3_code 0 = .ok (.iload_n 3, 1) := by decide +kernel
theorem d5_1 : decode prog_5_method_3_code 1 = .ok (.istore 6, 2) := by decide +kernel
theorem d5_3 : decode prog_5_method_3_code 3 = .ok (.iload 4, 2) := by decide +kernel
theorem d5_5 : decode prog_5_method_3_code 5 = .ok (.istore 7, 2) := by decide +kernel
theorem d5_7 : decode prog_5_method_3_code 7 = .ok (.iload_n 3, 1) := by decide +kernel
theorem d5_8 : decode prog_5_method_3_code 8 = .ok (.istore 8, 2) := by decide +kernel
theorem d5_10 : decode prog_5_method_3_code 10 = .ok (.iload 8, 2) := by decide +kernel
theorem d5_12 : decode prog_5_method_3_code 12 = .ok (.iload 5, 2) := by decide +kernel
theorem d5_14 : decode prog_5_method_3_code 14 = .ok (.if_icmp .ge 64, 3) := by decide +kernel
theorem d5_78 : decode prog_5_method_3_code 78 = .ok (.return_, 1) := by decide +kernel
theorem d5_17 : decode prog_5_method_3_code 17 = .ok (.iload 7, 2) := by decide +kernel
theorem d5_19 : decode prog_5_method_3_code 19 = .ok (.iload 5, 2) := by decide +kernel
theorem d5_21 : decode prog_5_method_3_code 21 = .ok (.if_icmp .eq 26, 3) := by decide +kernel
theorem d5_47 : decode prog_5_method_3_code 47 = .ok (.aload_n 2, 1) := by decide +kernel
theorem d5_48 : decode prog_5_method_3_code 48 = .ok (.iload 8, 2) := by decide +kernel
theorem d5_50 : decode prog_5_method_3_code 50 = .ok (.aload_n 1, 1) := by decide +kernel
theorem d5_51 : decode prog_5_method_3_code 51 = .ok (.iload 6, 2) := by decide +kernel
theorem d5_53 : decode prog_5_method_3_code 53 = .ok (.iinc 6 1, 3) := by decide +kernel
theorem d5_56 : decode prog_5_method_3_code 56 = .ok (.iaload, 1) := by decide +kernel
theorem d5_57 : decode prog_5_method_3_code 57 = .ok (.iastore, 1) := by decide +kernel
theorem d5_58 : decode prog_5_method_3_code 58 = .ok (.goto 14, 3) := by decide +kernel
theorem d5_72 : decode prog_5_method_3_code 72 = .ok (.iinc 8 1, 3) := by decide +kernel
theorem d5_75 : decode prog_5_method_3_code 75 = .ok (.goto (-65), 3) := by decide +kernel
theorem d5_24 : decode prog_5_method_3_code 24 = .ok (.iload 6, 2) := by decide +kernel
theorem d5_26 : decode prog_5_method_3_code 26 = .ok (.iload 4, 2) := by decide +kernel
theorem d5_28 : decode prog_5_method_3_code 28 = .ok (.if_icmp .ge 33, 3) := by decide +kernel
theorem d5_31 : decode prog_5_method_3_code 31 = .ok (.aload_n 0, 1) := by decide +kernel
theorem d5_32 : decode prog_5_method_3_code 32 = .ok (.aload_n 1, 1) := by decide +kernel
theorem d5_33 : decode prog_5_method_3_code 33 = .ok (.iload 6, 2) := by decide +kernel
theorem d5_35 : decode prog_5_method_3_code 35 = .ok (.iaload, 1) := by decide +kernel
theorem d5_36 : decode prog_5_method_3_code 36 = .ok (.daload, 1) := by decide +kernel
theorem d5_37 : decode prog_5_method_3_code 37 = .ok (.aload_n 0, 1) := by decide +kernel
theorem d5_38 : decode prog_5_method_3_code 38 = .ok (.aload_n 1, 1) := by decide +kernel
theorem d5_39 : decode prog_5_method_3_code 39 = .ok (.iload 7, 2) := by decide +kernel
theorem d5_41 : decode prog_5_method_3_code 41 = .ok (.iaload, 1) := by decide +kernel
theorem d5_42 : decode prog_5_method_3_code 42 = .ok (.daload, 1) := by decide +kernel
theorem d5_43 : decode prog_5_method_3_code 43 = .ok (.dcmp .l, 1) := by decide +kernel
theorem d5_44 : decode prog_5_method_3_code 44 = .ok (.ifCond .lt 17, 3) := by decide +kernel
theorem d5_61 : decode prog_5_method_3_code 61 = .ok (.aload_n 2, 1) := by decide +kernel
theorem d5_62 : decode prog_5_method_3_code 62 = .ok (.iload 8, 2) := by decide +kernel
theorem d5_64 : decode prog_5_method_3_code 64 = .ok (.aload_n 1, 1) := by decide +kernel
theorem d5_65 : decode prog_5_method_3_code 65 = .ok (.iload 7, 2) := by decide +kernel
theorem d5_67 : decode prog_5_method_3_code 67 = .ok (.iinc 7 1, 3) := by decide +kernel
theorem d5_70 : decode prog_5_method_3_code 70 = .ok (.iaload, 1) := by decide +kernel
theorem d5_71 : decode prog_5_method_3_code 71 = .ok (.iastore, 1) := by decide +kernel
theorem ef1 (m : MethodId) (x0 : Int32) (x1 : Int32) : entryFrame m #[(.int x0), (.int x1)] 2 = mkF m 0 #[.val (.int x0), .val (.int x1)] [] := by first | (simp [entryFrame, mkF, argsToLocals, Value.category]; done) | rfl
theorem d4_0 : decode jdk_29_method_69_code 0 = .ok (.iload_n 0, 1) := by decide +kernel
theorem d4_1 : decode jdk_29_method_69_code 1 = .ok (.iload_n 1, 1) := by decide +kernel
theorem d4_2 : decode jdk_29_method_69_code 2 = .ok (.if_icmp .gt 7, 3) := by decide +kernel
theorem d4_5 : decode jdk_29_method_69_code 5 = .ok (.iload_n 0, 1) := by decide +kernel
theorem d4_6 : decode jdk_29_method_69_code 6 = .ok (.goto 4, 3) := by decide +kernel
theorem d4_10 : decode jdk_29_method_69_code 10 = .ok (.ireturn, 1) := by decide +kernel
theorem d4_9 : decode jdk_29_method_69_code 9 = .ok (.iload_n 1, 1) := by decide +kernel
theorem ef2 (m : MethodId) (x0 : Addr) : entryFrame m #[(.ref x0)] 7 = mkF m 0 #[.val (.ref x0), .unset, .unset, .unset, .unset, .unset, .unset] [] := by first | (simp [entryFrame, mkF, argsToLocals, Value.category]; done) | rfl
theorem d1_0 : decode prog_5_method_2_code 0 = .ok (.aload_n 0, 1) := by decide +kernel
theorem d1_1 : decode prog_5_method_2_code 1 = .ok (.arraylength, 1) := by decide +kernel
theorem d1_2 : decode prog_5_method_2_code 2 = .ok (.newarray .int, 2) := by decide +kernel
theorem Wd5 {Z : State} {a0 : Array Value} (hw : ∀ d ∈ tables_1, d.before a0 Z = true) : ((Jvm.Cond.arrayClass Jvm.ClassFile.FieldType.int) : Jvm.Cond).before a0 Z = true := hw _ (List.mem_of_getElem? (i := 5) rfl)
theorem d1_4 : decode prog_5_method_2_code 4 = .ok (.astore_n 1, 1) := by decide +kernel
theorem d1_5 : decode prog_5_method_2_code 5 = .ok (.iconst 0, 1) := by decide +kernel
theorem d1_6 : decode prog_5_method_2_code 6 = .ok (.istore_n 2, 1) := by decide +kernel
theorem d1_7 : decode prog_5_method_2_code 7 = .ok (.iload_n 2, 1) := by decide +kernel
theorem d1_8 : decode prog_5_method_2_code 8 = .ok (.aload_n 1, 1) := by decide +kernel
theorem d1_9 : decode prog_5_method_2_code 9 = .ok (.arraylength, 1) := by decide +kernel
theorem d1_10 : decode prog_5_method_2_code 10 = .ok (.if_icmp .ge 13, 3) := by decide +kernel
theorem d1_23 : decode prog_5_method_2_code 23 = .ok (.aload_n 1, 1) := by decide +kernel
theorem d1_24 : decode prog_5_method_2_code 24 = .ok (.arraylength, 1) := by decide +kernel
theorem d1_25 : decode prog_5_method_2_code 25 = .ok (.newarray .int, 2) := by decide +kernel
theorem d1_27 : decode prog_5_method_2_code 27 = .ok (.astore_n 2, 1) := by decide +kernel
theorem d1_28 : decode prog_5_method_2_code 28 = .ok (.iconst 1, 1) := by decide +kernel
theorem d1_29 : decode prog_5_method_2_code 29 = .ok (.istore_n 3, 1) := by decide +kernel
theorem d1_30 : decode prog_5_method_2_code 30 = .ok (.iload_n 3, 1) := by decide +kernel
theorem d1_31 : decode prog_5_method_2_code 31 = .ok (.aload_n 1, 1) := by decide +kernel
theorem d1_32 : decode prog_5_method_2_code 32 = .ok (.arraylength, 1) := by decide +kernel
theorem d1_33 : decode prog_5_method_2_code 33 = .ok (.if_icmp .ge 75, 3) := by decide +kernel
theorem d1_108 : decode prog_5_method_2_code 108 = .ok (.aload_n 1, 1) := by decide +kernel
theorem d1_109 : decode prog_5_method_2_code 109 = .ok (.areturn, 1) := by decide +kernel
theorem d1_13 : decode prog_5_method_2_code 13 = .ok (.aload_n 1, 1) := by decide +kernel
theorem d1_14 : decode prog_5_method_2_code 14 = .ok (.iload_n 2, 1) := by decide +kernel
theorem d1_15 : decode prog_5_method_2_code 15 = .ok (.iload_n 2, 1) := by decide +kernel
theorem d1_16 : decode prog_5_method_2_code 16 = .ok (.iastore, 1) := by decide +kernel
theorem d1_17 : decode prog_5_method_2_code 17 = .ok (.iinc 2 1, 3) := by decide +kernel
theorem d1_20 : decode prog_5_method_2_code 20 = .ok (.goto (-13), 3) := by decide +kernel
theorem d1_36 : decode prog_5_method_2_code 36 = .ok (.iconst 0, 1) := by decide +kernel
theorem d1_37 : decode prog_5_method_2_code 37 = .ok (.istore 4, 2) := by decide +kernel
theorem d1_39 : decode prog_5_method_2_code 39 = .ok (.iload 4, 2) := by decide +kernel
theorem d1_41 : decode prog_5_method_2_code 41 = .ok (.aload_n 1, 1) := by decide +kernel
theorem d1_42 : decode prog_5_method_2_code 42 = .ok (.arraylength, 1) := by decide +kernel
theorem d1_43 : decode prog_5_method_2_code 43 = .ok (.if_icmp .ge 50, 3) := by decide +kernel
theorem d1_46 : decode prog_5_method_2_code 46 = .ok (.iload 4, 2) := by decide +kernel
theorem d1_48 : decode prog_5_method_2_code 48 = .ok (.iload_n 3, 1) := by decide +kernel
theorem d1_49 : decode prog_5_method_2_code 49 = .ok (.iadd, 1) := by decide +kernel
theorem d1_50 : decode prog_5_method_2_code 50 = .ok (.aload_n 1, 1) := by decide +kernel
theorem d1_51 : decode prog_5_method_2_code 51 = .ok (.arraylength, 1) := by decide +kernel
theorem Wd13 {Z : State} {a0 : Array Value} (hw : ∀ d ∈ tables_1, d.before a0 Z = true) : ((Jvm.Cond.methodLink "com/example/topside/topside/DescendingOrder" (7 : Nat) ({ cls := "java/lang/Math", name := "min", desc := "(II)I" } : Jvm.MethodName)) : Jvm.Cond).before a0 Z = true := hw _ (List.mem_of_getElem? (i := 13) rfl)
theorem Wd16 {Z : State} {a0 : Array Value} (hw : ∀ d ∈ tables_1, d.before a0 Z = true) : ((Jvm.Cond.code ({ cls := "java/lang/Math", name := "min", desc := "(II)I" } : Jvm.MethodName) jdk_29_method_69_code (2 : Nat) (Option.some Jvm.ClassFile.FieldType.int)) : Jvm.Cond).before a0 Z = true := hw _ (List.mem_of_getElem? (i := 16) rfl)
theorem Wd15 {Z : State} {a0 : Array Value} (hw : ∀ d ∈ tables_1, d.before a0 Z = true) : ((Jvm.Cond.initialized "java/lang/Math") : Jvm.Cond).before a0 Z = true := hw _ (List.mem_of_getElem? (i := 15) rfl)
theorem pd0 : parseMethodDescriptor "(II)I" = some ⟨[.int, .int], some .int⟩ := by decide +kernel
theorem d1_52 : decode prog_5_method_2_code 52 = .ok (.invokestatic 7, 3) := by decide +kernel
theorem Wd14 {Z : State} {a0 : Array Value} (hw : ∀ d ∈ tables_1, d.before a0 Z = true) : ((Jvm.Cond.static ({ cls := "java/lang/Math", name := "min", desc := "(II)I" } : Jvm.MethodName)) : Jvm.Cond).before a0 Z = true := hw _ (List.mem_of_getElem? (i := 14) rfl)
theorem d1_55 : decode prog_5_method_2_code 55 = .ok (.istore 5, 2) := by decide +kernel
theorem d1_57 : decode prog_5_method_2_code 57 = .ok (.iload 4, 2) := by decide +kernel
theorem d1_59 : decode prog_5_method_2_code 59 = .ok (.iconst 2, 1) := by decide +kernel
theorem d1_60 : decode prog_5_method_2_code 60 = .ok (.iload_n 3, 1) := by decide +kernel
theorem d1_61 : decode prog_5_method_2_code 61 = .ok (.imul, 1) := by decide +kernel
theorem d1_62 : decode prog_5_method_2_code 62 = .ok (.iadd, 1) := by decide +kernel
theorem d1_63 : decode prog_5_method_2_code 63 = .ok (.aload_n 1, 1) := by decide +kernel
theorem d1_64 : decode prog_5_method_2_code 64 = .ok (.arraylength, 1) := by decide +kernel
theorem d1_65 : decode prog_5_method_2_code 65 = .ok (.invokestatic 7, 3) := by decide +kernel
theorem d1_68 : decode prog_5_method_2_code 68 = .ok (.istore 6, 2) := by decide +kernel
theorem d1_70 : decode prog_5_method_2_code 70 = .ok (.aload_n 0, 1) := by decide +kernel
theorem d1_71 : decode prog_5_method_2_code 71 = .ok (.aload_n 1, 1) := by decide +kernel
theorem d1_72 : decode prog_5_method_2_code 72 = .ok (.aload_n 2, 1) := by decide +kernel
theorem d1_73 : decode prog_5_method_2_code 73 = .ok (.iload 4, 2) := by decide +kernel
theorem d1_75 : decode prog_5_method_2_code 75 = .ok (.iload 5, 2) := by decide +kernel
theorem d1_77 : decode prog_5_method_2_code 77 = .ok (.iload 6, 2) := by decide +kernel
theorem Wd17 {Z : State} {a0 : Array Value} (hw : ∀ d ∈ tables_1, d.before a0 Z = true) : ((Jvm.Cond.methodLink "com/example/topside/topside/DescendingOrder" (13 : Nat) ({ cls := "com/example/topside/topside/DescendingOrder", name := "merge", desc := "([D[I[IIII)V" } : Jvm.MethodName)) : Jvm.Cond).before a0 Z = true := hw _ (List.mem_of_getElem? (i := 17) rfl)
theorem Wd19 {Z : State} {a0 : Array Value} (hw : ∀ d ∈ tables_1, d.before a0 Z = true) : ((Jvm.Cond.code ({ cls := "com/example/topside/topside/DescendingOrder", name := "merge", desc := "([D[I[IIII)V" } : Jvm.MethodName) prog_5_method_3_code (9 : Nat) (Option.none : Option Jvm.ClassFile.FieldType)) : Jvm.Cond).before a0 Z = true := hw _ (List.mem_of_getElem? (i := 19) rfl)
theorem Wd3 {Z : State} {a0 : Array Value} (hw : ∀ d ∈ tables_1, d.before a0 Z = true) : ((Jvm.Cond.initialized "com/example/topside/topside/DescendingOrder") : Jvm.Cond).before a0 Z = true := hw _ (List.mem_of_getElem? (i := 3) rfl)
theorem pd1 : parseMethodDescriptor "([D[I[IIII)V" = some ⟨[(.array .double), (.array .int), (.array .int), .int, .int, .int], none⟩ := by decide +kernel
theorem d1_79 : decode prog_5_method_2_code 79 = .ok (.invokestatic 13, 3) := by decide +kernel
theorem Wd18 {Z : State} {a0 : Array Value} (hw : ∀ d ∈ tables_1, d.before a0 Z = true) : ((Jvm.Cond.static ({ cls := "com/example/topside/topside/DescendingOrder", name := "merge", desc := "([D[I[IIII)V" } : Jvm.MethodName)) : Jvm.Cond).before a0 Z = true := hw _ (List.mem_of_getElem? (i := 18) rfl)
theorem d1_82 : decode prog_5_method_2_code 82 = .ok (.iload 4, 2) := by decide +kernel
theorem d1_84 : decode prog_5_method_2_code 84 = .ok (.iconst 2, 1) := by decide +kernel
theorem d1_85 : decode prog_5_method_2_code 85 = .ok (.iload_n 3, 1) := by decide +kernel
theorem d1_86 : decode prog_5_method_2_code 86 = .ok (.imul, 1) := by decide +kernel
theorem d1_87 : decode prog_5_method_2_code 87 = .ok (.iadd, 1) := by decide +kernel
theorem d1_88 : decode prog_5_method_2_code 88 = .ok (.istore 4, 2) := by decide +kernel
theorem d1_90 : decode prog_5_method_2_code 90 = .ok (.goto (-51), 3) := by decide +kernel
theorem d1_93 : decode prog_5_method_2_code 93 = .ok (.aload_n 1, 1) := by decide +kernel
theorem d1_94 : decode prog_5_method_2_code 94 = .ok (.astore 4, 2) := by decide +kernel
theorem d1_96 : decode prog_5_method_2_code 96 = .ok (.aload_n 2, 1) := by decide +kernel
theorem d1_97 : decode prog_5_method_2_code 97 = .ok (.astore_n 1, 1) := by decide +kernel
theorem d1_98 : decode prog_5_method_2_code 98 = .ok (.aload 4, 2) := by decide +kernel
theorem d1_100 : decode prog_5_method_2_code 100 = .ok (.astore_n 2, 1) := by decide +kernel
theorem d1_101 : decode prog_5_method_2_code 101 = .ok (.iload_n 3, 1) := by decide +kernel
theorem d1_102 : decode prog_5_method_2_code 102 = .ok (.iconst 2, 1) := by decide +kernel
theorem d1_103 : decode prog_5_method_2_code 103 = .ok (.imul, 1) := by decide +kernel
theorem d1_104 : decode prog_5_method_2_code 104 = .ok (.istore_n 3, 1) := by decide +kernel
theorem d1_105 : decode prog_5_method_2_code 105 = .ok (.goto (-75), 3) := by decide +kernel
theorem ef3 (m : MethodId) (x0 : Addr) (x1 : Int32) (x2 : Int32) : entryFrame m #[(.ref x0), (.int x1), (.int x2)] 4 = mkF m 0 #[.val (.ref x0), .val (.int x1), .val (.int x2), .unset] [] := by first | (simp [entryFrame, mkF, argsToLocals, Value.category]; done) | rfl
theorem pn1 : plainName "com/example/topside/topside/DescendingOrderOfPinLaw" = true := by first | (simp [plainName, overriddenIn]; done) | decide +kernel
theorem d2_0 : decode method_3_code 0 = .ok (.iload_n 1, 1) := by decide +kernel
theorem d2_1 : decode method_3_code 1 = .ok (.iload_n 2, 1) := by decide +kernel
theorem d2_2 : decode method_3_code 2 = .ok (.if_icmp .lt 5, 3) := by decide +kernel
theorem d2_5 : decode method_3_code 5 = .ok (.iconst 0, 1) := by decide +kernel
theorem d2_6 : decode method_3_code 6 = .ok (.ireturn, 1) := by decide +kernel
theorem d2_7 : decode method_3_code 7 = .ok (.aload_n 0, 1) := by decide +kernel
theorem d2_8 : decode method_3_code 8 = .ok (.iload_n 1, 1) := by decide +kernel
theorem d2_9 : decode method_3_code 9 = .ok (.iaload, 1) := by decide +kernel
theorem d2_10 : decode method_3_code 10 = .ok (.istore_n 3, 1) := by decide +kernel
theorem d2_11 : decode method_3_code 11 = .ok (.iload_n 3, 1) := by decide +kernel
theorem d2_12 : decode method_3_code 12 = .ok (.ifCond .lt 8, 3) := by decide +kernel
theorem d2_15 : decode method_3_code 15 = .ok (.iload_n 3, 1) := by decide +kernel
theorem d2_16 : decode method_3_code 16 = .ok (.iload_n 2, 1) := by decide +kernel
theorem d2_17 : decode method_3_code 17 = .ok (.if_icmp .lt 6, 3) := by decide +kernel
theorem d2_23 : decode method_3_code 23 = .ok (.iconst 1, 1) := by decide +kernel
theorem d2_24 : decode method_3_code 24 = .ok (.iload_n 3, 1) := by decide +kernel
theorem d2_25 : decode method_3_code 25 = .ok (.ishl, 1) := by decide +kernel
theorem d2_26 : decode method_3_code 26 = .ok (.ireturn, 1) := by decide +kernel
theorem ef4 (m : MethodId) (x0 : Addr) (x1 : Addr) (x2 : Int32) (x3 : Int32) : entryFrame m #[(.ref x0), (.ref x1), (.int x2), (.int x3)] 6 = mkF m 0 #[.val (.ref x0), .val (.ref x1), .val (.int x2), .val (.int x3), .unset, .unset] [] := by first | (simp [entryFrame, mkF, argsToLocals, Value.category]; done) | rfl
theorem d3_0 : decode method_4_code 0 = .ok (.iload_n 2, 1) := by decide +kernel
theorem d3_1 : decode method_4_code 1 = .ok (.iconst 1, 1) := by decide +kernel
theorem d3_2 : decode method_4_code 2 = .ok (.iadd, 1) := by decide +kernel
theorem d3_3 : decode method_4_code 3 = .ok (.iload_n 3, 1) := by decide +kernel
theorem d3_4 : decode method_4_code 4 = .ok (.if_icmp .lt 5, 3) := by decide +kernel
theorem d3_7 : decode method_4_code 7 = .ok (.iconst 1, 1) := by decide +kernel
theorem d3_8 : decode method_4_code 8 = .ok (.ireturn, 1) := by decide +kernel
theorem d3_9 : decode method_4_code 9 = .ok (.aload_n 1, 1) := by decide +kernel
theorem d3_10 : decode method_4_code 10 = .ok (.iload_n 2, 1) := by decide +kernel
theorem d3_11 : decode method_4_code 11 = .ok (.iaload, 1) := by decide +kernel
theorem d3_12 : decode method_4_code 12 = .ok (.istore 4, 2) := by decide +kernel
theorem d3_14 : decode method_4_code 14 = .ok (.aload_n 1, 1) := by decide +kernel
theorem d3_15 : decode method_4_code 15 = .ok (.iload_n 2, 1) := by decide +kernel
theorem d3_16 : decode method_4_code 16 = .ok (.iconst 1, 1) := by decide +kernel
theorem d3_17 : decode method_4_code 17 = .ok (.iadd, 1) := by decide +kernel
theorem d3_18 : decode method_4_code 18 = .ok (.iaload, 1) := by decide +kernel
theorem d3_19 : decode method_4_code 19 = .ok (.istore 5, 2) := by decide +kernel
theorem d3_21 : decode method_4_code 21 = .ok (.aload_n 0, 1) := by decide +kernel
theorem d3_22 : decode method_4_code 22 = .ok (.iload 4, 2) := by decide +kernel
theorem d3_24 : decode method_4_code 24 = .ok (.daload, 1) := by decide +kernel
theorem d3_25 : decode method_4_code 25 = .ok (.aload_n 0, 1) := by decide +kernel
theorem d3_26 : decode method_4_code 26 = .ok (.iload 5, 2) := by decide +kernel
theorem d3_28 : decode method_4_code 28 = .ok (.daload, 1) := by decide +kernel
theorem d3_29 : decode method_4_code 29 = .ok (.dcmp .l, 1) := by decide +kernel
theorem d3_30 : decode method_4_code 30 = .ok (.ifCond .gt 22, 3) := by decide +kernel
theorem d3_52 : decode method_4_code 52 = .ok (.iconst 1, 1) := by decide +kernel
theorem d3_53 : decode method_4_code 53 = .ok (.goto 4, 3) := by decide +kernel
theorem d3_33 : decode method_4_code 33 = .ok (.aload_n 0, 1) := by decide +kernel
theorem d3_34 : decode method_4_code 34 = .ok (.iload 4, 2) := by decide +kernel
theorem d3_36 : decode method_4_code 36 = .ok (.daload, 1) := by decide +kernel
theorem d3_37 : decode method_4_code 37 = .ok (.aload_n 0, 1) := by decide +kernel
theorem d3_38 : decode method_4_code 38 = .ok (.iload 5, 2) := by decide +kernel
theorem d3_40 : decode method_4_code 40 = .ok (.daload, 1) := by decide +kernel
theorem d3_41 : decode method_4_code 41 = .ok (.dcmp .l, 1) := by decide +kernel
theorem d3_42 : decode method_4_code 42 = .ok (.ifCond .ne 14, 3) := by decide +kernel
theorem d3_45 : decode method_4_code 45 = .ok (.iload 4, 2) := by decide +kernel
theorem d3_47 : decode method_4_code 47 = .ok (.iload 5, 2) := by decide +kernel
theorem d3_49 : decode method_4_code 49 = .ok (.if_icmp .ge 7, 3) := by decide +kernel
theorem d3_56 : decode method_4_code 56 = .ok (.iconst 0, 1) := by decide +kernel
theorem d3_57 : decode method_4_code 57 = .ok (.ireturn, 1) := by decide +kernel
theorem ef5 (m : MethodId) (x0 : Int32) (x1 : Int32) (x2 : Int32) (x3 : Int32) (x4 : Int32) (x5 : Int32) : entryFrame m #[(.int x0), (.int x1), (.int x2), (.int x3), (.int x4), (.int x5)] maxLocals = mkF m 0 #[.val (.int x0), .val (.int x1), .val (.int x2), .val (.int x3), .val (.int x4), .val (.int x5), .unset, .unset, .unset, .unset] [] := by first | (simp [entryFrame, mkF, argsToLocals, Value.category, maxLocals]; done) | rfl
theorem Wd0 {Z : State} {a0 : Array Value} (hw : ∀ d ∈ tables_1, d.before a0 Z = true) : ((Jvm.Cond.arrayClass Jvm.ClassFile.FieldType.double) : Jvm.Cond).before a0 Z = true := hw _ (List.mem_of_getElem? (i := 0) rfl)
theorem Wd1 {Z : State} {a0 : Array Value} (hw : ∀ d ∈ tables_1, d.before a0 Z = true) : ((Jvm.Cond.methodLink "com/example/topside/topside/DescendingOrderOfPinLaw" (7 : Nat) ({ cls := "com/example/topside/topside/DescendingOrder", name := "of", desc := "([D)[I" } : Jvm.MethodName)) : Jvm.Cond).before a0 Z = true := hw _ (List.mem_of_getElem? (i := 1) rfl)
theorem Wd4 {Z : State} {a0 : Array Value} (hw : ∀ d ∈ tables_1, d.before a0 Z = true) : ((Jvm.Cond.code ({ cls := "com/example/topside/topside/DescendingOrder", name := "of", desc := "([D)[I" } : Jvm.MethodName) prog_5_method_2_code (7 : Nat) (Option.some (Jvm.ClassFile.FieldType.array Jvm.ClassFile.FieldType.int))) : Jvm.Cond).before a0 Z = true := hw _ (List.mem_of_getElem? (i := 4) rfl)
theorem pd2 : parseMethodDescriptor "([D)[I" = some ⟨[(.array .double)], some (.array .int)⟩ := by decide +kernel
theorem Wd2 {Z : State} {a0 : Array Value} (hw : ∀ d ∈ tables_1, d.before a0 Z = true) : ((Jvm.Cond.static ({ cls := "com/example/topside/topside/DescendingOrder", name := "of", desc := "([D)[I" } : Jvm.MethodName)) : Jvm.Cond).before a0 Z = true := hw _ (List.mem_of_getElem? (i := 2) rfl)
theorem Wd6 {Z : State} {a0 : Array Value} (hw : ∀ d ∈ tables_1, d.before a0 Z = true) : ((Jvm.Cond.methodLink "com/example/topside/topside/DescendingOrderOfPinLaw" (13 : Nat) ({ cls := "com/example/topside/topside/DescendingOrderOfPinLaw", name := "bit", desc := "([III)I" } : Jvm.MethodName)) : Jvm.Cond).before a0 Z = true := hw _ (List.mem_of_getElem? (i := 6) rfl)
theorem Wd9 {Z : State} {a0 : Array Value} (hw : ∀ d ∈ tables_1, d.before a0 Z = true) : ((Jvm.Cond.code ({ cls := "com/example/topside/topside/DescendingOrderOfPinLaw", name := "bit", desc := "([III)I" } : Jvm.MethodName) method_3_code (4 : Nat) (Option.some Jvm.ClassFile.FieldType.int)) : Jvm.Cond).before a0 Z = true := hw _ (List.mem_of_getElem? (i := 9) rfl)
theorem Wd8 {Z : State} {a0 : Array Value} (hw : ∀ d ∈ tables_1, d.before a0 Z = true) : ((Jvm.Cond.initialized "com/example/topside/topside/DescendingOrderOfPinLaw") : Jvm.Cond).before a0 Z = true := hw _ (List.mem_of_getElem? (i := 8) rfl)
theorem pd3 : parseMethodDescriptor "([III)I" = some ⟨[(.array .int), .int, .int], some .int⟩ := by decide +kernel
theorem Wd7 {Z : State} {a0 : Array Value} (hw : ∀ d ∈ tables_1, d.before a0 Z = true) : ((Jvm.Cond.static ({ cls := "com/example/topside/topside/DescendingOrderOfPinLaw", name := "bit", desc := "([III)I" } : Jvm.MethodName)) : Jvm.Cond).before a0 Z = true := hw _ (List.mem_of_getElem? (i := 7) rfl)
theorem Wd10 {Z : State} {a0 : Array Value} (hw : ∀ d ∈ tables_1, d.before a0 Z = true) : ((Jvm.Cond.methodLink "com/example/topside/topside/DescendingOrderOfPinLaw" (19 : Nat) ({ cls := "com/example/topside/topside/DescendingOrderOfPinLaw", name := "pair", desc := "([D[III)Z" } : Jvm.MethodName)) : Jvm.Cond).before a0 Z = true := hw _ (List.mem_of_getElem? (i := 10) rfl)
theorem Wd12 {Z : State} {a0 : Array Value} (hw : ∀ d ∈ tables_1, d.before a0 Z = true) : ((Jvm.Cond.code ({ cls := "com/example/topside/topside/DescendingOrderOfPinLaw", name := "pair", desc := "([D[III)Z" } : Jvm.MethodName) method_4_code (6 : Nat) (Option.some Jvm.ClassFile.FieldType.boolean)) : Jvm.Cond).before a0 Z = true := hw _ (List.mem_of_getElem? (i := 12) rfl)
theorem pd4 : parseMethodDescriptor "([D[III)Z" = some ⟨[(.array .double), (.array .int), .int, .int], some .boolean⟩ := by decide +kernel
theorem Wd11 {Z : State} {a0 : Array Value} (hw : ∀ d ∈ tables_1, d.before a0 Z = true) : ((Jvm.Cond.static ({ cls := "com/example/topside/topside/DescendingOrderOfPinLaw", name := "pair", desc := "([D[III)Z" } : Jvm.MethodName)) : Jvm.Cond).before a0 Z = true := hw _ (List.mem_of_getElem? (i := 11) rfl)
def Q_rmM (Z : State) (da : Addr) (fa : Addr) (ta : Addr) (lo : Int32) (mid : Int32) (hi : Int32) (h0 : Heap) (n0 : Nat) (k2 : ClassId) (z : Int32) (sv : Int32 → UInt64) (F G0 : Int32 → Int32) (v : Option Value) (h : Heap) (L : List Loc) : Prop := v = none ∧ Fr n0 L ∧ Keep h0 h [ta] ∧ Arv Z h ta k2 .int z (own_rg z.toNatClampNeg (fun x => .int ((own_ml sv F mid hi (hi.toInt - lo.toInt).toNat lo mid lo G0) x))) (.int 0)
set_option maxRecDepth 65536 in
set_option maxHeartbeats 40000000 in
theorem rmM (l : Launch) (Z : State) (a0 : Array Value) (hw : ∀ d ∈ tables_1, d.before a0 Z = true) (ws : List Jvm.Cond) (da : Addr) (fa : Addr) (ta : Addr) (lo : Int32) (mid : Int32) (hi : Int32) (h0 : Heap) (n0 : Nat) (Z0 : n0 ≤ h0.size) (k0 k1 k2 : ClassId) (z : Int32) (sv : Int32 → UInt64) (F G0 : Int32 → Int32) (D1 : Arv Z h0 da k0 .double z (own_rg z.toNatClampNeg (fun x => .double (sv x))) (.double 0)) (F1 : Arv Z h0 fa k1 .int z (own_rg z.toNatClampNeg (fun x => .int (F x))) (.int 0)) (T1 : Arv Z h0 ta k2 .int z (own_rg z.toNatClampNeg (fun x => .int (G0 x))) (.int 0)) (nd : da ≠ ta) (nf : fa ≠ ta) (gt : n0 ≤ ta) (hlo : 0 ≤ lo.toInt) (hlm : lo.toInt ≤ mid.toInt) (hmh : mid.toInt ≤ hi.toInt) (hhz : hi.toInt ≤ z.toInt) (hF : ∀ x, (¬ x < 0 ∧ x < z) → (¬ F x < 0 ∧ F x < z)) :
    MetFree l (⟨"com/example/topside/topside/DescendingOrder", "merge", "([D[I[IIII)V"⟩ : MethodName) (head1 (Jvm.Cond.code (⟨"com/example/topside/topside/DescendingOrder", "merge", "([D[I[IIII)V"⟩ : MethodName) prog_5_method_3_code 9 none :: ws) ({ frames := 0, cells := 0, slots := 0, locals := 0 } : Room)) (fun a U => a = #[(.ref da), (.ref fa), (.ref ta), (.int lo), (.int mid), (.int hi)] ∧ Z.Warmed39 U.vm ∧ U.heap = h0) (fun _ _ _ _ _ => True) (fun _ U o U' => ∃ v L, o = .returned v ∧ Q_rmM Z da fa ta lo mid hi h0 n0 k2 z sv F G0 v U'.heap L ∧ FrameEnd U o U' L ({ frames := 0, cells := 0, slots := 0, locals := 0 } : Room).cells ({ frames := 0, cells := 0, slots := 0, locals := 0 } : Room).slots) := by
  refine MetFree.of_bodySF (plainFor_of_name pn0) hisR ?_
  intro p e s m args below meth c s₁ Bd hml0 hP hK
  obtain ⟨rfl, hZ, hh⟩ := hP
  have hx := Bd.exec
  have hby := Bd.bytes
  have hlk : meth.locks = false := Bd.notSynchronized
  have hml : c.maxLocals = 9 := hml0
  have hown : s.vm.findClass "com/example/topside/topside/DescendingOrder" = some m.cls := findClass_of_methodNamed Bd.named
  have hnm := (name_of_methodNamed Bd.named Bd.method).1
  have X0 : Stand p l e ({ frames := 0, cells := 0, slots := 0, locals := 0 } : Room) s m #[(.ref da), (.ref fa), (.ref ta), (.int lo), (.int mid), (.int hi)] below meth c s₁ [] 0 0 := Stand.of_body Bd
  have e0 : s₁.heap = h0 := by rw [← hh, Bd.state]; rfl
  have N0 := Fr.nil n0
  suffices hgo : OD p e s below (Q_rmM Z da fa ta lo mid hi h0 n0 k2 z sv F G0) ({ frames := 0, cells := 0, slots := 0, locals := 0 } : Room).cells ({ frames := 0, cells := 0, slots := 0, locals := 0 } : Room).slots (s₁.setTop (mkF m 0 #[.val (.ref da), .val (.ref fa), .val (.ref ta), .val (.int lo), .val (.int mid), .val (.int hi), .unset, .unset, .unset] [])) by
    obtain ⟨s₂, o, hgo1, hgo2⟩ := hgo
    exact ⟨s₂, o, castTop (ef0 m da fa ta lo mid hi) hgo1, hgo2⟩
  refine OD.go (B := (s₁.setTop (mkF m 1 #[.val (.ref da), .val (.ref fa), .val (.ref ta), .val (.int lo), .val (.int mid), .val (.int hi), .unset, .unset, .unset] [(.int lo)]))) (fun t k => XS.iloadN X0.here hx rfl (hb hby d5_0) rfl k) ?_
  refine OD.go (B := (s₁.setTop (mkF m 3 #[.val (.ref da), .val (.ref fa), .val (.ref ta), .val (.int lo), .val (.int mid), .val (.int hi), .val (.int lo), .unset, .unset] []))) (fun t k => XS.istore X0.here hx rfl (hb hby d5_1) rfl (l' := #[.val (.ref da), .val (.ref fa), .val (.ref ta), .val (.int lo), .val (.int mid), .val (.int hi), .val (.int lo), .unset, .unset]) rfl k) ?_
  refine OD.go (B := (s₁.setTop (mkF m 5 #[.val (.ref da), .val (.ref fa), .val (.ref ta), .val (.int lo), .val (.int mid), .val (.int hi), .val (.int lo), .unset, .unset] [(.int mid)]))) (fun t k => XS.iload X0.here hx rfl (hb hby d5_3) rfl k) ?_
  refine OD.go (B := (s₁.setTop (mkF m 7 #[.val (.ref da), .val (.ref fa), .val (.ref ta), .val (.int lo), .val (.int mid), .val (.int hi), .val (.int lo), .val (.int mid), .unset] []))) (fun t k => XS.istore X0.here hx rfl (hb hby d5_5) rfl (l' := #[.val (.ref da), .val (.ref fa), .val (.ref ta), .val (.int lo), .val (.int mid), .val (.int hi), .val (.int lo), .val (.int mid), .unset]) rfl k) ?_
  refine OD.go (B := (s₁.setTop (mkF m 8 #[.val (.ref da), .val (.ref fa), .val (.ref ta), .val (.int lo), .val (.int mid), .val (.int hi), .val (.int lo), .val (.int mid), .unset] [(.int lo)]))) (fun t k => XS.iloadN X0.here hx rfl (hb hby d5_7) rfl k) ?_
  refine OD.go (B := (s₁.setTop (mkF m 10 #[.val (.ref da), .val (.ref fa), .val (.ref ta), .val (.int lo), .val (.int mid), .val (.int hi), .val (.int lo), .val (.int mid), .val (.int lo)] []))) (fun t k => XS.istore X0.here hx rfl (hb hby d5_8) rfl (l' := #[.val (.ref da), .val (.ref fa), .val (.ref ta), .val (.int lo), .val (.int mid), .val (.int hi), .val (.int lo), .val (.int mid), .val (.int lo)]) rfl k) ?_
  have loop : ∀ (fu : Nat) (iv jv kv : Int32) (G : Int32 → Int32) (Tl : State) (hl : Heap) (Ll : List Loc), Stand p l e ({ frames := 0, cells := 0, slots := 0, locals := 0 } : Room) s m #[(.ref da), (.ref fa), (.ref ta), (.int lo), (.int mid), (.int hi)] below meth c Tl Ll 0 0 → Tl.heap = hl → Fr n0 Ll → Keep h0 hl [ta] → Arv Z hl ta k2 .int z (own_rg z.toNatClampNeg (fun x => .int (G x))) (.int 0) → own_iv lo mid hi iv jv kv fu → own_ml sv F mid hi fu iv jv kv G = (own_ml sv F mid hi (hi.toInt - lo.toInt).toNat lo mid lo G0) → OD p e s below (Q_rmM Z da fa ta lo mid hi h0 n0 k2 z sv F G0) ({ frames := 0, cells := 0, slots := 0, locals := 0 } : Room).cells ({ frames := 0, cells := 0, slots := 0, locals := 0 } : Room).slots (Tl.setTop (mkF m 10 #[.val (.ref da), .val (.ref fa), .val (.ref ta), .val (.int lo), .val (.int mid), .val (.int hi), .val (.int iv), .val (.int jv), .val (.int kv)] [])) := by
    intro fu
    induction fu with
    | zero =>
      intro iv jv kv G Tl hl Ll Xl el Nl Kl Al inv hR
      have Dl := D1.keep Kl (ninS nd nin0)
      have Fl := F1.keep Kl (ninS nf nin0)
      have hkv := own_h0 inv
      refine OD.go (B := (Tl.setTop (mkF m 12 #[.val (.ref da), .val (.ref fa), .val (.ref ta), .val (.int lo), .val (.int mid), .val (.int hi), .val (.int iv), .val (.int jv), .val (.int kv)] [(.int kv)]))) (fun t k => XS.iload Xl.here hx rfl (hb hby d5_10) rfl k) ?_
      refine OD.go (B := (Tl.setTop (mkF m 14 #[.val (.ref da), .val (.ref fa), .val (.ref ta), .val (.int lo), .val (.int mid), .val (.int hi), .val (.int iv), .val (.int jv), .val (.int kv)] [(.int hi), (.int kv)]))) (fun t k => XS.iload Xl.here hx rfl (hb hby d5_12) rfl k) ?_
      refine OD.go (B := (Tl.setTop (mkF m 78 #[.val (.ref da), .val (.ref fa), .val (.ref ta), .val (.int lo), .val (.int mid), .val (.int hi), .val (.int iv), .val (.int jv), .val (.int kv)] []))) (fun t k => XS.icmpYes Xl.here hx rfl (pc0 := 14) (pc' := 78) rfl (hb hby d5_14) rfl (flt hkv).2.1 (by decide) (by decide) k) ?_
      exact OD.retV Xl hx hlk Bd.returns (hb hby d5_78) (Nat.le_of_ble_eq_true rfl) (Nat.le_of_ble_eq_true rfl) ⟨rfl, Nl, by rw [el]; exact Kl, by rw [el]; exact (show G = (own_ml sv F mid hi (hi.toInt - lo.toInt).toNat lo mid lo G0) from hR) ▸ Al⟩
    | succ fu ih =>
      intro iv jv kv G Tl hl Ll Xl el Nl Kl Al inv hR
      have Dl := D1.keep Kl (ninS nd nin0)
      have Fl := F1.keep Kl (ninS nf nin0)
      have hkv := own_hk inv
      refine OD.go (B := (Tl.setTop (mkF m 12 #[.val (.ref da), .val (.ref fa), .val (.ref ta), .val (.int lo), .val (.int mid), .val (.int hi), .val (.int iv), .val (.int jv), .val (.int kv)] [(.int kv)]))) (fun t k => XS.iload Xl.here hx rfl (hb hby d5_10) rfl k) ?_
      refine OD.go (B := (Tl.setTop (mkF m 14 #[.val (.ref da), .val (.ref fa), .val (.ref ta), .val (.int lo), .val (.int mid), .val (.int hi), .val (.int iv), .val (.int jv), .val (.int kv)] [(.int hi), (.int kv)]))) (fun t k => XS.iload Xl.here hx rfl (hb hby d5_12) rfl k) ?_
      refine OD.go (B := (Tl.setTop (mkF m 17 #[.val (.ref da), .val (.ref fa), .val (.ref ta), .val (.int lo), .val (.int mid), .val (.int hi), .val (.int iv), .val (.int jv), .val (.int kv)] []))) (fun t k => XS.icmpNo Xl.here hx rfl (hb hby d5_14) rfl (tlt hkv).2.1 k) ?_
      refine OD.go (B := (Tl.setTop (mkF m 19 #[.val (.ref da), .val (.ref fa), .val (.ref ta), .val (.int lo), .val (.int mid), .val (.int hi), .val (.int iv), .val (.int jv), .val (.int kv)] [(.int jv)]))) (fun t k => XS.iload Xl.here hx rfl (hb hby d5_17) rfl k) ?_
      refine OD.go (B := (Tl.setTop (mkF m 21 #[.val (.ref da), .val (.ref fa), .val (.ref ta), .val (.int lo), .val (.int mid), .val (.int hi), .val (.int iv), .val (.int jv), .val (.int kv)] [(.int hi), (.int jv)]))) (fun t k => XS.iload Xl.here hx rfl (hb hby d5_19) rfl k) ?_
      by_cases c21_1 : jv = hi
      · refine OD.go (B := (Tl.setTop (mkF m 47 #[.val (.ref da), .val (.ref fa), .val (.ref ta), .val (.int lo), .val (.int mid), .val (.int hi), .val (.int iv), .val (.int jv), .val (.int kv)] []))) (fun t k => XS.icmpYes Xl.here hx rfl (pc0 := 21) (pc' := 47) rfl (hb hby d5_21) rfl (teq c21_1).1 (by decide) (by decide) k) ?_
        refine OD.go (B := (Tl.setTop (mkF m 48 #[.val (.ref da), .val (.ref fa), .val (.ref ta), .val (.int lo), .val (.int mid), .val (.int hi), .val (.int iv), .val (.int jv), .val (.int kv)] [(.ref ta)]))) (fun t k => XS.aloadN Xl.here hx rfl (hb hby d5_47) rfl rfl k) ?_
        refine OD.go (B := (Tl.setTop (mkF m 50 #[.val (.ref da), .val (.ref fa), .val (.ref ta), .val (.int lo), .val (.int mid), .val (.int hi), .val (.int iv), .val (.int jv), .val (.int kv)] [(.int kv), (.ref ta)]))) (fun t k => XS.iload Xl.here hx rfl (hb hby d5_48) rfl k) ?_
        refine OD.go (B := (Tl.setTop (mkF m 51 #[.val (.ref da), .val (.ref fa), .val (.ref ta), .val (.int lo), .val (.int mid), .val (.int hi), .val (.int iv), .val (.int jv), .val (.int kv)] [(.ref fa), (.int kv), (.ref ta)]))) (fun t k => XS.aloadN Xl.here hx rfl (hb hby d5_50) rfl rfl k) ?_
        refine OD.go (B := (Tl.setTop (mkF m 53 #[.val (.ref da), .val (.ref fa), .val (.ref ta), .val (.int lo), .val (.int mid), .val (.int hi), .val (.int iv), .val (.int jv), .val (.int kv)] [(.int iv), (.ref fa), (.int kv), (.ref ta)]))) (fun t k => XS.iload Xl.here hx rfl (hb hby d5_51) rfl k) ?_
        refine OD.go (B := (Tl.setTop (mkF m 56 #[.val (.ref da), .val (.ref fa), .val (.ref ta), .val (.int lo), .val (.int mid), .val (.int hi), .val (.int (iv + (1 : Int32))), .val (.int jv), .val (.int kv)] [(.int iv), (.ref fa), (.int kv), (.ref ta)]))) (fun t k => XS.iinc Xl.here hx rfl (hb hby d5_53) rfl (l' := #[.val (.ref da), .val (.ref fa), .val (.ref ta), .val (.int lo), .val (.int mid), .val (.int hi), .val (.int (iv + (1 : Int32))), .val (.int jv), .val (.int kv)]) rfl k) ?_
        obtain ⟨cl2, Ar2, hi2, ha2⟩ := own_at Fl (j := iv) (v := (.int (F iv))) (own_bi inv hlo hhz (Or.inl c21_1)) (own_rg_at (own_bi inv hlo hhz (Or.inl c21_1)) _ _)
        refine OD.go (B := (Tl.setTop (mkF m 57 #[.val (.ref da), .val (.ref fa), .val (.ref ta), .val (.int lo), .val (.int mid), .val (.int hi), .val (.int (iv + (1 : Int32))), .val (.int jv), .val (.int kv)] [(.int (F iv)), (.int kv), (.ref ta)]))) (fun t k => Xl.iaload hx (j := iv) (v := (.int (F iv))) (by rw [el]; exact Ar2.1) (State.isArrayOf_alike hZ.alike Ar2.2.1) Ar2.2.2 hi2 ha2 (g := (mkF m 56 #[.val (.ref da), .val (.ref fa), .val (.ref ta), .val (.int lo), .val (.int mid), .val (.int hi), .val (.int (iv + (1 : Int32))), .val (.int jv), .val (.int kv)] [(.int iv), (.ref fa), (.int kv), (.ref ta)])) rfl rfl (hb hby d5_56) _ k) ?_
        obtain ⟨cl4, Ar4, q4, S4, M4, H4, G4⟩ := id Al
        obtain ⟨T4, h4, X4, e4, W4, st4⟩ := stI Xl hx hZ el Ar4 (j := kv) (inb_of S4 (own_bk inv hlo hhz)) (g := (mkF m 57 #[.val (.ref da), .val (.ref fa), .val (.ref ta), .val (.int lo), .val (.int mid), .val (.int hi), .val (.int (iv + (1 : Int32))), .val (.int jv), .val (.int kv)] [(.int (F iv)), (.int kv), (.ref ta)])) rfl rfl (hb hby d5_57)
        have V4 := own_put (fun x => .int ((own_up G kv (F iv)) x)) Ar4 q4 S4 M4 H4 G4 rfl W4 (own_bk inv hlo hhz) (congrArg Value.int (own_up_at _ _ _)) (fun x q => congrArg Value.int (own_up_ne _ _ q))
        have N4 := Fr.snoc X4 Nl gt
        refine OD.go (B := (T4.setTop (mkF m 58 #[.val (.ref da), .val (.ref fa), .val (.ref ta), .val (.int lo), .val (.int mid), .val (.int hi), .val (.int (iv + (1 : Int32))), .val (.int jv), .val (.int kv)] []))) st4 ?_
        refine OD.go (B := (T4.setTop (mkF m 72 #[.val (.ref da), .val (.ref fa), .val (.ref ta), .val (.int lo), .val (.int mid), .val (.int hi), .val (.int (iv + (1 : Int32))), .val (.int jv), .val (.int kv)] []))) (fun t k => XS.goto X4.here hx rfl (pc0 := 58) (pc' := 72) rfl (hb hby d5_58) (by decide) (by decide) k) ?_
        refine OD.go (B := (T4.setTop (mkF m 75 #[.val (.ref da), .val (.ref fa), .val (.ref ta), .val (.int lo), .val (.int mid), .val (.int hi), .val (.int (iv + (1 : Int32))), .val (.int jv), .val (.int (kv + (1 : Int32)))] []))) (fun t k => XS.iinc X4.here hx rfl (hb hby d5_72) rfl (l' := #[.val (.ref da), .val (.ref fa), .val (.ref ta), .val (.int lo), .val (.int mid), .val (.int hi), .val (.int (iv + (1 : Int32))), .val (.int jv), .val (.int (kv + (1 : Int32)))]) rfl k) ?_
        refine OD.go (B := (T4.setTop (mkF m 10 #[.val (.ref da), .val (.ref fa), .val (.ref ta), .val (.int lo), .val (.int mid), .val (.int hi), .val (.int (iv + (1 : Int32))), .val (.int jv), .val (.int (kv + (1 : Int32)))] []))) (fun t k => XS.goto X4.here hx rfl (pc0 := 75) (pc' := 10) rfl (hb hby d5_75) (by decide) (by decide) k) ?_
        exact ih _ _ _ _ _ _ _ X4 e4 N4 (Kl.wr W4 (Or.inl (List.mem_of_getElem? (i := 0) rfl))) V4 (own_ivL inv (Or.inl c21_1)) (by rw [own_ml, if_pos c21_1] at hR; exact hR)
      · refine OD.go (B := (Tl.setTop (mkF m 24 #[.val (.ref da), .val (.ref fa), .val (.ref ta), .val (.int lo), .val (.int mid), .val (.int hi), .val (.int iv), .val (.int jv), .val (.int kv)] []))) (fun t k => XS.icmpNo Xl.here hx rfl (hb hby d5_21) rfl (feq c21_1).1 k) ?_
        refine OD.go (B := (Tl.setTop (mkF m 26 #[.val (.ref da), .val (.ref fa), .val (.ref ta), .val (.int lo), .val (.int mid), .val (.int hi), .val (.int iv), .val (.int jv), .val (.int kv)] [(.int iv)]))) (fun t k => XS.iload Xl.here hx rfl (hb hby d5_24) rfl k) ?_
        refine OD.go (B := (Tl.setTop (mkF m 28 #[.val (.ref da), .val (.ref fa), .val (.ref ta), .val (.int lo), .val (.int mid), .val (.int hi), .val (.int iv), .val (.int jv), .val (.int kv)] [(.int mid), (.int iv)]))) (fun t k => XS.iload Xl.here hx rfl (hb hby d5_26) rfl k) ?_
        by_cases c28_5 : iv < mid
        · refine OD.go (B := (Tl.setTop (mkF m 31 #[.val (.ref da), .val (.ref fa), .val (.ref ta), .val (.int lo), .val (.int mid), .val (.int hi), .val (.int iv), .val (.int jv), .val (.int kv)] []))) (fun t k => XS.icmpNo Xl.here hx rfl (hb hby d5_28) rfl (tlt c28_5).2.1 k) ?_
          refine OD.go (B := (Tl.setTop (mkF m 32 #[.val (.ref da), .val (.ref fa), .val (.ref ta), .val (.int lo), .val (.int mid), .val (.int hi), .val (.int iv), .val (.int jv), .val (.int kv)] [(.ref da)]))) (fun t k => XS.aloadN Xl.here hx rfl (hb hby d5_31) rfl rfl k) ?_
          refine OD.go (B := (Tl.setTop (mkF m 33 #[.val (.ref da), .val (.ref fa), .val (.ref ta), .val (.int lo), .val (.int mid), .val (.int hi), .val (.int iv), .val (.int jv), .val (.int kv)] [(.ref fa), (.ref da)]))) (fun t k => XS.aloadN Xl.here hx rfl (hb hby d5_32) rfl rfl k) ?_
          refine OD.go (B := (Tl.setTop (mkF m 35 #[.val (.ref da), .val (.ref fa), .val (.ref ta), .val (.int lo), .val (.int mid), .val (.int hi), .val (.int iv), .val (.int jv), .val (.int kv)] [(.int iv), (.ref fa), (.ref da)]))) (fun t k => XS.iload Xl.here hx rfl (hb hby d5_33) rfl k) ?_
          obtain ⟨cl6, Ar6, hi6, ha6⟩ := own_at Fl (j := iv) (v := (.int (F iv))) (own_bi inv hlo hhz (Or.inr c28_5)) (own_rg_at (own_bi inv hlo hhz (Or.inr c28_5)) _ _)
          refine OD.go (B := (Tl.setTop (mkF m 36 #[.val (.ref da), .val (.ref fa), .val (.ref ta), .val (.int lo), .val (.int mid), .val (.int hi), .val (.int iv), .val (.int jv), .val (.int kv)] [(.int (F iv)), (.ref da)]))) (fun t k => Xl.iaload hx (j := iv) (v := (.int (F iv))) (by rw [el]; exact Ar6.1) (State.isArrayOf_alike hZ.alike Ar6.2.1) Ar6.2.2 hi6 ha6 (g := (mkF m 35 #[.val (.ref da), .val (.ref fa), .val (.ref ta), .val (.int lo), .val (.int mid), .val (.int hi), .val (.int iv), .val (.int jv), .val (.int kv)] [(.int iv), (.ref fa), (.ref da)])) rfl rfl (hb hby d5_35) _ k) ?_
          obtain ⟨cl7, Ar7, hi7, ha7⟩ := own_at Dl (j := (F iv)) (v := (.double (sv (F iv)))) (hF _ (own_bi inv hlo hhz (Or.inr c28_5))) (own_rg_at (hF _ (own_bi inv hlo hhz (Or.inr c28_5))) _ _)
          refine OD.go (B := (Tl.setTop (mkF m 37 #[.val (.ref da), .val (.ref fa), .val (.ref ta), .val (.int lo), .val (.int mid), .val (.int hi), .val (.int iv), .val (.int jv), .val (.int kv)] [(.double (sv (F iv)))]))) (fun t k => Xl.daload hx (j := (F iv)) (v := (.double (sv (F iv)))) (by rw [el]; exact Ar7.1) (State.isArrayOf_alike hZ.alike Ar7.2.1) Ar7.2.2 hi7 ha7 (g := (mkF m 36 #[.val (.ref da), .val (.ref fa), .val (.ref ta), .val (.int lo), .val (.int mid), .val (.int hi), .val (.int iv), .val (.int jv), .val (.int kv)] [(.int (F iv)), (.ref da)])) rfl rfl (hb hby d5_36) _ k) ?_
          refine OD.go (B := (Tl.setTop (mkF m 38 #[.val (.ref da), .val (.ref fa), .val (.ref ta), .val (.int lo), .val (.int mid), .val (.int hi), .val (.int iv), .val (.int jv), .val (.int kv)] [(.ref da), (.double (sv (F iv)))]))) (fun t k => XS.aloadN Xl.here hx rfl (hb hby d5_37) rfl rfl k) ?_
          refine OD.go (B := (Tl.setTop (mkF m 39 #[.val (.ref da), .val (.ref fa), .val (.ref ta), .val (.int lo), .val (.int mid), .val (.int hi), .val (.int iv), .val (.int jv), .val (.int kv)] [(.ref fa), (.ref da), (.double (sv (F iv)))]))) (fun t k => XS.aloadN Xl.here hx rfl (hb hby d5_38) rfl rfl k) ?_
          refine OD.go (B := (Tl.setTop (mkF m 41 #[.val (.ref da), .val (.ref fa), .val (.ref ta), .val (.int lo), .val (.int mid), .val (.int hi), .val (.int iv), .val (.int jv), .val (.int kv)] [(.int jv), (.ref fa), (.ref da), (.double (sv (F iv)))]))) (fun t k => XS.iload Xl.here hx rfl (hb hby d5_39) rfl k) ?_
          obtain ⟨cl8, Ar8, hi8, ha8⟩ := own_at Fl (j := jv) (v := (.int (F jv))) (own_bj inv hlo hhz c21_1) (own_rg_at (own_bj inv hlo hhz c21_1) _ _)
          refine OD.go (B := (Tl.setTop (mkF m 42 #[.val (.ref da), .val (.ref fa), .val (.ref ta), .val (.int lo), .val (.int mid), .val (.int hi), .val (.int iv), .val (.int jv), .val (.int kv)] [(.int (F jv)), (.ref da), (.double (sv (F iv)))]))) (fun t k => Xl.iaload hx (j := jv) (v := (.int (F jv))) (by rw [el]; exact Ar8.1) (State.isArrayOf_alike hZ.alike Ar8.2.1) Ar8.2.2 hi8 ha8 (g := (mkF m 41 #[.val (.ref da), .val (.ref fa), .val (.ref ta), .val (.int lo), .val (.int mid), .val (.int hi), .val (.int iv), .val (.int jv), .val (.int kv)] [(.int jv), (.ref fa), (.ref da), (.double (sv (F iv)))])) rfl rfl (hb hby d5_41) _ k) ?_
          obtain ⟨cl9, Ar9, hi9, ha9⟩ := own_at Dl (j := (F jv)) (v := (.double (sv (F jv)))) (hF _ (own_bj inv hlo hhz c21_1)) (own_rg_at (hF _ (own_bj inv hlo hhz c21_1)) _ _)
          refine OD.go (B := (Tl.setTop (mkF m 43 #[.val (.ref da), .val (.ref fa), .val (.ref ta), .val (.int lo), .val (.int mid), .val (.int hi), .val (.int iv), .val (.int jv), .val (.int kv)] [(.double (sv (F jv))), (.double (sv (F iv)))]))) (fun t k => Xl.daload hx (j := (F jv)) (v := (.double (sv (F jv)))) (by rw [el]; exact Ar9.1) (State.isArrayOf_alike hZ.alike Ar9.2.1) Ar9.2.2 hi9 ha9 (g := (mkF m 42 #[.val (.ref da), .val (.ref fa), .val (.ref ta), .val (.int lo), .val (.int mid), .val (.int hi), .val (.int iv), .val (.int jv), .val (.int kv)] [(.int (F jv)), (.ref da), (.double (sv (F iv)))])) rfl rfl (hb hby d5_42) _ k) ?_
          refine OD.go (B := (Tl.setTop (mkF m 44 #[.val (.ref da), .val (.ref fa), .val (.ref ta), .val (.int lo), .val (.int mid), .val (.int hi), .val (.int iv), .val (.int jv), .val (.int kv)] [(.int (cmpValue (FP.dcmp (sv (F iv)) (sv (F jv))) .l))]))) (fun t k => XS.dcmpS Xl.here hx rfl (hb hby d5_43) rfl (v := (cmpValue (FP.dcmp (sv (F iv)) (sv (F jv))) .l)) rfl k) ?_
          by_cases c44_10 : (cmpValue (FP.dcmp (sv (F iv)) (sv (F jv))) .l) < (0 : Int32)
          · refine OD.go (B := (Tl.setTop (mkF m 61 #[.val (.ref da), .val (.ref fa), .val (.ref ta), .val (.int lo), .val (.int mid), .val (.int hi), .val (.int iv), .val (.int jv), .val (.int kv)] []))) (fun t k => XS.ifYes Xl.here hx rfl (pc0 := 44) (pc' := 61) rfl (hb hby d5_44) rfl (by rw [if0]; exact (tlt c44_10).1) (by decide) (by decide) k) ?_
            refine OD.go (B := (Tl.setTop (mkF m 62 #[.val (.ref da), .val (.ref fa), .val (.ref ta), .val (.int lo), .val (.int mid), .val (.int hi), .val (.int iv), .val (.int jv), .val (.int kv)] [(.ref ta)]))) (fun t k => XS.aloadN Xl.here hx rfl (hb hby d5_61) rfl rfl k) ?_
            refine OD.go (B := (Tl.setTop (mkF m 64 #[.val (.ref da), .val (.ref fa), .val (.ref ta), .val (.int lo), .val (.int mid), .val (.int hi), .val (.int iv), .val (.int jv), .val (.int kv)] [(.int kv), (.ref ta)]))) (fun t k => XS.iload Xl.here hx rfl (hb hby d5_62) rfl k) ?_
            refine OD.go (B := (Tl.setTop (mkF m 65 #[.val (.ref da), .val (.ref fa), .val (.ref ta), .val (.int lo), .val (.int mid), .val (.int hi), .val (.int iv), .val (.int jv), .val (.int kv)] [(.ref fa), (.int kv), (.ref ta)]))) (fun t k => XS.aloadN Xl.here hx rfl (hb hby d5_64) rfl rfl k) ?_
            refine OD.go (B := (Tl.setTop (mkF m 67 #[.val (.ref da), .val (.ref fa), .val (.ref ta), .val (.int lo), .val (.int mid), .val (.int hi), .val (.int iv), .val (.int jv), .val (.int kv)] [(.int jv), (.ref fa), (.int kv), (.ref ta)]))) (fun t k => XS.iload Xl.here hx rfl (hb hby d5_65) rfl k) ?_
            refine OD.go (B := (Tl.setTop (mkF m 70 #[.val (.ref da), .val (.ref fa), .val (.ref ta), .val (.int lo), .val (.int mid), .val (.int hi), .val (.int iv), .val (.int (jv + (1 : Int32))), .val (.int kv)] [(.int jv), (.ref fa), (.int kv), (.ref ta)]))) (fun t k => XS.iinc Xl.here hx rfl (hb hby d5_67) rfl (l' := #[.val (.ref da), .val (.ref fa), .val (.ref ta), .val (.int lo), .val (.int mid), .val (.int hi), .val (.int iv), .val (.int (jv + (1 : Int32))), .val (.int kv)]) rfl k) ?_
            obtain ⟨cl11, Ar11, hi11, ha11⟩ := own_at Fl (j := jv) (v := (.int (F jv))) (own_bj inv hlo hhz c21_1) (own_rg_at (own_bj inv hlo hhz c21_1) _ _)
            refine OD.go (B := (Tl.setTop (mkF m 71 #[.val (.ref da), .val (.ref fa), .val (.ref ta), .val (.int lo), .val (.int mid), .val (.int hi), .val (.int iv), .val (.int (jv + (1 : Int32))), .val (.int kv)] [(.int (F jv)), (.int kv), (.ref ta)]))) (fun t k => Xl.iaload hx (j := jv) (v := (.int (F jv))) (by rw [el]; exact Ar11.1) (State.isArrayOf_alike hZ.alike Ar11.2.1) Ar11.2.2 hi11 ha11 (g := (mkF m 70 #[.val (.ref da), .val (.ref fa), .val (.ref ta), .val (.int lo), .val (.int mid), .val (.int hi), .val (.int iv), .val (.int (jv + (1 : Int32))), .val (.int kv)] [(.int jv), (.ref fa), (.int kv), (.ref ta)])) rfl rfl (hb hby d5_70) _ k) ?_
            obtain ⟨cl13, Ar13, q13, S13, M13, H13, G13⟩ := id Al
            obtain ⟨T13, h13, X13, e13, W13, st13⟩ := stI Xl hx hZ el Ar13 (j := kv) (inb_of S13 (own_bk inv hlo hhz)) (g := (mkF m 71 #[.val (.ref da), .val (.ref fa), .val (.ref ta), .val (.int lo), .val (.int mid), .val (.int hi), .val (.int iv), .val (.int (jv + (1 : Int32))), .val (.int kv)] [(.int (F jv)), (.int kv), (.ref ta)])) rfl rfl (hb hby d5_71)
            have V13 := own_put (fun x => .int ((own_up G kv (F jv)) x)) Ar13 q13 S13 M13 H13 G13 rfl W13 (own_bk inv hlo hhz) (congrArg Value.int (own_up_at _ _ _)) (fun x q => congrArg Value.int (own_up_ne _ _ q))
            have N13 := Fr.snoc X13 Nl gt
            refine OD.go (B := (T13.setTop (mkF m 72 #[.val (.ref da), .val (.ref fa), .val (.ref ta), .val (.int lo), .val (.int mid), .val (.int hi), .val (.int iv), .val (.int (jv + (1 : Int32))), .val (.int kv)] []))) st13 ?_
            refine OD.go (B := (T13.setTop (mkF m 75 #[.val (.ref da), .val (.ref fa), .val (.ref ta), .val (.int lo), .val (.int mid), .val (.int hi), .val (.int iv), .val (.int (jv + (1 : Int32))), .val (.int (kv + (1 : Int32)))] []))) (fun t k => XS.iinc X13.here hx rfl (hb hby d5_72) rfl (l' := #[.val (.ref da), .val (.ref fa), .val (.ref ta), .val (.int lo), .val (.int mid), .val (.int hi), .val (.int iv), .val (.int (jv + (1 : Int32))), .val (.int (kv + (1 : Int32)))]) rfl k) ?_
            refine OD.go (B := (T13.setTop (mkF m 10 #[.val (.ref da), .val (.ref fa), .val (.ref ta), .val (.int lo), .val (.int mid), .val (.int hi), .val (.int iv), .val (.int (jv + (1 : Int32))), .val (.int (kv + (1 : Int32)))] []))) (fun t k => XS.goto X13.here hx rfl (pc0 := 75) (pc' := 10) rfl (hb hby d5_75) (by decide) (by decide) k) ?_
            exact ih _ _ _ _ _ _ _ X13 e13 N13 (Kl.wr W13 (Or.inl (List.mem_of_getElem? (i := 0) rfl))) V13 (own_ivR inv c21_1) (by rw [own_ml, if_neg c21_1, if_pos c28_5, if_pos c44_10] at hR; exact hR)
          · refine OD.go (B := (Tl.setTop (mkF m 47 #[.val (.ref da), .val (.ref fa), .val (.ref ta), .val (.int lo), .val (.int mid), .val (.int hi), .val (.int iv), .val (.int jv), .val (.int kv)] []))) (fun t k => XS.ifNo Xl.here hx rfl (hb hby d5_44) rfl (by rw [if0]; exact (flt c44_10).1) k) ?_
            refine OD.go (B := (Tl.setTop (mkF m 48 #[.val (.ref da), .val (.ref fa), .val (.ref ta), .val (.int lo), .val (.int mid), .val (.int hi), .val (.int iv), .val (.int jv), .val (.int kv)] [(.ref ta)]))) (fun t k => XS.aloadN Xl.here hx rfl (hb hby d5_47) rfl rfl k) ?_
            refine OD.go (B := (Tl.setTop (mkF m 50 #[.val (.ref da), .val (.ref fa), .val (.ref ta), .val (.int lo), .val (.int mid), .val (.int hi), .val (.int iv), .val (.int jv), .val (.int kv)] [(.int kv), (.ref ta)]))) (fun t k => XS.iload Xl.here hx rfl (hb hby d5_48) rfl k) ?_
            refine OD.go (B := (Tl.setTop (mkF m 51 #[.val (.ref da), .val (.ref fa), .val (.ref ta), .val (.int lo), .val (.int mid), .val (.int hi), .val (.int iv), .val (.int jv), .val (.int kv)] [(.ref fa), (.int kv), (.ref ta)]))) (fun t k => XS.aloadN Xl.here hx rfl (hb hby d5_50) rfl rfl k) ?_
            refine OD.go (B := (Tl.setTop (mkF m 53 #[.val (.ref da), .val (.ref fa), .val (.ref ta), .val (.int lo), .val (.int mid), .val (.int hi), .val (.int iv), .val (.int jv), .val (.int kv)] [(.int iv), (.ref fa), (.int kv), (.ref ta)]))) (fun t k => XS.iload Xl.here hx rfl (hb hby d5_51) rfl k) ?_
            refine OD.go (B := (Tl.setTop (mkF m 56 #[.val (.ref da), .val (.ref fa), .val (.ref ta), .val (.int lo), .val (.int mid), .val (.int hi), .val (.int (iv + (1 : Int32))), .val (.int jv), .val (.int kv)] [(.int iv), (.ref fa), (.int kv), (.ref ta)]))) (fun t k => XS.iinc Xl.here hx rfl (hb hby d5_53) rfl (l' := #[.val (.ref da), .val (.ref fa), .val (.ref ta), .val (.int lo), .val (.int mid), .val (.int hi), .val (.int (iv + (1 : Int32))), .val (.int jv), .val (.int kv)]) rfl k) ?_
            obtain ⟨cl14, Ar14, hi14, ha14⟩ := own_at Fl (j := iv) (v := (.int (F iv))) (own_bi inv hlo hhz (Or.inr c28_5)) (own_rg_at (own_bi inv hlo hhz (Or.inr c28_5)) _ _)
            refine OD.go (B := (Tl.setTop (mkF m 57 #[.val (.ref da), .val (.ref fa), .val (.ref ta), .val (.int lo), .val (.int mid), .val (.int hi), .val (.int (iv + (1 : Int32))), .val (.int jv), .val (.int kv)] [(.int (F iv)), (.int kv), (.ref ta)]))) (fun t k => Xl.iaload hx (j := iv) (v := (.int (F iv))) (by rw [el]; exact Ar14.1) (State.isArrayOf_alike hZ.alike Ar14.2.1) Ar14.2.2 hi14 ha14 (g := (mkF m 56 #[.val (.ref da), .val (.ref fa), .val (.ref ta), .val (.int lo), .val (.int mid), .val (.int hi), .val (.int (iv + (1 : Int32))), .val (.int jv), .val (.int kv)] [(.int iv), (.ref fa), (.int kv), (.ref ta)])) rfl rfl (hb hby d5_56) _ k) ?_
            obtain ⟨cl16, Ar16, q16, S16, M16, H16, G16⟩ := id Al
            obtain ⟨T16, h16, X16, e16, W16, st16⟩ := stI Xl hx hZ el Ar16 (j := kv) (inb_of S16 (own_bk inv hlo hhz)) (g := (mkF m 57 #[.val (.ref da), .val (.ref fa), .val (.ref ta), .val (.int lo), .val (.int mid), .val (.int hi), .val (.int (iv + (1 : Int32))), .val (.int jv), .val (.int kv)] [(.int (F iv)), (.int kv), (.ref ta)])) rfl rfl (hb hby d5_57)
            have V16 := own_put (fun x => .int ((own_up G kv (F iv)) x)) Ar16 q16 S16 M16 H16 G16 rfl W16 (own_bk inv hlo hhz) (congrArg Value.int (own_up_at _ _ _)) (fun x q => congrArg Value.int (own_up_ne _ _ q))
            have N16 := Fr.snoc X16 Nl gt
            refine OD.go (B := (T16.setTop (mkF m 58 #[.val (.ref da), .val (.ref fa), .val (.ref ta), .val (.int lo), .val (.int mid), .val (.int hi), .val (.int (iv + (1 : Int32))), .val (.int jv), .val (.int kv)] []))) st16 ?_
            refine OD.go (B := (T16.setTop (mkF m 72 #[.val (.ref da), .val (.ref fa), .val (.ref ta), .val (.int lo), .val (.int mid), .val (.int hi), .val (.int (iv + (1 : Int32))), .val (.int jv), .val (.int kv)] []))) (fun t k => XS.goto X16.here hx rfl (pc0 := 58) (pc' := 72) rfl (hb hby d5_58) (by decide) (by decide) k) ?_
            refine OD.go (B := (T16.setTop (mkF m 75 #[.val (.ref da), .val (.ref fa), .val (.ref ta), .val (.int lo), .val (.int mid), .val (.int hi), .val (.int (iv + (1 : Int32))), .val (.int jv), .val (.int (kv + (1 : Int32)))] []))) (fun t k => XS.iinc X16.here hx rfl (hb hby d5_72) rfl (l' := #[.val (.ref da), .val (.ref fa), .val (.ref ta), .val (.int lo), .val (.int mid), .val (.int hi), .val (.int (iv + (1 : Int32))), .val (.int jv), .val (.int (kv + (1 : Int32)))]) rfl k) ?_
            refine OD.go (B := (T16.setTop (mkF m 10 #[.val (.ref da), .val (.ref fa), .val (.ref ta), .val (.int lo), .val (.int mid), .val (.int hi), .val (.int (iv + (1 : Int32))), .val (.int jv), .val (.int (kv + (1 : Int32)))] []))) (fun t k => XS.goto X16.here hx rfl (pc0 := 75) (pc' := 10) rfl (hb hby d5_75) (by decide) (by decide) k) ?_
            exact ih _ _ _ _ _ _ _ X16 e16 N16 (Kl.wr W16 (Or.inl (List.mem_of_getElem? (i := 0) rfl))) V16 (own_ivL inv (Or.inr c28_5)) (by rw [own_ml, if_neg c21_1, if_pos c28_5, if_neg c44_10] at hR; exact hR)
        · refine OD.go (B := (Tl.setTop (mkF m 61 #[.val (.ref da), .val (.ref fa), .val (.ref ta), .val (.int lo), .val (.int mid), .val (.int hi), .val (.int iv), .val (.int jv), .val (.int kv)] []))) (fun t k => XS.icmpYes Xl.here hx rfl (pc0 := 28) (pc' := 61) rfl (hb hby d5_28) rfl (flt c28_5).2.1 (by decide) (by decide) k) ?_
          refine OD.go (B := (Tl.setTop (mkF m 62 #[.val (.ref da), .val (.ref fa), .val (.ref ta), .val (.int lo), .val (.int mid), .val (.int hi), .val (.int iv), .val (.int jv), .val (.int kv)] [(.ref ta)]))) (fun t k => XS.aloadN Xl.here hx rfl (hb hby d5_61) rfl rfl k) ?_
          refine OD.go (B := (Tl.setTop (mkF m 64 #[.val (.ref da), .val (.ref fa), .val (.ref ta), .val (.int lo), .val (.int mid), .val (.int hi), .val (.int iv), .val (.int jv), .val (.int kv)] [(.int kv), (.ref ta)]))) (fun t k => XS.iload Xl.here hx rfl (hb hby d5_62) rfl k) ?_
          refine OD.go (B := (Tl.setTop (mkF m 65 #[.val (.ref da), .val (.ref fa), .val (.ref ta), .val (.int lo), .val (.int mid), .val (.int hi), .val (.int iv), .val (.int jv), .val (.int kv)] [(.ref fa), (.int kv), (.ref ta)]))) (fun t k => XS.aloadN Xl.here hx rfl (hb hby d5_64) rfl rfl k) ?_
          refine OD.go (B := (Tl.setTop (mkF m 67 #[.val (.ref da), .val (.ref fa), .val (.ref ta), .val (.int lo), .val (.int mid), .val (.int hi), .val (.int iv), .val (.int jv), .val (.int kv)] [(.int jv), (.ref fa), (.int kv), (.ref ta)]))) (fun t k => XS.iload Xl.here hx rfl (hb hby d5_65) rfl k) ?_
          refine OD.go (B := (Tl.setTop (mkF m 70 #[.val (.ref da), .val (.ref fa), .val (.ref ta), .val (.int lo), .val (.int mid), .val (.int hi), .val (.int iv), .val (.int (jv + (1 : Int32))), .val (.int kv)] [(.int jv), (.ref fa), (.int kv), (.ref ta)]))) (fun t k => XS.iinc Xl.here hx rfl (hb hby d5_67) rfl (l' := #[.val (.ref da), .val (.ref fa), .val (.ref ta), .val (.int lo), .val (.int mid), .val (.int hi), .val (.int iv), .val (.int (jv + (1 : Int32))), .val (.int kv)]) rfl k) ?_
          obtain ⟨cl17, Ar17, hi17, ha17⟩ := own_at Fl (j := jv) (v := (.int (F jv))) (own_bj inv hlo hhz c21_1) (own_rg_at (own_bj inv hlo hhz c21_1) _ _)
          refine OD.go (B := (Tl.setTop (mkF m 71 #[.val (.ref da), .val (.ref fa), .val (.ref ta), .val (.int lo), .val (.int mid), .val (.int hi), .val (.int iv), .val (.int (jv + (1 : Int32))), .val (.int kv)] [(.int (F jv)), (.int kv), (.ref ta)]))) (fun t k => Xl.iaload hx (j := jv) (v := (.int (F jv))) (by rw [el]; exact Ar17.1) (State.isArrayOf_alike hZ.alike Ar17.2.1) Ar17.2.2 hi17 ha17 (g := (mkF m 70 #[.val (.ref da), .val (.ref fa), .val (.ref ta), .val (.int lo), .val (.int mid), .val (.int hi), .val (.int iv), .val (.int (jv + (1 : Int32))), .val (.int kv)] [(.int jv), (.ref fa), (.int kv), (.ref ta)])) rfl rfl (hb hby d5_70) _ k) ?_
          obtain ⟨cl19, Ar19, q19, S19, M19, H19, G19⟩ := id Al
          obtain ⟨T19, h19, X19, e19, W19, st19⟩ := stI Xl hx hZ el Ar19 (j := kv) (inb_of S19 (own_bk inv hlo hhz)) (g := (mkF m 71 #[.val (.ref da), .val (.ref fa), .val (.ref ta), .val (.int lo), .val (.int mid), .val (.int hi), .val (.int iv), .val (.int (jv + (1 : Int32))), .val (.int kv)] [(.int (F jv)), (.int kv), (.ref ta)])) rfl rfl (hb hby d5_71)
          have V19 := own_put (fun x => .int ((own_up G kv (F jv)) x)) Ar19 q19 S19 M19 H19 G19 rfl W19 (own_bk inv hlo hhz) (congrArg Value.int (own_up_at _ _ _)) (fun x q => congrArg Value.int (own_up_ne _ _ q))
          have N19 := Fr.snoc X19 Nl gt
          refine OD.go (B := (T19.setTop (mkF m 72 #[.val (.ref da), .val (.ref fa), .val (.ref ta), .val (.int lo), .val (.int mid), .val (.int hi), .val (.int iv), .val (.int (jv + (1 : Int32))), .val (.int kv)] []))) st19 ?_
          refine OD.go (B := (T19.setTop (mkF m 75 #[.val (.ref da), .val (.ref fa), .val (.ref ta), .val (.int lo), .val (.int mid), .val (.int hi), .val (.int iv), .val (.int (jv + (1 : Int32))), .val (.int (kv + (1 : Int32)))] []))) (fun t k => XS.iinc X19.here hx rfl (hb hby d5_72) rfl (l' := #[.val (.ref da), .val (.ref fa), .val (.ref ta), .val (.int lo), .val (.int mid), .val (.int hi), .val (.int iv), .val (.int (jv + (1 : Int32))), .val (.int (kv + (1 : Int32)))]) rfl k) ?_
          refine OD.go (B := (T19.setTop (mkF m 10 #[.val (.ref da), .val (.ref fa), .val (.ref ta), .val (.int lo), .val (.int mid), .val (.int hi), .val (.int iv), .val (.int (jv + (1 : Int32))), .val (.int (kv + (1 : Int32)))] []))) (fun t k => XS.goto X19.here hx rfl (pc0 := 75) (pc' := 10) rfl (hb hby d5_75) (by decide) (by decide) k) ?_
          exact ih _ _ _ _ _ _ _ X19 e19 N19 (Kl.wr W19 (Or.inl (List.mem_of_getElem? (i := 0) rfl))) V19 (own_ivR inv c21_1) (by rw [own_ml, if_neg c21_1, if_neg c28_5] at hR; exact hR)
  exact loop _ lo mid lo G0 _ _ _ X0 e0 N0 (Keep.refl _ _) T1 ⟨Int.le_refl _, hlm, Int.le_refl _, hmh, by omega, by omega⟩ rfl
def Q_rmMn1_2 (Z : State) (h0 : Heap) (v : Option Value) (h : Heap) (L : List Loc) : Prop := v = some (.int 1) ∧ L = [] ∧ h = h0
set_option maxRecDepth 65536 in
set_option maxHeartbeats 40000000 in
theorem rmMn1_2 (l : Launch) (Z : State) (a0 : Array Value) (hw : ∀ d ∈ tables_1, d.before a0 Z = true) (ws : List Jvm.Cond)  (h0 : Heap)  :
    MetFree l (⟨"java/lang/Math", "min", "(II)I"⟩ : MethodName) (head1 (Jvm.Cond.code (⟨"java/lang/Math", "min", "(II)I"⟩ : MethodName) jdk_29_method_69_code 2 (some .int) :: ws) ({ frames := 0, cells := 0, slots := 0, locals := 0 } : Room)) (fun a U => a = #[(.int 1), (.int 2)] ∧ Z.Warmed39 U.vm ∧ U.heap = h0) (fun _ _ _ _ _ => True) (fun _ U o U' => ∃ v L, o = .returned v ∧ Q_rmMn1_2 Z h0 v U'.heap L ∧ FrameEnd U o U' L ({ frames := 0, cells := 0, slots := 0, locals := 0 } : Room).cells ({ frames := 0, cells := 0, slots := 0, locals := 0 } : Room).slots) := by
  refine MetFree.of_bodySF (by decide +kernel) hisR ?_
  intro p e s m args below meth c s₁ Bd hml0 hP hK
  obtain ⟨rfl, hZ, hh⟩ := hP
  have hx := Bd.exec
  have hby := Bd.bytes
  have hlk : meth.locks = false := Bd.notSynchronized
  have hml : c.maxLocals = 2 := hml0
  have hown : s.vm.findClass "java/lang/Math" = some m.cls := findClass_of_methodNamed Bd.named
  have hnm := (name_of_methodNamed Bd.named Bd.method).1
  have X0 : Stand p l e ({ frames := 0, cells := 0, slots := 0, locals := 0 } : Room) s m #[(.int 1), (.int 2)] below meth c s₁ [] 0 0 := Stand.of_body Bd
  have e0 : s₁.heap = h0 := by rw [← hh, Bd.state]; rfl
  suffices hgo : OD p e s below (Q_rmMn1_2 Z h0) ({ frames := 0, cells := 0, slots := 0, locals := 0 } : Room).cells ({ frames := 0, cells := 0, slots := 0, locals := 0 } : Room).slots (s₁.setTop (mkF m 0 #[.val (.int 1), .val (.int 2)] [])) by
    obtain ⟨s₂, o, hgo1, hgo2⟩ := hgo
    exact ⟨s₂, o, castTop (ef1 m (1 : Int32) (2 : Int32)) hgo1, hgo2⟩
  refine OD.go (B := (s₁.setTop (mkF m 1 #[.val (.int 1), .val (.int 2)] [(.int 1)]))) (fun t k => XS.iloadN X0.here hx rfl (hb hby d4_0) rfl k) ?_
  refine OD.go (B := (s₁.setTop (mkF m 2 #[.val (.int 1), .val (.int 2)] [(.int 2), (.int 1)]))) (fun t k => XS.iloadN X0.here hx rfl (hb hby d4_1) rfl k) ?_
  refine OD.go (B := (s₁.setTop (mkF m 5 #[.val (.int 1), .val (.int 2)] []))) (fun t k => XS.icmpNo X0.here hx rfl (hb hby d4_2) rfl (flt (by decide : ¬ (2 : Int32) < (1 : Int32))).2.2.1 k) ?_
  refine OD.go (B := (s₁.setTop (mkF m 6 #[.val (.int 1), .val (.int 2)] [(.int 1)]))) (fun t k => XS.iloadN X0.here hx rfl (hb hby d4_5) rfl k) ?_
  refine OD.go (B := (s₁.setTop (mkF m 10 #[.val (.int 1), .val (.int 2)] [(.int 1)]))) (fun t k => XS.goto X0.here hx rfl (pc0 := 6) (pc' := 10) rfl (hb hby d4_6) (by decide) (by decide) k) ?_
  exact OD.ret X0 hx hlk (t := .int) Bd.returns rfl (Or.inl ⟨rfl, Or.inl rfl, _, rfl⟩) (hb hby d4_10) (Nat.le_of_ble_eq_true rfl) (Nat.le_of_ble_eq_true rfl) ⟨rfl, rfl, e0⟩
def Q_rmMn1_3 (Z : State) (h0 : Heap) (v : Option Value) (h : Heap) (L : List Loc) : Prop := v = some (.int 1) ∧ L = [] ∧ h = h0
set_option maxRecDepth 65536 in
set_option maxHeartbeats 40000000 in
theorem rmMn1_3 (l : Launch) (Z : State) (a0 : Array Value) (hw : ∀ d ∈ tables_1, d.before a0 Z = true) (ws : List Jvm.Cond)  (h0 : Heap)  :
    MetFree l (⟨"java/lang/Math", "min", "(II)I"⟩ : MethodName) (head1 (Jvm.Cond.code (⟨"java/lang/Math", "min", "(II)I"⟩ : MethodName) jdk_29_method_69_code 2 (some .int) :: ws) ({ frames := 0, cells := 0, slots := 0, locals := 0 } : Room)) (fun a U => a = #[(.int 1), (.int 3)] ∧ Z.Warmed39 U.vm ∧ U.heap = h0) (fun _ _ _ _ _ => True) (fun _ U o U' => ∃ v L, o = .returned v ∧ Q_rmMn1_3 Z h0 v U'.heap L ∧ FrameEnd U o U' L ({ frames := 0, cells := 0, slots := 0, locals := 0 } : Room).cells ({ frames := 0, cells := 0, slots := 0, locals := 0 } : Room).slots) := by
  refine MetFree.of_bodySF (by decide +kernel) hisR ?_
  intro p e s m args below meth c s₁ Bd hml0 hP hK
  obtain ⟨rfl, hZ, hh⟩ := hP
  have hx := Bd.exec
  have hby := Bd.bytes
  have hlk : meth.locks = false := Bd.notSynchronized
  have hml : c.maxLocals = 2 := hml0
  have hown : s.vm.findClass "java/lang/Math" = some m.cls := findClass_of_methodNamed Bd.named
  have hnm := (name_of_methodNamed Bd.named Bd.method).1
  have X0 : Stand p l e ({ frames := 0, cells := 0, slots := 0, locals := 0 } : Room) s m #[(.int 1), (.int 3)] below meth c s₁ [] 0 0 := Stand.of_body Bd
  have e0 : s₁.heap = h0 := by rw [← hh, Bd.state]; rfl
  suffices hgo : OD p e s below (Q_rmMn1_3 Z h0) ({ frames := 0, cells := 0, slots := 0, locals := 0 } : Room).cells ({ frames := 0, cells := 0, slots := 0, locals := 0 } : Room).slots (s₁.setTop (mkF m 0 #[.val (.int 1), .val (.int 3)] [])) by
    obtain ⟨s₂, o, hgo1, hgo2⟩ := hgo
    exact ⟨s₂, o, castTop (ef1 m (1 : Int32) (3 : Int32)) hgo1, hgo2⟩
  refine OD.go (B := (s₁.setTop (mkF m 1 #[.val (.int 1), .val (.int 3)] [(.int 1)]))) (fun t k => XS.iloadN X0.here hx rfl (hb hby d4_0) rfl k) ?_
  refine OD.go (B := (s₁.setTop (mkF m 2 #[.val (.int 1), .val (.int 3)] [(.int 3), (.int 1)]))) (fun t k => XS.iloadN X0.here hx rfl (hb hby d4_1) rfl k) ?_
  refine OD.go (B := (s₁.setTop (mkF m 5 #[.val (.int 1), .val (.int 3)] []))) (fun t k => XS.icmpNo X0.here hx rfl (hb hby d4_2) rfl (flt (by decide : ¬ (3 : Int32) < (1 : Int32))).2.2.1 k) ?_
  refine OD.go (B := (s₁.setTop (mkF m 6 #[.val (.int 1), .val (.int 3)] [(.int 1)]))) (fun t k => XS.iloadN X0.here hx rfl (hb hby d4_5) rfl k) ?_
  refine OD.go (B := (s₁.setTop (mkF m 10 #[.val (.int 1), .val (.int 3)] [(.int 1)]))) (fun t k => XS.goto X0.here hx rfl (pc0 := 6) (pc' := 10) rfl (hb hby d4_6) (by decide) (by decide) k) ?_
  exact OD.ret X0 hx hlk (t := .int) Bd.returns rfl (Or.inl ⟨rfl, Or.inl rfl, _, rfl⟩) (hb hby d4_10) (Nat.le_of_ble_eq_true rfl) (Nat.le_of_ble_eq_true rfl) ⟨rfl, rfl, e0⟩
def Q_rmMn1_4 (Z : State) (h0 : Heap) (v : Option Value) (h : Heap) (L : List Loc) : Prop := v = some (.int 1) ∧ L = [] ∧ h = h0
set_option maxRecDepth 65536 in
set_option maxHeartbeats 40000000 in
theorem rmMn1_4 (l : Launch) (Z : State) (a0 : Array Value) (hw : ∀ d ∈ tables_1, d.before a0 Z = true) (ws : List Jvm.Cond)  (h0 : Heap)  :
    MetFree l (⟨"java/lang/Math", "min", "(II)I"⟩ : MethodName) (head1 (Jvm.Cond.code (⟨"java/lang/Math", "min", "(II)I"⟩ : MethodName) jdk_29_method_69_code 2 (some .int) :: ws) ({ frames := 0, cells := 0, slots := 0, locals := 0 } : Room)) (fun a U => a = #[(.int 1), (.int 4)] ∧ Z.Warmed39 U.vm ∧ U.heap = h0) (fun _ _ _ _ _ => True) (fun _ U o U' => ∃ v L, o = .returned v ∧ Q_rmMn1_4 Z h0 v U'.heap L ∧ FrameEnd U o U' L ({ frames := 0, cells := 0, slots := 0, locals := 0 } : Room).cells ({ frames := 0, cells := 0, slots := 0, locals := 0 } : Room).slots) := by
  refine MetFree.of_bodySF (by decide +kernel) hisR ?_
  intro p e s m args below meth c s₁ Bd hml0 hP hK
  obtain ⟨rfl, hZ, hh⟩ := hP
  have hx := Bd.exec
  have hby := Bd.bytes
  have hlk : meth.locks = false := Bd.notSynchronized
  have hml : c.maxLocals = 2 := hml0
  have hown : s.vm.findClass "java/lang/Math" = some m.cls := findClass_of_methodNamed Bd.named
  have hnm := (name_of_methodNamed Bd.named Bd.method).1
  have X0 : Stand p l e ({ frames := 0, cells := 0, slots := 0, locals := 0 } : Room) s m #[(.int 1), (.int 4)] below meth c s₁ [] 0 0 := Stand.of_body Bd
  have e0 : s₁.heap = h0 := by rw [← hh, Bd.state]; rfl
  suffices hgo : OD p e s below (Q_rmMn1_4 Z h0) ({ frames := 0, cells := 0, slots := 0, locals := 0 } : Room).cells ({ frames := 0, cells := 0, slots := 0, locals := 0 } : Room).slots (s₁.setTop (mkF m 0 #[.val (.int 1), .val (.int 4)] [])) by
    obtain ⟨s₂, o, hgo1, hgo2⟩ := hgo
    exact ⟨s₂, o, castTop (ef1 m (1 : Int32) (4 : Int32)) hgo1, hgo2⟩
  refine OD.go (B := (s₁.setTop (mkF m 1 #[.val (.int 1), .val (.int 4)] [(.int 1)]))) (fun t k => XS.iloadN X0.here hx rfl (hb hby d4_0) rfl k) ?_
  refine OD.go (B := (s₁.setTop (mkF m 2 #[.val (.int 1), .val (.int 4)] [(.int 4), (.int 1)]))) (fun t k => XS.iloadN X0.here hx rfl (hb hby d4_1) rfl k) ?_
  refine OD.go (B := (s₁.setTop (mkF m 5 #[.val (.int 1), .val (.int 4)] []))) (fun t k => XS.icmpNo X0.here hx rfl (hb hby d4_2) rfl (flt (by decide : ¬ (4 : Int32) < (1 : Int32))).2.2.1 k) ?_
  refine OD.go (B := (s₁.setTop (mkF m 6 #[.val (.int 1), .val (.int 4)] [(.int 1)]))) (fun t k => XS.iloadN X0.here hx rfl (hb hby d4_5) rfl k) ?_
  refine OD.go (B := (s₁.setTop (mkF m 10 #[.val (.int 1), .val (.int 4)] [(.int 1)]))) (fun t k => XS.goto X0.here hx rfl (pc0 := 6) (pc' := 10) rfl (hb hby d4_6) (by decide) (by decide) k) ?_
  exact OD.ret X0 hx hlk (t := .int) Bd.returns rfl (Or.inl ⟨rfl, Or.inl rfl, _, rfl⟩) (hb hby d4_10) (Nat.le_of_ble_eq_true rfl) (Nat.le_of_ble_eq_true rfl) ⟨rfl, rfl, e0⟩
def Q_rmMn1_5 (Z : State) (h0 : Heap) (v : Option Value) (h : Heap) (L : List Loc) : Prop := v = some (.int 1) ∧ L = [] ∧ h = h0
set_option maxRecDepth 65536 in
set_option maxHeartbeats 40000000 in
theorem rmMn1_5 (l : Launch) (Z : State) (a0 : Array Value) (hw : ∀ d ∈ tables_1, d.before a0 Z = true) (ws : List Jvm.Cond)  (h0 : Heap)  :
    MetFree l (⟨"java/lang/Math", "min", "(II)I"⟩ : MethodName) (head1 (Jvm.Cond.code (⟨"java/lang/Math", "min", "(II)I"⟩ : MethodName) jdk_29_method_69_code 2 (some .int) :: ws) ({ frames := 0, cells := 0, slots := 0, locals := 0 } : Room)) (fun a U => a = #[(.int 1), (.int 5)] ∧ Z.Warmed39 U.vm ∧ U.heap = h0) (fun _ _ _ _ _ => True) (fun _ U o U' => ∃ v L, o = .returned v ∧ Q_rmMn1_5 Z h0 v U'.heap L ∧ FrameEnd U o U' L ({ frames := 0, cells := 0, slots := 0, locals := 0 } : Room).cells ({ frames := 0, cells := 0, slots := 0, locals := 0 } : Room).slots) := by
  refine MetFree.of_bodySF (by decide +kernel) hisR ?_
  intro p e s m args below meth c s₁ Bd hml0 hP hK
  obtain ⟨rfl, hZ, hh⟩ := hP
  have hx := Bd.exec
  have hby := Bd.bytes
  have hlk : meth.locks = false := Bd.notSynchronized
  have hml : c.maxLocals = 2 := hml0
  have hown : s.vm.findClass "java/lang/Math" = some m.cls := findClass_of_methodNamed Bd.named
  have hnm := (name_of_methodNamed Bd.named Bd.method).1
  have X0 : Stand p l e ({ frames := 0, cells := 0, slots := 0, locals := 0 } : Room) s m #[(.int 1), (.int 5)] below meth c s₁ [] 0 0 := Stand.of_body Bd
  have e0 : s₁.heap = h0 := by rw [← hh, Bd.state]; rfl
  suffices hgo : OD p e s below (Q_rmMn1_5 Z h0) ({ frames := 0, cells := 0, slots := 0, locals := 0 } : Room).cells ({ frames := 0, cells := 0, slots := 0, locals := 0 } : Room).slots (s₁.setTop (mkF m 0 #[.val (.int 1), .val (.int 5)] [])) by
    obtain ⟨s₂, o, hgo1, hgo2⟩ := hgo
    exact ⟨s₂, o, castTop (ef1 m (1 : Int32) (5 : Int32)) hgo1, hgo2⟩
  refine OD.go (B := (s₁.setTop (mkF m 1 #[.val (.int 1), .val (.int 5)] [(.int 1)]))) (fun t k => XS.iloadN X0.here hx rfl (hb hby d4_0) rfl k) ?_
  refine OD.go (B := (s₁.setTop (mkF m 2 #[.val (.int 1), .val (.int 5)] [(.int 5), (.int 1)]))) (fun t k => XS.iloadN X0.here hx rfl (hb hby d4_1) rfl k) ?_
  refine OD.go (B := (s₁.setTop (mkF m 5 #[.val (.int 1), .val (.int 5)] []))) (fun t k => XS.icmpNo X0.here hx rfl (hb hby d4_2) rfl (flt (by decide : ¬ (5 : Int32) < (1 : Int32))).2.2.1 k) ?_
  refine OD.go (B := (s₁.setTop (mkF m 6 #[.val (.int 1), .val (.int 5)] [(.int 1)]))) (fun t k => XS.iloadN X0.here hx rfl (hb hby d4_5) rfl k) ?_
  refine OD.go (B := (s₁.setTop (mkF m 10 #[.val (.int 1), .val (.int 5)] [(.int 1)]))) (fun t k => XS.goto X0.here hx rfl (pc0 := 6) (pc' := 10) rfl (hb hby d4_6) (by decide) (by decide) k) ?_
  exact OD.ret X0 hx hlk (t := .int) Bd.returns rfl (Or.inl ⟨rfl, Or.inl rfl, _, rfl⟩) (hb hby d4_10) (Nat.le_of_ble_eq_true rfl) (Nat.le_of_ble_eq_true rfl) ⟨rfl, rfl, e0⟩
def Q_rmMn2_2 (Z : State) (h0 : Heap) (v : Option Value) (h : Heap) (L : List Loc) : Prop := v = some (.int 2) ∧ L = [] ∧ h = h0
set_option maxRecDepth 65536 in
set_option maxHeartbeats 40000000 in
theorem rmMn2_2 (l : Launch) (Z : State) (a0 : Array Value) (hw : ∀ d ∈ tables_1, d.before a0 Z = true) (ws : List Jvm.Cond)  (h0 : Heap)  :
    MetFree l (⟨"java/lang/Math", "min", "(II)I"⟩ : MethodName) (head1 (Jvm.Cond.code (⟨"java/lang/Math", "min", "(II)I"⟩ : MethodName) jdk_29_method_69_code 2 (some .int) :: ws) ({ frames := 0, cells := 0, slots := 0, locals := 0 } : Room)) (fun a U => a = #[(.int 2), (.int 2)] ∧ Z.Warmed39 U.vm ∧ U.heap = h0) (fun _ _ _ _ _ => True) (fun _ U o U' => ∃ v L, o = .returned v ∧ Q_rmMn2_2 Z h0 v U'.heap L ∧ FrameEnd U o U' L ({ frames := 0, cells := 0, slots := 0, locals := 0 } : Room).cells ({ frames := 0, cells := 0, slots := 0, locals := 0 } : Room).slots) := by
  refine MetFree.of_bodySF (by decide +kernel) hisR ?_
  intro p e s m args below meth c s₁ Bd hml0 hP hK
  obtain ⟨rfl, hZ, hh⟩ := hP
  have hx := Bd.exec
  have hby := Bd.bytes
  have hlk : meth.locks = false := Bd.notSynchronized
  have hml : c.maxLocals = 2 := hml0
  have hown : s.vm.findClass "java/lang/Math" = some m.cls := findClass_of_methodNamed Bd.named
  have hnm := (name_of_methodNamed Bd.named Bd.method).1
  have X0 : Stand p l e ({ frames := 0, cells := 0, slots := 0, locals := 0 } : Room) s m #[(.int 2), (.int 2)] below meth c s₁ [] 0 0 := Stand.of_body Bd
  have e0 : s₁.heap = h0 := by rw [← hh, Bd.state]; rfl
  suffices hgo : OD p e s below (Q_rmMn2_2 Z h0) ({ frames := 0, cells := 0, slots := 0, locals := 0 } : Room).cells ({ frames := 0, cells := 0, slots := 0, locals := 0 } : Room).slots (s₁.setTop (mkF m 0 #[.val (.int 2), .val (.int 2)] [])) by
    obtain ⟨s₂, o, hgo1, hgo2⟩ := hgo
    exact ⟨s₂, o, castTop (ef1 m (2 : Int32) (2 : Int32)) hgo1, hgo2⟩
  refine OD.go (B := (s₁.setTop (mkF m 1 #[.val (.int 2), .val (.int 2)] [(.int 2)]))) (fun t k => XS.iloadN X0.here hx rfl (hb hby d4_0) rfl k) ?_
  refine OD.go (B := (s₁.setTop (mkF m 2 #[.val (.int 2), .val (.int 2)] [(.int 2), (.int 2)]))) (fun t k => XS.iloadN X0.here hx rfl (hb hby d4_1) rfl k) ?_
  refine OD.go (B := (s₁.setTop (mkF m 5 #[.val (.int 2), .val (.int 2)] []))) (fun t k => XS.icmpNo X0.here hx rfl (hb hby d4_2) rfl (flt (by decide : ¬ (2 : Int32) < (2 : Int32))).2.2.1 k) ?_
  refine OD.go (B := (s₁.setTop (mkF m 6 #[.val (.int 2), .val (.int 2)] [(.int 2)]))) (fun t k => XS.iloadN X0.here hx rfl (hb hby d4_5) rfl k) ?_
  refine OD.go (B := (s₁.setTop (mkF m 10 #[.val (.int 2), .val (.int 2)] [(.int 2)]))) (fun t k => XS.goto X0.here hx rfl (pc0 := 6) (pc' := 10) rfl (hb hby d4_6) (by decide) (by decide) k) ?_
  exact OD.ret X0 hx hlk (t := .int) Bd.returns rfl (Or.inl ⟨rfl, Or.inl rfl, _, rfl⟩) (hb hby d4_10) (Nat.le_of_ble_eq_true rfl) (Nat.le_of_ble_eq_true rfl) ⟨rfl, rfl, e0⟩
def Q_rmMn2_3 (Z : State) (h0 : Heap) (v : Option Value) (h : Heap) (L : List Loc) : Prop := v = some (.int 2) ∧ L = [] ∧ h = h0
set_option maxRecDepth 65536 in
set_option maxHeartbeats 40000000 in
theorem rmMn2_3 (l : Launch) (Z : State) (a0 : Array Value) (hw : ∀ d ∈ tables_1, d.before a0 Z = true) (ws : List Jvm.Cond)  (h0 : Heap)  :
    MetFree l (⟨"java/lang/Math", "min", "(II)I"⟩ : MethodName) (head1 (Jvm.Cond.code (⟨"java/lang/Math", "min", "(II)I"⟩ : MethodName) jdk_29_method_69_code 2 (some .int) :: ws) ({ frames := 0, cells := 0, slots := 0, locals := 0 } : Room)) (fun a U => a = #[(.int 2), (.int 3)] ∧ Z.Warmed39 U.vm ∧ U.heap = h0) (fun _ _ _ _ _ => True) (fun _ U o U' => ∃ v L, o = .returned v ∧ Q_rmMn2_3 Z h0 v U'.heap L ∧ FrameEnd U o U' L ({ frames := 0, cells := 0, slots := 0, locals := 0 } : Room).cells ({ frames := 0, cells := 0, slots := 0, locals := 0 } : Room).slots) := by
  refine MetFree.of_bodySF (by decide +kernel) hisR ?_
  intro p e s m args below meth c s₁ Bd hml0 hP hK
  obtain ⟨rfl, hZ, hh⟩ := hP
  have hx := Bd.exec
  have hby := Bd.bytes
  have hlk : meth.locks = false := Bd.notSynchronized
  have hml : c.maxLocals = 2 := hml0
  have hown : s.vm.findClass "java/lang/Math" = some m.cls := findClass_of_methodNamed Bd.named
  have hnm := (name_of_methodNamed Bd.named Bd.method).1
  have X0 : Stand p l e ({ frames := 0, cells := 0, slots := 0, locals := 0 } : Room) s m #[(.int 2), (.int 3)] below meth c s₁ [] 0 0 := Stand.of_body Bd
  have e0 : s₁.heap = h0 := by rw [← hh, Bd.state]; rfl
  suffices hgo : OD p e s below (Q_rmMn2_3 Z h0) ({ frames := 0, cells := 0, slots := 0, locals := 0 } : Room).cells ({ frames := 0, cells := 0, slots := 0, locals := 0 } : Room).slots (s₁.setTop (mkF m 0 #[.val (.int 2), .val (.int 3)] [])) by
    obtain ⟨s₂, o, hgo1, hgo2⟩ := hgo
    exact ⟨s₂, o, castTop (ef1 m (2 : Int32) (3 : Int32)) hgo1, hgo2⟩
  refine OD.go (B := (s₁.setTop (mkF m 1 #[.val (.int 2), .val (.int 3)] [(.int 2)]))) (fun t k => XS.iloadN X0.here hx rfl (hb hby d4_0) rfl k) ?_
  refine OD.go (B := (s₁.setTop (mkF m 2 #[.val (.int 2), .val (.int 3)] [(.int 3), (.int 2)]))) (fun t k => XS.iloadN X0.here hx rfl (hb hby d4_1) rfl k) ?_
  refine OD.go (B := (s₁.setTop (mkF m 5 #[.val (.int 2), .val (.int 3)] []))) (fun t k => XS.icmpNo X0.here hx rfl (hb hby d4_2) rfl (flt (by decide : ¬ (3 : Int32) < (2 : Int32))).2.2.1 k) ?_
  refine OD.go (B := (s₁.setTop (mkF m 6 #[.val (.int 2), .val (.int 3)] [(.int 2)]))) (fun t k => XS.iloadN X0.here hx rfl (hb hby d4_5) rfl k) ?_
  refine OD.go (B := (s₁.setTop (mkF m 10 #[.val (.int 2), .val (.int 3)] [(.int 2)]))) (fun t k => XS.goto X0.here hx rfl (pc0 := 6) (pc' := 10) rfl (hb hby d4_6) (by decide) (by decide) k) ?_
  exact OD.ret X0 hx hlk (t := .int) Bd.returns rfl (Or.inl ⟨rfl, Or.inl rfl, _, rfl⟩) (hb hby d4_10) (Nat.le_of_ble_eq_true rfl) (Nat.le_of_ble_eq_true rfl) ⟨rfl, rfl, e0⟩
def Q_rmMn2_4 (Z : State) (h0 : Heap) (v : Option Value) (h : Heap) (L : List Loc) : Prop := v = some (.int 2) ∧ L = [] ∧ h = h0
set_option maxRecDepth 65536 in
set_option maxHeartbeats 40000000 in
theorem rmMn2_4 (l : Launch) (Z : State) (a0 : Array Value) (hw : ∀ d ∈ tables_1, d.before a0 Z = true) (ws : List Jvm.Cond)  (h0 : Heap)  :
    MetFree l (⟨"java/lang/Math", "min", "(II)I"⟩ : MethodName) (head1 (Jvm.Cond.code (⟨"java/lang/Math", "min", "(II)I"⟩ : MethodName) jdk_29_method_69_code 2 (some .int) :: ws) ({ frames := 0, cells := 0, slots := 0, locals := 0 } : Room)) (fun a U => a = #[(.int 2), (.int 4)] ∧ Z.Warmed39 U.vm ∧ U.heap = h0) (fun _ _ _ _ _ => True) (fun _ U o U' => ∃ v L, o = .returned v ∧ Q_rmMn2_4 Z h0 v U'.heap L ∧ FrameEnd U o U' L ({ frames := 0, cells := 0, slots := 0, locals := 0 } : Room).cells ({ frames := 0, cells := 0, slots := 0, locals := 0 } : Room).slots) := by
  refine MetFree.of_bodySF (by decide +kernel) hisR ?_
  intro p e s m args below meth c s₁ Bd hml0 hP hK
  obtain ⟨rfl, hZ, hh⟩ := hP
  have hx := Bd.exec
  have hby := Bd.bytes
  have hlk : meth.locks = false := Bd.notSynchronized
  have hml : c.maxLocals = 2 := hml0
  have hown : s.vm.findClass "java/lang/Math" = some m.cls := findClass_of_methodNamed Bd.named
  have hnm := (name_of_methodNamed Bd.named Bd.method).1
  have X0 : Stand p l e ({ frames := 0, cells := 0, slots := 0, locals := 0 } : Room) s m #[(.int 2), (.int 4)] below meth c s₁ [] 0 0 := Stand.of_body Bd
  have e0 : s₁.heap = h0 := by rw [← hh, Bd.state]; rfl
  suffices hgo : OD p e s below (Q_rmMn2_4 Z h0) ({ frames := 0, cells := 0, slots := 0, locals := 0 } : Room).cells ({ frames := 0, cells := 0, slots := 0, locals := 0 } : Room).slots (s₁.setTop (mkF m 0 #[.val (.int 2), .val (.int 4)] [])) by
    obtain ⟨s₂, o, hgo1, hgo2⟩ := hgo
    exact ⟨s₂, o, castTop (ef1 m (2 : Int32) (4 : Int32)) hgo1, hgo2⟩
  refine OD.go (B := (s₁.setTop (mkF m 1 #[.val (.int 2), .val (.int 4)] [(.int 2)]))) (fun t k => XS.iloadN X0.here hx rfl (hb hby d4_0) rfl k) ?_
  refine OD.go (B := (s₁.setTop (mkF m 2 #[.val (.int 2), .val (.int 4)] [(.int 4), (.int 2)]))) (fun t k => XS.iloadN X0.here hx rfl (hb hby d4_1) rfl k) ?_
  refine OD.go (B := (s₁.setTop (mkF m 5 #[.val (.int 2), .val (.int 4)] []))) (fun t k => XS.icmpNo X0.here hx rfl (hb hby d4_2) rfl (flt (by decide : ¬ (4 : Int32) < (2 : Int32))).2.2.1 k) ?_
  refine OD.go (B := (s₁.setTop (mkF m 6 #[.val (.int 2), .val (.int 4)] [(.int 2)]))) (fun t k => XS.iloadN X0.here hx rfl (hb hby d4_5) rfl k) ?_
  refine OD.go (B := (s₁.setTop (mkF m 10 #[.val (.int 2), .val (.int 4)] [(.int 2)]))) (fun t k => XS.goto X0.here hx rfl (pc0 := 6) (pc' := 10) rfl (hb hby d4_6) (by decide) (by decide) k) ?_
  exact OD.ret X0 hx hlk (t := .int) Bd.returns rfl (Or.inl ⟨rfl, Or.inl rfl, _, rfl⟩) (hb hby d4_10) (Nat.le_of_ble_eq_true rfl) (Nat.le_of_ble_eq_true rfl) ⟨rfl, rfl, e0⟩
def Q_rmMn2_5 (Z : State) (h0 : Heap) (v : Option Value) (h : Heap) (L : List Loc) : Prop := v = some (.int 2) ∧ L = [] ∧ h = h0
set_option maxRecDepth 65536 in
set_option maxHeartbeats 40000000 in
theorem rmMn2_5 (l : Launch) (Z : State) (a0 : Array Value) (hw : ∀ d ∈ tables_1, d.before a0 Z = true) (ws : List Jvm.Cond)  (h0 : Heap)  :
    MetFree l (⟨"java/lang/Math", "min", "(II)I"⟩ : MethodName) (head1 (Jvm.Cond.code (⟨"java/lang/Math", "min", "(II)I"⟩ : MethodName) jdk_29_method_69_code 2 (some .int) :: ws) ({ frames := 0, cells := 0, slots := 0, locals := 0 } : Room)) (fun a U => a = #[(.int 2), (.int 5)] ∧ Z.Warmed39 U.vm ∧ U.heap = h0) (fun _ _ _ _ _ => True) (fun _ U o U' => ∃ v L, o = .returned v ∧ Q_rmMn2_5 Z h0 v U'.heap L ∧ FrameEnd U o U' L ({ frames := 0, cells := 0, slots := 0, locals := 0 } : Room).cells ({ frames := 0, cells := 0, slots := 0, locals := 0 } : Room).slots) := by
  refine MetFree.of_bodySF (by decide +kernel) hisR ?_
  intro p e s m args below meth c s₁ Bd hml0 hP hK
  obtain ⟨rfl, hZ, hh⟩ := hP
  have hx := Bd.exec
  have hby := Bd.bytes
  have hlk : meth.locks = false := Bd.notSynchronized
  have hml : c.maxLocals = 2 := hml0
  have hown : s.vm.findClass "java/lang/Math" = some m.cls := findClass_of_methodNamed Bd.named
  have hnm := (name_of_methodNamed Bd.named Bd.method).1
  have X0 : Stand p l e ({ frames := 0, cells := 0, slots := 0, locals := 0 } : Room) s m #[(.int 2), (.int 5)] below meth c s₁ [] 0 0 := Stand.of_body Bd
  have e0 : s₁.heap = h0 := by rw [← hh, Bd.state]; rfl
  suffices hgo : OD p e s below (Q_rmMn2_5 Z h0) ({ frames := 0, cells := 0, slots := 0, locals := 0 } : Room).cells ({ frames := 0, cells := 0, slots := 0, locals := 0 } : Room).slots (s₁.setTop (mkF m 0 #[.val (.int 2), .val (.int 5)] [])) by
    obtain ⟨s₂, o, hgo1, hgo2⟩ := hgo
    exact ⟨s₂, o, castTop (ef1 m (2 : Int32) (5 : Int32)) hgo1, hgo2⟩
  refine OD.go (B := (s₁.setTop (mkF m 1 #[.val (.int 2), .val (.int 5)] [(.int 2)]))) (fun t k => XS.iloadN X0.here hx rfl (hb hby d4_0) rfl k) ?_
  refine OD.go (B := (s₁.setTop (mkF m 2 #[.val (.int 2), .val (.int 5)] [(.int 5), (.int 2)]))) (fun t k => XS.iloadN X0.here hx rfl (hb hby d4_1) rfl k) ?_
  refine OD.go (B := (s₁.setTop (mkF m 5 #[.val (.int 2), .val (.int 5)] []))) (fun t k => XS.icmpNo X0.here hx rfl (hb hby d4_2) rfl (flt (by decide : ¬ (5 : Int32) < (2 : Int32))).2.2.1 k) ?_
  refine OD.go (B := (s₁.setTop (mkF m 6 #[.val (.int 2), .val (.int 5)] [(.int 2)]))) (fun t k => XS.iloadN X0.here hx rfl (hb hby d4_5) rfl k) ?_
  refine OD.go (B := (s₁.setTop (mkF m 10 #[.val (.int 2), .val (.int 5)] [(.int 2)]))) (fun t k => XS.goto X0.here hx rfl (pc0 := 6) (pc' := 10) rfl (hb hby d4_6) (by decide) (by decide) k) ?_
  exact OD.ret X0 hx hlk (t := .int) Bd.returns rfl (Or.inl ⟨rfl, Or.inl rfl, _, rfl⟩) (hb hby d4_10) (Nat.le_of_ble_eq_true rfl) (Nat.le_of_ble_eq_true rfl) ⟨rfl, rfl, e0⟩
def Q_rmMn3_3 (Z : State) (h0 : Heap) (v : Option Value) (h : Heap) (L : List Loc) : Prop := v = some (.int 3) ∧ L = [] ∧ h = h0
set_option maxRecDepth 65536 in
set_option maxHeartbeats 40000000 in
theorem rmMn3_3 (l : Launch) (Z : State) (a0 : Array Value) (hw : ∀ d ∈ tables_1, d.before a0 Z = true) (ws : List Jvm.Cond)  (h0 : Heap)  :
    MetFree l (⟨"java/lang/Math", "min", "(II)I"⟩ : MethodName) (head1 (Jvm.Cond.code (⟨"java/lang/Math", "min", "(II)I"⟩ : MethodName) jdk_29_method_69_code 2 (some .int) :: ws) ({ frames := 0, cells := 0, slots := 0, locals := 0 } : Room)) (fun a U => a = #[(.int 3), (.int 3)] ∧ Z.Warmed39 U.vm ∧ U.heap = h0) (fun _ _ _ _ _ => True) (fun _ U o U' => ∃ v L, o = .returned v ∧ Q_rmMn3_3 Z h0 v U'.heap L ∧ FrameEnd U o U' L ({ frames := 0, cells := 0, slots := 0, locals := 0 } : Room).cells ({ frames := 0, cells := 0, slots := 0, locals := 0 } : Room).slots) := by
  refine MetFree.of_bodySF (by decide +kernel) hisR ?_
  intro p e s m args below meth c s₁ Bd hml0 hP hK
  obtain ⟨rfl, hZ, hh⟩ := hP
  have hx := Bd.exec
  have hby := Bd.bytes
  have hlk : meth.locks = false := Bd.notSynchronized
  have hml : c.maxLocals = 2 := hml0
  have hown : s.vm.findClass "java/lang/Math" = some m.cls := findClass_of_methodNamed Bd.named
  have hnm := (name_of_methodNamed Bd.named Bd.method).1
  have X0 : Stand p l e ({ frames := 0, cells := 0, slots := 0, locals := 0 } : Room) s m #[(.int 3), (.int 3)] below meth c s₁ [] 0 0 := Stand.of_body Bd
  have e0 : s₁.heap = h0 := by rw [← hh, Bd.state]; rfl
  suffices hgo : OD p e s below (Q_rmMn3_3 Z h0) ({ frames := 0, cells := 0, slots := 0, locals := 0 } : Room).cells ({ frames := 0, cells := 0, slots := 0, locals := 0 } : Room).slots (s₁.setTop (mkF m 0 #[.val (.int 3), .val (.int 3)] [])) by
    obtain ⟨s₂, o, hgo1, hgo2⟩ := hgo
    exact ⟨s₂, o, castTop (ef1 m (3 : Int32) (3 : Int32)) hgo1, hgo2⟩
  refine OD.go (B := (s₁.setTop (mkF m 1 #[.val (.int 3), .val (.int 3)] [(.int 3)]))) (fun t k => XS.iloadN X0.here hx rfl (hb hby d4_0) rfl k) ?_
  refine OD.go (B := (s₁.setTop (mkF m 2 #[.val (.int 3), .val (.int 3)] [(.int 3), (.int 3)]))) (fun t k => XS.iloadN X0.here hx rfl (hb hby d4_1) rfl k) ?_
  refine OD.go (B := (s₁.setTop (mkF m 5 #[.val (.int 3), .val (.int 3)] []))) (fun t k => XS.icmpNo X0.here hx rfl (hb hby d4_2) rfl (flt (by decide : ¬ (3 : Int32) < (3 : Int32))).2.2.1 k) ?_
  refine OD.go (B := (s₁.setTop (mkF m 6 #[.val (.int 3), .val (.int 3)] [(.int 3)]))) (fun t k => XS.iloadN X0.here hx rfl (hb hby d4_5) rfl k) ?_
  refine OD.go (B := (s₁.setTop (mkF m 10 #[.val (.int 3), .val (.int 3)] [(.int 3)]))) (fun t k => XS.goto X0.here hx rfl (pc0 := 6) (pc' := 10) rfl (hb hby d4_6) (by decide) (by decide) k) ?_
  exact OD.ret X0 hx hlk (t := .int) Bd.returns rfl (Or.inl ⟨rfl, Or.inl rfl, _, rfl⟩) (hb hby d4_10) (Nat.le_of_ble_eq_true rfl) (Nat.le_of_ble_eq_true rfl) ⟨rfl, rfl, e0⟩
def Q_rmMn3_4 (Z : State) (h0 : Heap) (v : Option Value) (h : Heap) (L : List Loc) : Prop := v = some (.int 3) ∧ L = [] ∧ h = h0
set_option maxRecDepth 65536 in
set_option maxHeartbeats 40000000 in
theorem rmMn3_4 (l : Launch) (Z : State) (a0 : Array Value) (hw : ∀ d ∈ tables_1, d.before a0 Z = true) (ws : List Jvm.Cond)  (h0 : Heap)  :
    MetFree l (⟨"java/lang/Math", "min", "(II)I"⟩ : MethodName) (head1 (Jvm.Cond.code (⟨"java/lang/Math", "min", "(II)I"⟩ : MethodName) jdk_29_method_69_code 2 (some .int) :: ws) ({ frames := 0, cells := 0, slots := 0, locals := 0 } : Room)) (fun a U => a = #[(.int 3), (.int 4)] ∧ Z.Warmed39 U.vm ∧ U.heap = h0) (fun _ _ _ _ _ => True) (fun _ U o U' => ∃ v L, o = .returned v ∧ Q_rmMn3_4 Z h0 v U'.heap L ∧ FrameEnd U o U' L ({ frames := 0, cells := 0, slots := 0, locals := 0 } : Room).cells ({ frames := 0, cells := 0, slots := 0, locals := 0 } : Room).slots) := by
  refine MetFree.of_bodySF (by decide +kernel) hisR ?_
  intro p e s m args below meth c s₁ Bd hml0 hP hK
  obtain ⟨rfl, hZ, hh⟩ := hP
  have hx := Bd.exec
  have hby := Bd.bytes
  have hlk : meth.locks = false := Bd.notSynchronized
  have hml : c.maxLocals = 2 := hml0
  have hown : s.vm.findClass "java/lang/Math" = some m.cls := findClass_of_methodNamed Bd.named
  have hnm := (name_of_methodNamed Bd.named Bd.method).1
  have X0 : Stand p l e ({ frames := 0, cells := 0, slots := 0, locals := 0 } : Room) s m #[(.int 3), (.int 4)] below meth c s₁ [] 0 0 := Stand.of_body Bd
  have e0 : s₁.heap = h0 := by rw [← hh, Bd.state]; rfl
  suffices hgo : OD p e s below (Q_rmMn3_4 Z h0) ({ frames := 0, cells := 0, slots := 0, locals := 0 } : Room).cells ({ frames := 0, cells := 0, slots := 0, locals := 0 } : Room).slots (s₁.setTop (mkF m 0 #[.val (.int 3), .val (.int 4)] [])) by
    obtain ⟨s₂, o, hgo1, hgo2⟩ := hgo
    exact ⟨s₂, o, castTop (ef1 m (3 : Int32) (4 : Int32)) hgo1, hgo2⟩
  refine OD.go (B := (s₁.setTop (mkF m 1 #[.val (.int 3), .val (.int 4)] [(.int 3)]))) (fun t k => XS.iloadN X0.here hx rfl (hb hby d4_0) rfl k) ?_
  refine OD.go (B := (s₁.setTop (mkF m 2 #[.val (.int 3), .val (.int 4)] [(.int 4), (.int 3)]))) (fun t k => XS.iloadN X0.here hx rfl (hb hby d4_1) rfl k) ?_
  refine OD.go (B := (s₁.setTop (mkF m 5 #[.val (.int 3), .val (.int 4)] []))) (fun t k => XS.icmpNo X0.here hx rfl (hb hby d4_2) rfl (flt (by decide : ¬ (4 : Int32) < (3 : Int32))).2.2.1 k) ?_
  refine OD.go (B := (s₁.setTop (mkF m 6 #[.val (.int 3), .val (.int 4)] [(.int 3)]))) (fun t k => XS.iloadN X0.here hx rfl (hb hby d4_5) rfl k) ?_
  refine OD.go (B := (s₁.setTop (mkF m 10 #[.val (.int 3), .val (.int 4)] [(.int 3)]))) (fun t k => XS.goto X0.here hx rfl (pc0 := 6) (pc' := 10) rfl (hb hby d4_6) (by decide) (by decide) k) ?_
  exact OD.ret X0 hx hlk (t := .int) Bd.returns rfl (Or.inl ⟨rfl, Or.inl rfl, _, rfl⟩) (hb hby d4_10) (Nat.le_of_ble_eq_true rfl) (Nat.le_of_ble_eq_true rfl) ⟨rfl, rfl, e0⟩
def Q_rmMn3_5 (Z : State) (h0 : Heap) (v : Option Value) (h : Heap) (L : List Loc) : Prop := v = some (.int 3) ∧ L = [] ∧ h = h0
set_option maxRecDepth 65536 in
set_option maxHeartbeats 40000000 in
theorem rmMn3_5 (l : Launch) (Z : State) (a0 : Array Value) (hw : ∀ d ∈ tables_1, d.before a0 Z = true) (ws : List Jvm.Cond)  (h0 : Heap)  :
    MetFree l (⟨"java/lang/Math", "min", "(II)I"⟩ : MethodName) (head1 (Jvm.Cond.code (⟨"java/lang/Math", "min", "(II)I"⟩ : MethodName) jdk_29_method_69_code 2 (some .int) :: ws) ({ frames := 0, cells := 0, slots := 0, locals := 0 } : Room)) (fun a U => a = #[(.int 3), (.int 5)] ∧ Z.Warmed39 U.vm ∧ U.heap = h0) (fun _ _ _ _ _ => True) (fun _ U o U' => ∃ v L, o = .returned v ∧ Q_rmMn3_5 Z h0 v U'.heap L ∧ FrameEnd U o U' L ({ frames := 0, cells := 0, slots := 0, locals := 0 } : Room).cells ({ frames := 0, cells := 0, slots := 0, locals := 0 } : Room).slots) := by
  refine MetFree.of_bodySF (by decide +kernel) hisR ?_
  intro p e s m args below meth c s₁ Bd hml0 hP hK
  obtain ⟨rfl, hZ, hh⟩ := hP
  have hx := Bd.exec
  have hby := Bd.bytes
  have hlk : meth.locks = false := Bd.notSynchronized
  have hml : c.maxLocals = 2 := hml0
  have hown : s.vm.findClass "java/lang/Math" = some m.cls := findClass_of_methodNamed Bd.named
  have hnm := (name_of_methodNamed Bd.named Bd.method).1
  have X0 : Stand p l e ({ frames := 0, cells := 0, slots := 0, locals := 0 } : Room) s m #[(.int 3), (.int 5)] below meth c s₁ [] 0 0 := Stand.of_body Bd
  have e0 : s₁.heap = h0 := by rw [← hh, Bd.state]; rfl
  suffices hgo : OD p e s below (Q_rmMn3_5 Z h0) ({ frames := 0, cells := 0, slots := 0, locals := 0 } : Room).cells ({ frames := 0, cells := 0, slots := 0, locals := 0 } : Room).slots (s₁.setTop (mkF m 0 #[.val (.int 3), .val (.int 5)] [])) by
    obtain ⟨s₂, o, hgo1, hgo2⟩ := hgo
    exact ⟨s₂, o, castTop (ef1 m (3 : Int32) (5 : Int32)) hgo1, hgo2⟩
  refine OD.go (B := (s₁.setTop (mkF m 1 #[.val (.int 3), .val (.int 5)] [(.int 3)]))) (fun t k => XS.iloadN X0.here hx rfl (hb hby d4_0) rfl k) ?_
  refine OD.go (B := (s₁.setTop (mkF m 2 #[.val (.int 3), .val (.int 5)] [(.int 5), (.int 3)]))) (fun t k => XS.iloadN X0.here hx rfl (hb hby d4_1) rfl k) ?_
  refine OD.go (B := (s₁.setTop (mkF m 5 #[.val (.int 3), .val (.int 5)] []))) (fun t k => XS.icmpNo X0.here hx rfl (hb hby d4_2) rfl (flt (by decide : ¬ (5 : Int32) < (3 : Int32))).2.2.1 k) ?_
  refine OD.go (B := (s₁.setTop (mkF m 6 #[.val (.int 3), .val (.int 5)] [(.int 3)]))) (fun t k => XS.iloadN X0.here hx rfl (hb hby d4_5) rfl k) ?_
  refine OD.go (B := (s₁.setTop (mkF m 10 #[.val (.int 3), .val (.int 5)] [(.int 3)]))) (fun t k => XS.goto X0.here hx rfl (pc0 := 6) (pc' := 10) rfl (hb hby d4_6) (by decide) (by decide) k) ?_
  exact OD.ret X0 hx hlk (t := .int) Bd.returns rfl (Or.inl ⟨rfl, Or.inl rfl, _, rfl⟩) (hb hby d4_10) (Nat.le_of_ble_eq_true rfl) (Nat.le_of_ble_eq_true rfl) ⟨rfl, rfl, e0⟩
def Q_rmMn4_3 (Z : State) (h0 : Heap) (v : Option Value) (h : Heap) (L : List Loc) : Prop := v = some (.int 3) ∧ L = [] ∧ h = h0
set_option maxRecDepth 65536 in
set_option maxHeartbeats 40000000 in
theorem rmMn4_3 (l : Launch) (Z : State) (a0 : Array Value) (hw : ∀ d ∈ tables_1, d.before a0 Z = true) (ws : List Jvm.Cond)  (h0 : Heap)  :
    MetFree l (⟨"java/lang/Math", "min", "(II)I"⟩ : MethodName) (head1 (Jvm.Cond.code (⟨"java/lang/Math", "min", "(II)I"⟩ : MethodName) jdk_29_method_69_code 2 (some .int) :: ws) ({ frames := 0, cells := 0, slots := 0, locals := 0 } : Room)) (fun a U => a = #[(.int 4), (.int 3)] ∧ Z.Warmed39 U.vm ∧ U.heap = h0) (fun _ _ _ _ _ => True) (fun _ U o U' => ∃ v L, o = .returned v ∧ Q_rmMn4_3 Z h0 v U'.heap L ∧ FrameEnd U o U' L ({ frames := 0, cells := 0, slots := 0, locals := 0 } : Room).cells ({ frames := 0, cells := 0, slots := 0, locals := 0 } : Room).slots) := by
  refine MetFree.of_bodySF (by decide +kernel) hisR ?_
  intro p e s m args below meth c s₁ Bd hml0 hP hK
  obtain ⟨rfl, hZ, hh⟩ := hP
  have hx := Bd.exec
  have hby := Bd.bytes
  have hlk : meth.locks = false := Bd.notSynchronized
  have hml : c.maxLocals = 2 := hml0
  have hown : s.vm.findClass "java/lang/Math" = some m.cls := findClass_of_methodNamed Bd.named
  have hnm := (name_of_methodNamed Bd.named Bd.method).1
  have X0 : Stand p l e ({ frames := 0, cells := 0, slots := 0, locals := 0 } : Room) s m #[(.int 4), (.int 3)] below meth c s₁ [] 0 0 := Stand.of_body Bd
  have e0 : s₁.heap = h0 := by rw [← hh, Bd.state]; rfl
  suffices hgo : OD p e s below (Q_rmMn4_3 Z h0) ({ frames := 0, cells := 0, slots := 0, locals := 0 } : Room).cells ({ frames := 0, cells := 0, slots := 0, locals := 0 } : Room).slots (s₁.setTop (mkF m 0 #[.val (.int 4), .val (.int 3)] [])) by
    obtain ⟨s₂, o, hgo1, hgo2⟩ := hgo
    exact ⟨s₂, o, castTop (ef1 m (4 : Int32) (3 : Int32)) hgo1, hgo2⟩
  refine OD.go (B := (s₁.setTop (mkF m 1 #[.val (.int 4), .val (.int 3)] [(.int 4)]))) (fun t k => XS.iloadN X0.here hx rfl (hb hby d4_0) rfl k) ?_
  refine OD.go (B := (s₁.setTop (mkF m 2 #[.val (.int 4), .val (.int 3)] [(.int 3), (.int 4)]))) (fun t k => XS.iloadN X0.here hx rfl (hb hby d4_1) rfl k) ?_
  refine OD.go (B := (s₁.setTop (mkF m 9 #[.val (.int 4), .val (.int 3)] []))) (fun t k => XS.icmpYes X0.here hx rfl (pc0 := 2) (pc' := 9) rfl (hb hby d4_2) rfl (tlt (by decide : (3 : Int32) < (4 : Int32))).2.2.1 (by decide) (by decide) k) ?_
  refine OD.go (B := (s₁.setTop (mkF m 10 #[.val (.int 4), .val (.int 3)] [(.int 3)]))) (fun t k => XS.iloadN X0.here hx rfl (hb hby d4_9) rfl k) ?_
  exact OD.ret X0 hx hlk (t := .int) Bd.returns rfl (Or.inl ⟨rfl, Or.inl rfl, _, rfl⟩) (hb hby d4_10) (Nat.le_of_ble_eq_true rfl) (Nat.le_of_ble_eq_true rfl) ⟨rfl, rfl, e0⟩
def Q_rmMn4_4 (Z : State) (h0 : Heap) (v : Option Value) (h : Heap) (L : List Loc) : Prop := v = some (.int 4) ∧ L = [] ∧ h = h0
set_option maxRecDepth 65536 in
set_option maxHeartbeats 40000000 in
theorem rmMn4_4 (l : Launch) (Z : State) (a0 : Array Value) (hw : ∀ d ∈ tables_1, d.before a0 Z = true) (ws : List Jvm.Cond)  (h0 : Heap)  :
    MetFree l (⟨"java/lang/Math", "min", "(II)I"⟩ : MethodName) (head1 (Jvm.Cond.code (⟨"java/lang/Math", "min", "(II)I"⟩ : MethodName) jdk_29_method_69_code 2 (some .int) :: ws) ({ frames := 0, cells := 0, slots := 0, locals := 0 } : Room)) (fun a U => a = #[(.int 4), (.int 4)] ∧ Z.Warmed39 U.vm ∧ U.heap = h0) (fun _ _ _ _ _ => True) (fun _ U o U' => ∃ v L, o = .returned v ∧ Q_rmMn4_4 Z h0 v U'.heap L ∧ FrameEnd U o U' L ({ frames := 0, cells := 0, slots := 0, locals := 0 } : Room).cells ({ frames := 0, cells := 0, slots := 0, locals := 0 } : Room).slots) := by
  refine MetFree.of_bodySF (by decide +kernel) hisR ?_
  intro p e s m args below meth c s₁ Bd hml0 hP hK
  obtain ⟨rfl, hZ, hh⟩ := hP
  have hx := Bd.exec
  have hby := Bd.bytes
  have hlk : meth.locks = false := Bd.notSynchronized
  have hml : c.maxLocals = 2 := hml0
  have hown : s.vm.findClass "java/lang/Math" = some m.cls := findClass_of_methodNamed Bd.named
  have hnm := (name_of_methodNamed Bd.named Bd.method).1
  have X0 : Stand p l e ({ frames := 0, cells := 0, slots := 0, locals := 0 } : Room) s m #[(.int 4), (.int 4)] below meth c s₁ [] 0 0 := Stand.of_body Bd
  have e0 : s₁.heap = h0 := by rw [← hh, Bd.state]; rfl
  suffices hgo : OD p e s below (Q_rmMn4_4 Z h0) ({ frames := 0, cells := 0, slots := 0, locals := 0 } : Room).cells ({ frames := 0, cells := 0, slots := 0, locals := 0 } : Room).slots (s₁.setTop (mkF m 0 #[.val (.int 4), .val (.int 4)] [])) by
    obtain ⟨s₂, o, hgo1, hgo2⟩ := hgo
    exact ⟨s₂, o, castTop (ef1 m (4 : Int32) (4 : Int32)) hgo1, hgo2⟩
  refine OD.go (B := (s₁.setTop (mkF m 1 #[.val (.int 4), .val (.int 4)] [(.int 4)]))) (fun t k => XS.iloadN X0.here hx rfl (hb hby d4_0) rfl k) ?_
  refine OD.go (B := (s₁.setTop (mkF m 2 #[.val (.int 4), .val (.int 4)] [(.int 4), (.int 4)]))) (fun t k => XS.iloadN X0.here hx rfl (hb hby d4_1) rfl k) ?_
  refine OD.go (B := (s₁.setTop (mkF m 5 #[.val (.int 4), .val (.int 4)] []))) (fun t k => XS.icmpNo X0.here hx rfl (hb hby d4_2) rfl (flt (by decide : ¬ (4 : Int32) < (4 : Int32))).2.2.1 k) ?_
  refine OD.go (B := (s₁.setTop (mkF m 6 #[.val (.int 4), .val (.int 4)] [(.int 4)]))) (fun t k => XS.iloadN X0.here hx rfl (hb hby d4_5) rfl k) ?_
  refine OD.go (B := (s₁.setTop (mkF m 10 #[.val (.int 4), .val (.int 4)] [(.int 4)]))) (fun t k => XS.goto X0.here hx rfl (pc0 := 6) (pc' := 10) rfl (hb hby d4_6) (by decide) (by decide) k) ?_
  exact OD.ret X0 hx hlk (t := .int) Bd.returns rfl (Or.inl ⟨rfl, Or.inl rfl, _, rfl⟩) (hb hby d4_10) (Nat.le_of_ble_eq_true rfl) (Nat.le_of_ble_eq_true rfl) ⟨rfl, rfl, e0⟩
def Q_rmMn4_5 (Z : State) (h0 : Heap) (v : Option Value) (h : Heap) (L : List Loc) : Prop := v = some (.int 4) ∧ L = [] ∧ h = h0
set_option maxRecDepth 65536 in
set_option maxHeartbeats 40000000 in
theorem rmMn4_5 (l : Launch) (Z : State) (a0 : Array Value) (hw : ∀ d ∈ tables_1, d.before a0 Z = true) (ws : List Jvm.Cond)  (h0 : Heap)  :
    MetFree l (⟨"java/lang/Math", "min", "(II)I"⟩ : MethodName) (head1 (Jvm.Cond.code (⟨"java/lang/Math", "min", "(II)I"⟩ : MethodName) jdk_29_method_69_code 2 (some .int) :: ws) ({ frames := 0, cells := 0, slots := 0, locals := 0 } : Room)) (fun a U => a = #[(.int 4), (.int 5)] ∧ Z.Warmed39 U.vm ∧ U.heap = h0) (fun _ _ _ _ _ => True) (fun _ U o U' => ∃ v L, o = .returned v ∧ Q_rmMn4_5 Z h0 v U'.heap L ∧ FrameEnd U o U' L ({ frames := 0, cells := 0, slots := 0, locals := 0 } : Room).cells ({ frames := 0, cells := 0, slots := 0, locals := 0 } : Room).slots) := by
  refine MetFree.of_bodySF (by decide +kernel) hisR ?_
  intro p e s m args below meth c s₁ Bd hml0 hP hK
  obtain ⟨rfl, hZ, hh⟩ := hP
  have hx := Bd.exec
  have hby := Bd.bytes
  have hlk : meth.locks = false := Bd.notSynchronized
  have hml : c.maxLocals = 2 := hml0
  have hown : s.vm.findClass "java/lang/Math" = some m.cls := findClass_of_methodNamed Bd.named
  have hnm := (name_of_methodNamed Bd.named Bd.method).1
  have X0 : Stand p l e ({ frames := 0, cells := 0, slots := 0, locals := 0 } : Room) s m #[(.int 4), (.int 5)] below meth c s₁ [] 0 0 := Stand.of_body Bd
  have e0 : s₁.heap = h0 := by rw [← hh, Bd.state]; rfl
  suffices hgo : OD p e s below (Q_rmMn4_5 Z h0) ({ frames := 0, cells := 0, slots := 0, locals := 0 } : Room).cells ({ frames := 0, cells := 0, slots := 0, locals := 0 } : Room).slots (s₁.setTop (mkF m 0 #[.val (.int 4), .val (.int 5)] [])) by
    obtain ⟨s₂, o, hgo1, hgo2⟩ := hgo
    exact ⟨s₂, o, castTop (ef1 m (4 : Int32) (5 : Int32)) hgo1, hgo2⟩
  refine OD.go (B := (s₁.setTop (mkF m 1 #[.val (.int 4), .val (.int 5)] [(.int 4)]))) (fun t k => XS.iloadN X0.here hx rfl (hb hby d4_0) rfl k) ?_
  refine OD.go (B := (s₁.setTop (mkF m 2 #[.val (.int 4), .val (.int 5)] [(.int 5), (.int 4)]))) (fun t k => XS.iloadN X0.here hx rfl (hb hby d4_1) rfl k) ?_
  refine OD.go (B := (s₁.setTop (mkF m 5 #[.val (.int 4), .val (.int 5)] []))) (fun t k => XS.icmpNo X0.here hx rfl (hb hby d4_2) rfl (flt (by decide : ¬ (5 : Int32) < (4 : Int32))).2.2.1 k) ?_
  refine OD.go (B := (s₁.setTop (mkF m 6 #[.val (.int 4), .val (.int 5)] [(.int 4)]))) (fun t k => XS.iloadN X0.here hx rfl (hb hby d4_5) rfl k) ?_
  refine OD.go (B := (s₁.setTop (mkF m 10 #[.val (.int 4), .val (.int 5)] [(.int 4)]))) (fun t k => XS.goto X0.here hx rfl (pc0 := 6) (pc' := 10) rfl (hb hby d4_6) (by decide) (by decide) k) ?_
  exact OD.ret X0 hx hlk (t := .int) Bd.returns rfl (Or.inl ⟨rfl, Or.inl rfl, _, rfl⟩) (hb hby d4_10) (Nat.le_of_ble_eq_true rfl) (Nat.le_of_ble_eq_true rfl) ⟨rfl, rfl, e0⟩
def Q_rmMn5_5 (Z : State) (h0 : Heap) (v : Option Value) (h : Heap) (L : List Loc) : Prop := v = some (.int 5) ∧ L = [] ∧ h = h0
set_option maxRecDepth 65536 in
set_option maxHeartbeats 40000000 in
theorem rmMn5_5 (l : Launch) (Z : State) (a0 : Array Value) (hw : ∀ d ∈ tables_1, d.before a0 Z = true) (ws : List Jvm.Cond)  (h0 : Heap)  :
    MetFree l (⟨"java/lang/Math", "min", "(II)I"⟩ : MethodName) (head1 (Jvm.Cond.code (⟨"java/lang/Math", "min", "(II)I"⟩ : MethodName) jdk_29_method_69_code 2 (some .int) :: ws) ({ frames := 0, cells := 0, slots := 0, locals := 0 } : Room)) (fun a U => a = #[(.int 5), (.int 5)] ∧ Z.Warmed39 U.vm ∧ U.heap = h0) (fun _ _ _ _ _ => True) (fun _ U o U' => ∃ v L, o = .returned v ∧ Q_rmMn5_5 Z h0 v U'.heap L ∧ FrameEnd U o U' L ({ frames := 0, cells := 0, slots := 0, locals := 0 } : Room).cells ({ frames := 0, cells := 0, slots := 0, locals := 0 } : Room).slots) := by
  refine MetFree.of_bodySF (by decide +kernel) hisR ?_
  intro p e s m args below meth c s₁ Bd hml0 hP hK
  obtain ⟨rfl, hZ, hh⟩ := hP
  have hx := Bd.exec
  have hby := Bd.bytes
  have hlk : meth.locks = false := Bd.notSynchronized
  have hml : c.maxLocals = 2 := hml0
  have hown : s.vm.findClass "java/lang/Math" = some m.cls := findClass_of_methodNamed Bd.named
  have hnm := (name_of_methodNamed Bd.named Bd.method).1
  have X0 : Stand p l e ({ frames := 0, cells := 0, slots := 0, locals := 0 } : Room) s m #[(.int 5), (.int 5)] below meth c s₁ [] 0 0 := Stand.of_body Bd
  have e0 : s₁.heap = h0 := by rw [← hh, Bd.state]; rfl
  suffices hgo : OD p e s below (Q_rmMn5_5 Z h0) ({ frames := 0, cells := 0, slots := 0, locals := 0 } : Room).cells ({ frames := 0, cells := 0, slots := 0, locals := 0 } : Room).slots (s₁.setTop (mkF m 0 #[.val (.int 5), .val (.int 5)] [])) by
    obtain ⟨s₂, o, hgo1, hgo2⟩ := hgo
    exact ⟨s₂, o, castTop (ef1 m (5 : Int32) (5 : Int32)) hgo1, hgo2⟩
  refine OD.go (B := (s₁.setTop (mkF m 1 #[.val (.int 5), .val (.int 5)] [(.int 5)]))) (fun t k => XS.iloadN X0.here hx rfl (hb hby d4_0) rfl k) ?_
  refine OD.go (B := (s₁.setTop (mkF m 2 #[.val (.int 5), .val (.int 5)] [(.int 5), (.int 5)]))) (fun t k => XS.iloadN X0.here hx rfl (hb hby d4_1) rfl k) ?_
  refine OD.go (B := (s₁.setTop (mkF m 5 #[.val (.int 5), .val (.int 5)] []))) (fun t k => XS.icmpNo X0.here hx rfl (hb hby d4_2) rfl (flt (by decide : ¬ (5 : Int32) < (5 : Int32))).2.2.1 k) ?_
  refine OD.go (B := (s₁.setTop (mkF m 6 #[.val (.int 5), .val (.int 5)] [(.int 5)]))) (fun t k => XS.iloadN X0.here hx rfl (hb hby d4_5) rfl k) ?_
  refine OD.go (B := (s₁.setTop (mkF m 10 #[.val (.int 5), .val (.int 5)] [(.int 5)]))) (fun t k => XS.goto X0.here hx rfl (pc0 := 6) (pc' := 10) rfl (hb hby d4_6) (by decide) (by decide) k) ?_
  exact OD.ret X0 hx hlk (t := .int) Bd.returns rfl (Or.inl ⟨rfl, Or.inl rfl, _, rfl⟩) (hb hby d4_10) (Nat.le_of_ble_eq_true rfl) (Nat.le_of_ble_eq_true rfl) ⟨rfl, rfl, e0⟩
def Q_rmMn6_5 (Z : State) (h0 : Heap) (v : Option Value) (h : Heap) (L : List Loc) : Prop := v = some (.int 5) ∧ L = [] ∧ h = h0
set_option maxRecDepth 65536 in
set_option maxHeartbeats 40000000 in
theorem rmMn6_5 (l : Launch) (Z : State) (a0 : Array Value) (hw : ∀ d ∈ tables_1, d.before a0 Z = true) (ws : List Jvm.Cond)  (h0 : Heap)  :
    MetFree l (⟨"java/lang/Math", "min", "(II)I"⟩ : MethodName) (head1 (Jvm.Cond.code (⟨"java/lang/Math", "min", "(II)I"⟩ : MethodName) jdk_29_method_69_code 2 (some .int) :: ws) ({ frames := 0, cells := 0, slots := 0, locals := 0 } : Room)) (fun a U => a = #[(.int 6), (.int 5)] ∧ Z.Warmed39 U.vm ∧ U.heap = h0) (fun _ _ _ _ _ => True) (fun _ U o U' => ∃ v L, o = .returned v ∧ Q_rmMn6_5 Z h0 v U'.heap L ∧ FrameEnd U o U' L ({ frames := 0, cells := 0, slots := 0, locals := 0 } : Room).cells ({ frames := 0, cells := 0, slots := 0, locals := 0 } : Room).slots) := by
  refine MetFree.of_bodySF (by decide +kernel) hisR ?_
  intro p e s m args below meth c s₁ Bd hml0 hP hK
  obtain ⟨rfl, hZ, hh⟩ := hP
  have hx := Bd.exec
  have hby := Bd.bytes
  have hlk : meth.locks = false := Bd.notSynchronized
  have hml : c.maxLocals = 2 := hml0
  have hown : s.vm.findClass "java/lang/Math" = some m.cls := findClass_of_methodNamed Bd.named
  have hnm := (name_of_methodNamed Bd.named Bd.method).1
  have X0 : Stand p l e ({ frames := 0, cells := 0, slots := 0, locals := 0 } : Room) s m #[(.int 6), (.int 5)] below meth c s₁ [] 0 0 := Stand.of_body Bd
  have e0 : s₁.heap = h0 := by rw [← hh, Bd.state]; rfl
  suffices hgo : OD p e s below (Q_rmMn6_5 Z h0) ({ frames := 0, cells := 0, slots := 0, locals := 0 } : Room).cells ({ frames := 0, cells := 0, slots := 0, locals := 0 } : Room).slots (s₁.setTop (mkF m 0 #[.val (.int 6), .val (.int 5)] [])) by
    obtain ⟨s₂, o, hgo1, hgo2⟩ := hgo
    exact ⟨s₂, o, castTop (ef1 m (6 : Int32) (5 : Int32)) hgo1, hgo2⟩
  refine OD.go (B := (s₁.setTop (mkF m 1 #[.val (.int 6), .val (.int 5)] [(.int 6)]))) (fun t k => XS.iloadN X0.here hx rfl (hb hby d4_0) rfl k) ?_
  refine OD.go (B := (s₁.setTop (mkF m 2 #[.val (.int 6), .val (.int 5)] [(.int 5), (.int 6)]))) (fun t k => XS.iloadN X0.here hx rfl (hb hby d4_1) rfl k) ?_
  refine OD.go (B := (s₁.setTop (mkF m 9 #[.val (.int 6), .val (.int 5)] []))) (fun t k => XS.icmpYes X0.here hx rfl (pc0 := 2) (pc' := 9) rfl (hb hby d4_2) rfl (tlt (by decide : (5 : Int32) < (6 : Int32))).2.2.1 (by decide) (by decide) k) ?_
  refine OD.go (B := (s₁.setTop (mkF m 10 #[.val (.int 6), .val (.int 5)] [(.int 5)]))) (fun t k => XS.iloadN X0.here hx rfl (hb hby d4_9) rfl k) ?_
  exact OD.ret X0 hx hlk (t := .int) Bd.returns rfl (Or.inl ⟨rfl, Or.inl rfl, _, rfl⟩) (hb hby d4_10) (Nat.le_of_ble_eq_true rfl) (Nat.le_of_ble_eq_true rfl) ⟨rfl, rfl, e0⟩
def Q_rmMn8_5 (Z : State) (h0 : Heap) (v : Option Value) (h : Heap) (L : List Loc) : Prop := v = some (.int 5) ∧ L = [] ∧ h = h0
set_option maxRecDepth 65536 in
set_option maxHeartbeats 40000000 in
theorem rmMn8_5 (l : Launch) (Z : State) (a0 : Array Value) (hw : ∀ d ∈ tables_1, d.before a0 Z = true) (ws : List Jvm.Cond)  (h0 : Heap)  :
    MetFree l (⟨"java/lang/Math", "min", "(II)I"⟩ : MethodName) (head1 (Jvm.Cond.code (⟨"java/lang/Math", "min", "(II)I"⟩ : MethodName) jdk_29_method_69_code 2 (some .int) :: ws) ({ frames := 0, cells := 0, slots := 0, locals := 0 } : Room)) (fun a U => a = #[(.int 8), (.int 5)] ∧ Z.Warmed39 U.vm ∧ U.heap = h0) (fun _ _ _ _ _ => True) (fun _ U o U' => ∃ v L, o = .returned v ∧ Q_rmMn8_5 Z h0 v U'.heap L ∧ FrameEnd U o U' L ({ frames := 0, cells := 0, slots := 0, locals := 0 } : Room).cells ({ frames := 0, cells := 0, slots := 0, locals := 0 } : Room).slots) := by
  refine MetFree.of_bodySF (by decide +kernel) hisR ?_
  intro p e s m args below meth c s₁ Bd hml0 hP hK
  obtain ⟨rfl, hZ, hh⟩ := hP
  have hx := Bd.exec
  have hby := Bd.bytes
  have hlk : meth.locks = false := Bd.notSynchronized
  have hml : c.maxLocals = 2 := hml0
  have hown : s.vm.findClass "java/lang/Math" = some m.cls := findClass_of_methodNamed Bd.named
  have hnm := (name_of_methodNamed Bd.named Bd.method).1
  have X0 : Stand p l e ({ frames := 0, cells := 0, slots := 0, locals := 0 } : Room) s m #[(.int 8), (.int 5)] below meth c s₁ [] 0 0 := Stand.of_body Bd
  have e0 : s₁.heap = h0 := by rw [← hh, Bd.state]; rfl
  suffices hgo : OD p e s below (Q_rmMn8_5 Z h0) ({ frames := 0, cells := 0, slots := 0, locals := 0 } : Room).cells ({ frames := 0, cells := 0, slots := 0, locals := 0 } : Room).slots (s₁.setTop (mkF m 0 #[.val (.int 8), .val (.int 5)] [])) by
    obtain ⟨s₂, o, hgo1, hgo2⟩ := hgo
    exact ⟨s₂, o, castTop (ef1 m (8 : Int32) (5 : Int32)) hgo1, hgo2⟩
  refine OD.go (B := (s₁.setTop (mkF m 1 #[.val (.int 8), .val (.int 5)] [(.int 8)]))) (fun t k => XS.iloadN X0.here hx rfl (hb hby d4_0) rfl k) ?_
  refine OD.go (B := (s₁.setTop (mkF m 2 #[.val (.int 8), .val (.int 5)] [(.int 5), (.int 8)]))) (fun t k => XS.iloadN X0.here hx rfl (hb hby d4_1) rfl k) ?_
  refine OD.go (B := (s₁.setTop (mkF m 9 #[.val (.int 8), .val (.int 5)] []))) (fun t k => XS.icmpYes X0.here hx rfl (pc0 := 2) (pc' := 9) rfl (hb hby d4_2) rfl (tlt (by decide : (5 : Int32) < (8 : Int32))).2.2.1 (by decide) (by decide) k) ?_
  refine OD.go (B := (s₁.setTop (mkF m 10 #[.val (.int 8), .val (.int 5)] [(.int 5)]))) (fun t k => XS.iloadN X0.here hx rfl (hb hby d4_9) rfl k) ?_
  exact OD.ret X0 hx hlk (t := .int) Bd.returns rfl (Or.inl ⟨rfl, Or.inl rfl, _, rfl⟩) (hb hby d4_10) (Nat.le_of_ble_eq_true rfl) (Nat.le_of_ble_eq_true rfl) ⟨rfl, rfl, e0⟩
def Q_rmO0 (Z : State) (da : Addr) (h0 : Heap) (n0 : Nat) (v : Option Value) (h : Heap) (L : List Loc) : Prop := ∃ (b : Addr) (k : ClassId), v = some (.ref b) ∧ Fr n0 L ∧ Keep h0 h [] ∧ h0.size ≤ b ∧ Arv Z h b k .int 0 (own_rg (0 : Int32).toNatClampNeg (fun x => .int (own_id x))) (.int 0)
set_option maxRecDepth 65536 in
set_option maxHeartbeats 40000000 in
theorem rmO0 (l : Launch) (Z : State) (a0 : Array Value) (hw : ∀ d ∈ tables_1, d.before a0 Z = true) (ws : List Jvm.Cond) (da : Addr) (h0 : Heap) (n0 : Nat) (Z0 : n0 ≤ h0.size) (k0 : ClassId) (sv : Int32 → UInt64) (D1 : Arv Z h0 da k0 .double (0 : Int32) (own_rg (0 : Int32).toNatClampNeg (fun x => .double (sv x))) (.double 0)) :
    MetFree l (⟨"com/example/topside/topside/DescendingOrder", "of", "([D)[I"⟩ : MethodName) (head1 (Jvm.Cond.code (⟨"com/example/topside/topside/DescendingOrder", "of", "([D)[I"⟩ : MethodName) prog_5_method_2_code 7 (some (.array .int)) :: ws) ({ frames := 1, cells := 2, slots := 12, locals := 24 } : Room)) (fun a U => a = #[(.ref da)] ∧ Z.Warmed39 U.vm ∧ U.heap = h0) (fun _ _ _ _ _ => True) (fun _ U o U' => ∃ v L, o = .returned v ∧ Q_rmO0 Z da h0 n0 v U'.heap L ∧ FrameEnd U o U' L ({ frames := 1, cells := 2, slots := 12, locals := 24 } : Room).cells ({ frames := 1, cells := 2, slots := 12, locals := 24 } : Room).slots) := by
  refine MetFree.of_bodySF (plainFor_of_name pn0) hisR ?_
  intro p e s m args below meth c s₁ Bd hml0 hP hK
  obtain ⟨rfl, hZ, hh⟩ := hP
  have hx := Bd.exec
  have hby := Bd.bytes
  have hlk : meth.locks = false := Bd.notSynchronized
  have hml : c.maxLocals = 7 := hml0
  have hown : s.vm.findClass "com/example/topside/topside/DescendingOrder" = some m.cls := findClass_of_methodNamed Bd.named
  have hnm := (name_of_methodNamed Bd.named Bd.method).1
  have X0 : Stand p l e ({ frames := 1, cells := 2, slots := 12, locals := 24 } : Room) s m #[(.ref da)] below meth c s₁ [] 0 0 := Stand.of_body Bd
  have e0 : s₁.heap = h0 := by rw [← hh, Bd.state]; rfl
  have N0 := Fr.nil n0
  suffices hgo : OD p e s below (Q_rmO0 Z da h0 n0) ({ frames := 1, cells := 2, slots := 12, locals := 24 } : Room).cells ({ frames := 1, cells := 2, slots := 12, locals := 24 } : Room).slots (s₁.setTop (mkF m 0 #[.val (.ref da), .unset, .unset, .unset, .unset, .unset, .unset] [])) by
    obtain ⟨s₂, o, hgo1, hgo2⟩ := hgo
    exact ⟨s₂, o, castTop (ef2 m da) hgo1, hgo2⟩
  refine OD.go (B := (s₁.setTop (mkF m 1 #[.val (.ref da), .unset, .unset, .unset, .unset, .unset, .unset] [(.ref da)]))) (fun t k => XS.aloadN X0.here hx rfl (hb hby d1_0) rfl rfl k) ?_
  obtain ⟨cl1, Ar1, hl1⟩ := own_len D1
  refine OD.go (B := (s₁.setTop (mkF m 2 #[.val (.ref da), .unset, .unset, .unset, .unset, .unset, .unset] [(.int 0)]))) (fun t k => X0.arraylength hx (by rw [e0]; exact Ar1.1) (State.isArrayOf_alike hZ.alike Ar1.2.1) (g := (mkF m 1 #[.val (.ref da), .unset, .unset, .unset, .unset, .unset, .unset] [(.ref da)])) rfl rfl (hb hby d1_1) _ (by rw [hl1]; exact k)) ?_
  obtain ⟨T2, h2, k2, X2, e2, E2, A2, st2⟩ := newP X0 hx hZ (aty := .int) (Wd5 hw) e0 (g := (mkF m 2 #[.val (.ref da), .unset, .unset, .unset, .unset, .unset, .unset] [(.int 0)])) rfl (hb hby d1_2) rfl (by decide) (cap := 0) (by decide) (by decide) (Nat.le_of_ble_eq_true rfl) (Nat.le_of_ble_eq_true rfl)
  obtain ⟨b2, g2⟩ : ∃ z, z = h0.size := ⟨_, rfl⟩
  rw [← g2] at A2 st2
  have V2 : Arv Z h2 b2 k2 .int 0 [] (.int 0) := Arv.new A2 (by decide)
  refine OD.go (B := (T2.setTop (mkF m 4 #[.val (.ref da), .unset, .unset, .unset, .unset, .unset, .unset] [(.ref b2)]))) st2 ?_
  refine OD.go (B := (T2.setTop (mkF m 5 #[.val (.ref da), .val (.ref b2), .unset, .unset, .unset, .unset, .unset] []))) (fun t k => XS.astoreN X2.here hx rfl (hb hby d1_4) rfl rfl (l' := #[.val (.ref da), .val (.ref b2), .unset, .unset, .unset, .unset, .unset]) rfl k) ?_
  refine OD.go (B := (T2.setTop (mkF m 6 #[.val (.ref da), .val (.ref b2), .unset, .unset, .unset, .unset, .unset] [(.int 0)]))) (fun t k => XS.iconst X2.here hx rfl (hb hby d1_5) k) ?_
  refine OD.go (B := (T2.setTop (mkF m 7 #[.val (.ref da), .val (.ref b2), .val (.int 0), .unset, .unset, .unset, .unset] []))) (fun t k => XS.istoreN X2.here hx rfl (hb hby d1_6) rfl (l' := #[.val (.ref da), .val (.ref b2), .val (.int 0), .unset, .unset, .unset, .unset]) rfl k) ?_
  refine OD.go (B := (T2.setTop (mkF m 8 #[.val (.ref da), .val (.ref b2), .val (.int 0), .unset, .unset, .unset, .unset] [(.int 0)]))) (fun t k => XS.iloadN X2.here hx rfl (hb hby d1_7) rfl k) ?_
  refine OD.go (B := (T2.setTop (mkF m 9 #[.val (.ref da), .val (.ref b2), .val (.int 0), .unset, .unset, .unset, .unset] [(.ref b2), (.int 0)]))) (fun t k => XS.aloadN X2.here hx rfl (hb hby d1_8) rfl rfl k) ?_
  obtain ⟨cl3, Ar3, hl3⟩ := own_len V2
  refine OD.go (B := (T2.setTop (mkF m 10 #[.val (.ref da), .val (.ref b2), .val (.int 0), .unset, .unset, .unset, .unset] [(.int 0), (.int 0)]))) (fun t k => X2.arraylength hx (by rw [e2]; exact Ar3.1) (State.isArrayOf_alike hZ.alike Ar3.2.1) (g := (mkF m 9 #[.val (.ref da), .val (.ref b2), .val (.int 0), .unset, .unset, .unset, .unset] [(.ref b2), (.int 0)])) rfl rfl (hb hby d1_9) _ (by rw [hl3]; exact k)) ?_
  refine OD.go (B := (T2.setTop (mkF m 23 #[.val (.ref da), .val (.ref b2), .val (.int 0), .unset, .unset, .unset, .unset] []))) (fun t k => XS.icmpYes X2.here hx rfl (pc0 := 10) (pc' := 23) rfl (hb hby d1_10) rfl (flt (by decide : ¬ (0 : Int32) < (0 : Int32))).2.1 (by decide) (by decide) k) ?_
  refine OD.go (B := (T2.setTop (mkF m 24 #[.val (.ref da), .val (.ref b2), .val (.int 0), .unset, .unset, .unset, .unset] [(.ref b2)]))) (fun t k => XS.aloadN X2.here hx rfl (hb hby d1_23) rfl rfl k) ?_
  obtain ⟨cl4, Ar4, hl4⟩ := own_len V2
  refine OD.go (B := (T2.setTop (mkF m 25 #[.val (.ref da), .val (.ref b2), .val (.int 0), .unset, .unset, .unset, .unset] [(.int 0)]))) (fun t k => X2.arraylength hx (by rw [e2]; exact Ar4.1) (State.isArrayOf_alike hZ.alike Ar4.2.1) (g := (mkF m 24 #[.val (.ref da), .val (.ref b2), .val (.int 0), .unset, .unset, .unset, .unset] [(.ref b2)])) rfl rfl (hb hby d1_24) _ (by rw [hl4]; exact k)) ?_
  obtain ⟨T5, h5, k5, X5, e5, E5, A5, st5⟩ := newP X2 hx hZ (aty := .int) (Wd5 hw) e2 (g := (mkF m 25 #[.val (.ref da), .val (.ref b2), .val (.int 0), .unset, .unset, .unset, .unset] [(.int 0)])) rfl (hb hby d1_25) rfl (by decide) (cap := 0) (by decide) (by decide) (Nat.le_of_ble_eq_true rfl) (Nat.le_of_ble_eq_true rfl)
  obtain ⟨b5, g5⟩ : ∃ z, z = h2.size := ⟨_, rfl⟩
  rw [← g5] at A5 st5
  have V5 : Arv Z h5 b5 k5 .int 0 [] (.int 0) := Arv.new A5 (by decide)
  refine OD.go (B := (T5.setTop (mkF m 27 #[.val (.ref da), .val (.ref b2), .val (.int 0), .unset, .unset, .unset, .unset] [(.ref b5)]))) st5 ?_
  refine OD.go (B := (T5.setTop (mkF m 28 #[.val (.ref da), .val (.ref b2), .val (.ref b5), .unset, .unset, .unset, .unset] []))) (fun t k => XS.astoreN X5.here hx rfl (hb hby d1_27) rfl rfl (l' := #[.val (.ref da), .val (.ref b2), .val (.ref b5), .unset, .unset, .unset, .unset]) rfl k) ?_
  refine OD.go (B := (T5.setTop (mkF m 29 #[.val (.ref da), .val (.ref b2), .val (.ref b5), .unset, .unset, .unset, .unset] [(.int 1)]))) (fun t k => XS.iconst X5.here hx rfl (hb hby d1_28) k) ?_
  refine OD.go (B := (T5.setTop (mkF m 30 #[.val (.ref da), .val (.ref b2), .val (.ref b5), .val (.int 1), .unset, .unset, .unset] []))) (fun t k => XS.istoreN X5.here hx rfl (hb hby d1_29) rfl (l' := #[.val (.ref da), .val (.ref b2), .val (.ref b5), .val (.int 1), .unset, .unset, .unset]) rfl k) ?_
  refine OD.go (B := (T5.setTop (mkF m 31 #[.val (.ref da), .val (.ref b2), .val (.ref b5), .val (.int 1), .unset, .unset, .unset] [(.int 1)]))) (fun t k => XS.iloadN X5.here hx rfl (hb hby d1_30) rfl k) ?_
  refine OD.go (B := (T5.setTop (mkF m 32 #[.val (.ref da), .val (.ref b2), .val (.ref b5), .val (.int 1), .unset, .unset, .unset] [(.ref b2), (.int 1)]))) (fun t k => XS.aloadN X5.here hx rfl (hb hby d1_31) rfl rfl k) ?_
  have f6 := (V2.ext E5)
  obtain ⟨cl7, Ar7, hl7⟩ := own_len f6
  refine OD.go (B := (T5.setTop (mkF m 33 #[.val (.ref da), .val (.ref b2), .val (.ref b5), .val (.int 1), .unset, .unset, .unset] [(.int 0), (.int 1)]))) (fun t k => X5.arraylength hx (by rw [e5]; exact Ar7.1) (State.isArrayOf_alike hZ.alike Ar7.2.1) (g := (mkF m 32 #[.val (.ref da), .val (.ref b2), .val (.ref b5), .val (.int 1), .unset, .unset, .unset] [(.ref b2), (.int 1)])) rfl rfl (hb hby d1_32) _ (by rw [hl7]; exact k)) ?_
  refine OD.go (B := (T5.setTop (mkF m 108 #[.val (.ref da), .val (.ref b2), .val (.ref b5), .val (.int 1), .unset, .unset, .unset] []))) (fun t k => XS.icmpYes X5.here hx rfl (pc0 := 33) (pc' := 108) rfl (hb hby d1_33) rfl (flt (by decide : ¬ (1 : Int32) < (0 : Int32))).2.1 (by decide) (by decide) k) ?_
  refine OD.go (B := (T5.setTop (mkF m 109 #[.val (.ref da), .val (.ref b2), .val (.ref b5), .val (.int 1), .unset, .unset, .unset] [(.ref b2)]))) (fun t k => XS.aloadN X5.here hx rfl (hb hby d1_108) rfl rfl k) ?_
  have Vf8 : Arv Z h5 b2 k2 .int 0 (own_rg (0 : Int32).toNatClampNeg (fun x => .int (own_id x))) (.int 0) := f6
  exact OD.ret X5 hx hlk (t := (.array .int)) Bd.returns rfl (Or.inr (Or.inr (Or.inr (Or.inr ⟨rfl, rfl, rfl⟩)))) (hb hby d1_109) (Nat.le_of_ble_eq_true rfl) (Nat.le_of_ble_eq_true rfl) ⟨_, _, rfl, N0, by rw [e5]; exact (((Keep.refl h0 []).ext E2).ext E5), (Nat.le_trans (Nat.le_refl _) (Nat.le_of_eq g2.symm)), by rw [e5]; exact Vf8⟩
def Q_rmO1 (Z : State) (da : Addr) (h0 : Heap) (n0 : Nat) (v : Option Value) (h : Heap) (L : List Loc) : Prop := ∃ (b : Addr) (k : ClassId), v = some (.ref b) ∧ Fr n0 L ∧ Keep h0 h [] ∧ h0.size ≤ b ∧ Arv Z h b k .int 1 (own_rg (1 : Int32).toNatClampNeg (fun x => .int (own_id x))) (.int 0)
set_option maxRecDepth 65536 in
set_option maxHeartbeats 40000000 in
theorem rmO1 (l : Launch) (Z : State) (a0 : Array Value) (hw : ∀ d ∈ tables_1, d.before a0 Z = true) (ws : List Jvm.Cond) (da : Addr) (h0 : Heap) (n0 : Nat) (Z0 : n0 ≤ h0.size) (k0 : ClassId) (sv : Int32 → UInt64) (D1 : Arv Z h0 da k0 .double (1 : Int32) (own_rg (1 : Int32).toNatClampNeg (fun x => .double (sv x))) (.double 0)) :
    MetFree l (⟨"com/example/topside/topside/DescendingOrder", "of", "([D)[I"⟩ : MethodName) (head1 (Jvm.Cond.code (⟨"com/example/topside/topside/DescendingOrder", "of", "([D)[I"⟩ : MethodName) prog_5_method_2_code 7 (some (.array .int)) :: ws) ({ frames := 1, cells := 2, slots := 12, locals := 24 } : Room)) (fun a U => a = #[(.ref da)] ∧ Z.Warmed39 U.vm ∧ U.heap = h0) (fun _ _ _ _ _ => True) (fun _ U o U' => ∃ v L, o = .returned v ∧ Q_rmO1 Z da h0 n0 v U'.heap L ∧ FrameEnd U o U' L ({ frames := 1, cells := 2, slots := 12, locals := 24 } : Room).cells ({ frames := 1, cells := 2, slots := 12, locals := 24 } : Room).slots) := by
  refine MetFree.of_bodySF (plainFor_of_name pn0) hisR ?_
  intro p e s m args below meth c s₁ Bd hml0 hP hK
  obtain ⟨rfl, hZ, hh⟩ := hP
  have hx := Bd.exec
  have hby := Bd.bytes
  have hlk : meth.locks = false := Bd.notSynchronized
  have hml : c.maxLocals = 7 := hml0
  have hown : s.vm.findClass "com/example/topside/topside/DescendingOrder" = some m.cls := findClass_of_methodNamed Bd.named
  have hnm := (name_of_methodNamed Bd.named Bd.method).1
  have X0 : Stand p l e ({ frames := 1, cells := 2, slots := 12, locals := 24 } : Room) s m #[(.ref da)] below meth c s₁ [] 0 0 := Stand.of_body Bd
  have e0 : s₁.heap = h0 := by rw [← hh, Bd.state]; rfl
  have N0 := Fr.nil n0
  suffices hgo : OD p e s below (Q_rmO1 Z da h0 n0) ({ frames := 1, cells := 2, slots := 12, locals := 24 } : Room).cells ({ frames := 1, cells := 2, slots := 12, locals := 24 } : Room).slots (s₁.setTop (mkF m 0 #[.val (.ref da), .unset, .unset, .unset, .unset, .unset, .unset] [])) by
    obtain ⟨s₂, o, hgo1, hgo2⟩ := hgo
    exact ⟨s₂, o, castTop (ef2 m da) hgo1, hgo2⟩
  refine OD.go (B := (s₁.setTop (mkF m 1 #[.val (.ref da), .unset, .unset, .unset, .unset, .unset, .unset] [(.ref da)]))) (fun t k => XS.aloadN X0.here hx rfl (hb hby d1_0) rfl rfl k) ?_
  obtain ⟨cl1, Ar1, hl1⟩ := own_len D1
  refine OD.go (B := (s₁.setTop (mkF m 2 #[.val (.ref da), .unset, .unset, .unset, .unset, .unset, .unset] [(.int 1)]))) (fun t k => X0.arraylength hx (by rw [e0]; exact Ar1.1) (State.isArrayOf_alike hZ.alike Ar1.2.1) (g := (mkF m 1 #[.val (.ref da), .unset, .unset, .unset, .unset, .unset, .unset] [(.ref da)])) rfl rfl (hb hby d1_1) _ (by rw [hl1]; exact k)) ?_
  obtain ⟨T2, h2, k2, X2, e2, E2, A2, st2⟩ := newP X0 hx hZ (aty := .int) (Wd5 hw) e0 (g := (mkF m 2 #[.val (.ref da), .unset, .unset, .unset, .unset, .unset, .unset] [(.int 1)])) rfl (hb hby d1_2) rfl (by decide) (cap := 1) (by decide) (by decide) (Nat.le_of_ble_eq_true rfl) (Nat.le_of_ble_eq_true rfl)
  obtain ⟨b2, g2⟩ : ∃ z, z = h0.size := ⟨_, rfl⟩
  rw [← g2] at A2 st2
  have V2 : Arv Z h2 b2 k2 .int 1 [(.int 0)] (.int 0) := (Arv.new A2 (by decide)).pad (pad_rep [] (.int 0) 1)
  refine OD.go (B := (T2.setTop (mkF m 4 #[.val (.ref da), .unset, .unset, .unset, .unset, .unset, .unset] [(.ref b2)]))) st2 ?_
  refine OD.go (B := (T2.setTop (mkF m 5 #[.val (.ref da), .val (.ref b2), .unset, .unset, .unset, .unset, .unset] []))) (fun t k => XS.astoreN X2.here hx rfl (hb hby d1_4) rfl rfl (l' := #[.val (.ref da), .val (.ref b2), .unset, .unset, .unset, .unset, .unset]) rfl k) ?_
  refine OD.go (B := (T2.setTop (mkF m 6 #[.val (.ref da), .val (.ref b2), .unset, .unset, .unset, .unset, .unset] [(.int 0)]))) (fun t k => XS.iconst X2.here hx rfl (hb hby d1_5) k) ?_
  refine OD.go (B := (T2.setTop (mkF m 7 #[.val (.ref da), .val (.ref b2), .val (.int 0), .unset, .unset, .unset, .unset] []))) (fun t k => XS.istoreN X2.here hx rfl (hb hby d1_6) rfl (l' := #[.val (.ref da), .val (.ref b2), .val (.int 0), .unset, .unset, .unset, .unset]) rfl k) ?_
  refine OD.go (B := (T2.setTop (mkF m 8 #[.val (.ref da), .val (.ref b2), .val (.int 0), .unset, .unset, .unset, .unset] [(.int 0)]))) (fun t k => XS.iloadN X2.here hx rfl (hb hby d1_7) rfl k) ?_
  refine OD.go (B := (T2.setTop (mkF m 9 #[.val (.ref da), .val (.ref b2), .val (.int 0), .unset, .unset, .unset, .unset] [(.ref b2), (.int 0)]))) (fun t k => XS.aloadN X2.here hx rfl (hb hby d1_8) rfl rfl k) ?_
  obtain ⟨cl3, Ar3, hl3⟩ := own_len V2
  refine OD.go (B := (T2.setTop (mkF m 10 #[.val (.ref da), .val (.ref b2), .val (.int 0), .unset, .unset, .unset, .unset] [(.int 1), (.int 0)]))) (fun t k => X2.arraylength hx (by rw [e2]; exact Ar3.1) (State.isArrayOf_alike hZ.alike Ar3.2.1) (g := (mkF m 9 #[.val (.ref da), .val (.ref b2), .val (.int 0), .unset, .unset, .unset, .unset] [(.ref b2), (.int 0)])) rfl rfl (hb hby d1_9) _ (by rw [hl3]; exact k)) ?_
  refine OD.go (B := (T2.setTop (mkF m 13 #[.val (.ref da), .val (.ref b2), .val (.int 0), .unset, .unset, .unset, .unset] []))) (fun t k => XS.icmpNo X2.here hx rfl (hb hby d1_10) rfl (tlt (by decide : (0 : Int32) < (1 : Int32))).2.1 k) ?_
  refine OD.go (B := (T2.setTop (mkF m 14 #[.val (.ref da), .val (.ref b2), .val (.int 0), .unset, .unset, .unset, .unset] [(.ref b2)]))) (fun t k => XS.aloadN X2.here hx rfl (hb hby d1_13) rfl rfl k) ?_
  refine OD.go (B := (T2.setTop (mkF m 15 #[.val (.ref da), .val (.ref b2), .val (.int 0), .unset, .unset, .unset, .unset] [(.int 0), (.ref b2)]))) (fun t k => XS.iloadN X2.here hx rfl (hb hby d1_14) rfl k) ?_
  refine OD.go (B := (T2.setTop (mkF m 16 #[.val (.ref da), .val (.ref b2), .val (.int 0), .unset, .unset, .unset, .unset] [(.int 0), (.int 0), (.ref b2)]))) (fun t k => XS.iloadN X2.here hx rfl (hb hby d1_15) rfl k) ?_
  obtain ⟨cl4, Ar4, q4, S4, M4, H4, G4⟩ := id V2
  obtain ⟨T4, h4, X4, e4, W4, st4⟩ := stI X2 hx hZ e2 Ar4 (j := (0 : Int32)) (inb_of S4 ⟨by decide, by decide⟩) (g := (mkF m 16 #[.val (.ref da), .val (.ref b2), .val (.int 0), .unset, .unset, .unset, .unset] [(.int 0), (.int 0), (.ref b2)])) rfl rfl (hb hby d1_16)
  have V4 : Arv Z h4 b2 k2 .int 1 [(.int 0)] (.int 0) := Arv.set Ar4 q4 S4 M4 H4 G4 rfl W4 0 rfl (Nat.le_of_ble_eq_true rfl)
  have N4 := Fr.snoc X4 N0 (Nat.le_trans Z0 (Nat.le_of_eq g2.symm))
  refine OD.go (B := (T4.setTop (mkF m 17 #[.val (.ref da), .val (.ref b2), .val (.int 0), .unset, .unset, .unset, .unset] []))) st4 ?_
  refine OD.go (B := (T4.setTop (mkF m 20 #[.val (.ref da), .val (.ref b2), .val (.int 1), .unset, .unset, .unset, .unset] []))) (fun t k => XS.iinc X4.here hx rfl (hb hby d1_17) rfl (l' := #[.val (.ref da), .val (.ref b2), .val (.int 1), .unset, .unset, .unset, .unset]) rfl k) ?_
  refine OD.go (B := (T4.setTop (mkF m 7 #[.val (.ref da), .val (.ref b2), .val (.int 1), .unset, .unset, .unset, .unset] []))) (fun t k => XS.goto X4.here hx rfl (pc0 := 20) (pc' := 7) rfl (hb hby d1_20) (by decide) (by decide) k) ?_
  refine OD.go (B := (T4.setTop (mkF m 8 #[.val (.ref da), .val (.ref b2), .val (.int 1), .unset, .unset, .unset, .unset] [(.int 1)]))) (fun t k => XS.iloadN X4.here hx rfl (hb hby d1_7) rfl k) ?_
  refine OD.go (B := (T4.setTop (mkF m 9 #[.val (.ref da), .val (.ref b2), .val (.int 1), .unset, .unset, .unset, .unset] [(.ref b2), (.int 1)]))) (fun t k => XS.aloadN X4.here hx rfl (hb hby d1_8) rfl rfl k) ?_
  obtain ⟨cl5, Ar5, hl5⟩ := own_len V4
  refine OD.go (B := (T4.setTop (mkF m 10 #[.val (.ref da), .val (.ref b2), .val (.int 1), .unset, .unset, .unset, .unset] [(.int 1), (.int 1)]))) (fun t k => X4.arraylength hx (by rw [e4]; exact Ar5.1) (State.isArrayOf_alike hZ.alike Ar5.2.1) (g := (mkF m 9 #[.val (.ref da), .val (.ref b2), .val (.int 1), .unset, .unset, .unset, .unset] [(.ref b2), (.int 1)])) rfl rfl (hb hby d1_9) _ (by rw [hl5]; exact k)) ?_
  refine OD.go (B := (T4.setTop (mkF m 23 #[.val (.ref da), .val (.ref b2), .val (.int 1), .unset, .unset, .unset, .unset] []))) (fun t k => XS.icmpYes X4.here hx rfl (pc0 := 10) (pc' := 23) rfl (hb hby d1_10) rfl (flt (by decide : ¬ (1 : Int32) < (1 : Int32))).2.1 (by decide) (by decide) k) ?_
  refine OD.go (B := (T4.setTop (mkF m 24 #[.val (.ref da), .val (.ref b2), .val (.int 1), .unset, .unset, .unset, .unset] [(.ref b2)]))) (fun t k => XS.aloadN X4.here hx rfl (hb hby d1_23) rfl rfl k) ?_
  obtain ⟨cl6, Ar6, hl6⟩ := own_len V4
  refine OD.go (B := (T4.setTop (mkF m 25 #[.val (.ref da), .val (.ref b2), .val (.int 1), .unset, .unset, .unset, .unset] [(.int 1)]))) (fun t k => X4.arraylength hx (by rw [e4]; exact Ar6.1) (State.isArrayOf_alike hZ.alike Ar6.2.1) (g := (mkF m 24 #[.val (.ref da), .val (.ref b2), .val (.int 1), .unset, .unset, .unset, .unset] [(.ref b2)])) rfl rfl (hb hby d1_24) _ (by rw [hl6]; exact k)) ?_
  obtain ⟨T7, h7, k7, X7, e7, E7, A7, st7⟩ := newP X4 hx hZ (aty := .int) (Wd5 hw) e4 (g := (mkF m 25 #[.val (.ref da), .val (.ref b2), .val (.int 1), .unset, .unset, .unset, .unset] [(.int 1)])) rfl (hb hby d1_25) rfl (by decide) (cap := 1) (by decide) (by decide) (Nat.le_of_ble_eq_true rfl) (Nat.le_of_ble_eq_true rfl)
  obtain ⟨b7, g7⟩ : ∃ z, z = h4.size := ⟨_, rfl⟩
  rw [← g7] at A7 st7
  have V7 : Arv Z h7 b7 k7 .int 1 [(.int 0)] (.int 0) := (Arv.new A7 (by decide)).pad (pad_rep [] (.int 0) 1)
  refine OD.go (B := (T7.setTop (mkF m 27 #[.val (.ref da), .val (.ref b2), .val (.int 1), .unset, .unset, .unset, .unset] [(.ref b7)]))) st7 ?_
  refine OD.go (B := (T7.setTop (mkF m 28 #[.val (.ref da), .val (.ref b2), .val (.ref b7), .unset, .unset, .unset, .unset] []))) (fun t k => XS.astoreN X7.here hx rfl (hb hby d1_27) rfl rfl (l' := #[.val (.ref da), .val (.ref b2), .val (.ref b7), .unset, .unset, .unset, .unset]) rfl k) ?_
  refine OD.go (B := (T7.setTop (mkF m 29 #[.val (.ref da), .val (.ref b2), .val (.ref b7), .unset, .unset, .unset, .unset] [(.int 1)]))) (fun t k => XS.iconst X7.here hx rfl (hb hby d1_28) k) ?_
  refine OD.go (B := (T7.setTop (mkF m 30 #[.val (.ref da), .val (.ref b2), .val (.ref b7), .val (.int 1), .unset, .unset, .unset] []))) (fun t k => XS.istoreN X7.here hx rfl (hb hby d1_29) rfl (l' := #[.val (.ref da), .val (.ref b2), .val (.ref b7), .val (.int 1), .unset, .unset, .unset]) rfl k) ?_
  refine OD.go (B := (T7.setTop (mkF m 31 #[.val (.ref da), .val (.ref b2), .val (.ref b7), .val (.int 1), .unset, .unset, .unset] [(.int 1)]))) (fun t k => XS.iloadN X7.here hx rfl (hb hby d1_30) rfl k) ?_
  refine OD.go (B := (T7.setTop (mkF m 32 #[.val (.ref da), .val (.ref b2), .val (.ref b7), .val (.int 1), .unset, .unset, .unset] [(.ref b2), (.int 1)]))) (fun t k => XS.aloadN X7.here hx rfl (hb hby d1_31) rfl rfl k) ?_
  have f8 := (V4.ext E7)
  obtain ⟨cl9, Ar9, hl9⟩ := own_len f8
  refine OD.go (B := (T7.setTop (mkF m 33 #[.val (.ref da), .val (.ref b2), .val (.ref b7), .val (.int 1), .unset, .unset, .unset] [(.int 1), (.int 1)]))) (fun t k => X7.arraylength hx (by rw [e7]; exact Ar9.1) (State.isArrayOf_alike hZ.alike Ar9.2.1) (g := (mkF m 32 #[.val (.ref da), .val (.ref b2), .val (.ref b7), .val (.int 1), .unset, .unset, .unset] [(.ref b2), (.int 1)])) rfl rfl (hb hby d1_32) _ (by rw [hl9]; exact k)) ?_
  refine OD.go (B := (T7.setTop (mkF m 108 #[.val (.ref da), .val (.ref b2), .val (.ref b7), .val (.int 1), .unset, .unset, .unset] []))) (fun t k => XS.icmpYes X7.here hx rfl (pc0 := 33) (pc' := 108) rfl (hb hby d1_33) rfl (flt (by decide : ¬ (1 : Int32) < (1 : Int32))).2.1 (by decide) (by decide) k) ?_
  refine OD.go (B := (T7.setTop (mkF m 109 #[.val (.ref da), .val (.ref b2), .val (.ref b7), .val (.int 1), .unset, .unset, .unset] [(.ref b2)]))) (fun t k => XS.aloadN X7.here hx rfl (hb hby d1_108) rfl rfl k) ?_
  have Vf10 : Arv Z h7 b2 k2 .int 1 (own_rg (1 : Int32).toNatClampNeg (fun x => .int (own_id x))) (.int 0) := f8
  exact OD.ret X7 hx hlk (t := (.array .int)) Bd.returns rfl (Or.inr (Or.inr (Or.inr (Or.inr ⟨rfl, rfl, rfl⟩)))) (hb hby d1_109) (Nat.le_of_ble_eq_true rfl) (Nat.le_of_ble_eq_true rfl) ⟨_, _, rfl, N4, by rw [e7]; exact ((((Keep.refl h0 []).ext E2).wr W4 (Or.inr (Nat.le_trans (Nat.le_refl _) (Nat.le_of_eq g2.symm)))).ext E7), (Nat.le_trans (Nat.le_refl _) (Nat.le_of_eq g2.symm)), by rw [e7]; exact Vf10⟩
def Q_rmO2 (Z : State) (da : Addr) (h0 : Heap) (n0 : Nat) (sv : Int32 → UInt64) (v : Option Value) (h : Heap) (L : List Loc) : Prop := ∃ (b : Addr) (k : ClassId), v = some (.ref b) ∧ Fr n0 L ∧ Keep h0 h [] ∧ h0.size ≤ b ∧ Arv Z h b k .int 2 (own_rg (2 : Int32).toNatClampNeg (fun x => .int ((own_m2_0 sv) x))) (.int 0)
set_option maxRecDepth 65536 in
set_option maxHeartbeats 40000000 in
theorem rmO2 (l : Launch) (Z : State) (a0 : Array Value) (hw : ∀ d ∈ tables_1, d.before a0 Z = true) (ws : List Jvm.Cond) (da : Addr) (h0 : Heap) (n0 : Nat) (Z0 : n0 ≤ h0.size) (k0 : ClassId) (sv : Int32 → UInt64) (D1 : Arv Z h0 da k0 .double (2 : Int32) (own_rg (2 : Int32).toNatClampNeg (fun x => .double (sv x))) (.double 0)) :
    MetFree l (⟨"com/example/topside/topside/DescendingOrder", "of", "([D)[I"⟩ : MethodName) (head1 (Jvm.Cond.code (⟨"com/example/topside/topside/DescendingOrder", "of", "([D)[I"⟩ : MethodName) prog_5_method_2_code 7 (some (.array .int)) :: ws) ({ frames := 1, cells := 2, slots := 12, locals := 24 } : Room)) (fun a U => a = #[(.ref da)] ∧ Z.Warmed39 U.vm ∧ U.heap = h0) (fun _ _ _ _ _ => True) (fun _ U o U' => ∃ v L, o = .returned v ∧ Q_rmO2 Z da h0 n0 sv v U'.heap L ∧ FrameEnd U o U' L ({ frames := 1, cells := 2, slots := 12, locals := 24 } : Room).cells ({ frames := 1, cells := 2, slots := 12, locals := 24 } : Room).slots) := by
  refine MetFree.of_bodySF (plainFor_of_name pn0) hisR ?_
  intro p e s m args below meth c s₁ Bd hml0 hP hK
  obtain ⟨rfl, hZ, hh⟩ := hP
  have hx := Bd.exec
  have hby := Bd.bytes
  have hlk : meth.locks = false := Bd.notSynchronized
  have hml : c.maxLocals = 7 := hml0
  have hown : s.vm.findClass "com/example/topside/topside/DescendingOrder" = some m.cls := findClass_of_methodNamed Bd.named
  have hnm := (name_of_methodNamed Bd.named Bd.method).1
  have X0 : Stand p l e ({ frames := 1, cells := 2, slots := 12, locals := 24 } : Room) s m #[(.ref da)] below meth c s₁ [] 0 0 := Stand.of_body Bd
  have e0 : s₁.heap = h0 := by rw [← hh, Bd.state]; rfl
  have N0 := Fr.nil n0
  suffices hgo : OD p e s below (Q_rmO2 Z da h0 n0 sv) ({ frames := 1, cells := 2, slots := 12, locals := 24 } : Room).cells ({ frames := 1, cells := 2, slots := 12, locals := 24 } : Room).slots (s₁.setTop (mkF m 0 #[.val (.ref da), .unset, .unset, .unset, .unset, .unset, .unset] [])) by
    obtain ⟨s₂, o, hgo1, hgo2⟩ := hgo
    exact ⟨s₂, o, castTop (ef2 m da) hgo1, hgo2⟩
  refine OD.go (B := (s₁.setTop (mkF m 1 #[.val (.ref da), .unset, .unset, .unset, .unset, .unset, .unset] [(.ref da)]))) (fun t k => XS.aloadN X0.here hx rfl (hb hby d1_0) rfl rfl k) ?_
  obtain ⟨cl1, Ar1, hl1⟩ := own_len D1
  refine OD.go (B := (s₁.setTop (mkF m 2 #[.val (.ref da), .unset, .unset, .unset, .unset, .unset, .unset] [(.int 2)]))) (fun t k => X0.arraylength hx (by rw [e0]; exact Ar1.1) (State.isArrayOf_alike hZ.alike Ar1.2.1) (g := (mkF m 1 #[.val (.ref da), .unset, .unset, .unset, .unset, .unset, .unset] [(.ref da)])) rfl rfl (hb hby d1_1) _ (by rw [hl1]; exact k)) ?_
  obtain ⟨T2, h2, k2, X2, e2, E2, A2, st2⟩ := newP X0 hx hZ (aty := .int) (Wd5 hw) e0 (g := (mkF m 2 #[.val (.ref da), .unset, .unset, .unset, .unset, .unset, .unset] [(.int 2)])) rfl (hb hby d1_2) rfl (by decide) (cap := 2) (by decide) (by decide) (Nat.le_of_ble_eq_true rfl) (Nat.le_of_ble_eq_true rfl)
  obtain ⟨b2, g2⟩ : ∃ z, z = h0.size := ⟨_, rfl⟩
  rw [← g2] at A2 st2
  have V2 : Arv Z h2 b2 k2 .int 2 [(.int 0), (.int 0)] (.int 0) := (Arv.new A2 (by decide)).pad (pad_rep [] (.int 0) 2)
  refine OD.go (B := (T2.setTop (mkF m 4 #[.val (.ref da), .unset, .unset, .unset, .unset, .unset, .unset] [(.ref b2)]))) st2 ?_
  refine OD.go (B := (T2.setTop (mkF m 5 #[.val (.ref da), .val (.ref b2), .unset, .unset, .unset, .unset, .unset] []))) (fun t k => XS.astoreN X2.here hx rfl (hb hby d1_4) rfl rfl (l' := #[.val (.ref da), .val (.ref b2), .unset, .unset, .unset, .unset, .unset]) rfl k) ?_
  refine OD.go (B := (T2.setTop (mkF m 6 #[.val (.ref da), .val (.ref b2), .unset, .unset, .unset, .unset, .unset] [(.int 0)]))) (fun t k => XS.iconst X2.here hx rfl (hb hby d1_5) k) ?_
  refine OD.go (B := (T2.setTop (mkF m 7 #[.val (.ref da), .val (.ref b2), .val (.int 0), .unset, .unset, .unset, .unset] []))) (fun t k => XS.istoreN X2.here hx rfl (hb hby d1_6) rfl (l' := #[.val (.ref da), .val (.ref b2), .val (.int 0), .unset, .unset, .unset, .unset]) rfl k) ?_
  refine OD.go (B := (T2.setTop (mkF m 8 #[.val (.ref da), .val (.ref b2), .val (.int 0), .unset, .unset, .unset, .unset] [(.int 0)]))) (fun t k => XS.iloadN X2.here hx rfl (hb hby d1_7) rfl k) ?_
  refine OD.go (B := (T2.setTop (mkF m 9 #[.val (.ref da), .val (.ref b2), .val (.int 0), .unset, .unset, .unset, .unset] [(.ref b2), (.int 0)]))) (fun t k => XS.aloadN X2.here hx rfl (hb hby d1_8) rfl rfl k) ?_
  obtain ⟨cl3, Ar3, hl3⟩ := own_len V2
  refine OD.go (B := (T2.setTop (mkF m 10 #[.val (.ref da), .val (.ref b2), .val (.int 0), .unset, .unset, .unset, .unset] [(.int 2), (.int 0)]))) (fun t k => X2.arraylength hx (by rw [e2]; exact Ar3.1) (State.isArrayOf_alike hZ.alike Ar3.2.1) (g := (mkF m 9 #[.val (.ref da), .val (.ref b2), .val (.int 0), .unset, .unset, .unset, .unset] [(.ref b2), (.int 0)])) rfl rfl (hb hby d1_9) _ (by rw [hl3]; exact k)) ?_
  refine OD.go (B := (T2.setTop (mkF m 13 #[.val (.ref da), .val (.ref b2), .val (.int 0), .unset, .unset, .unset, .unset] []))) (fun t k => XS.icmpNo X2.here hx rfl (hb hby d1_10) rfl (tlt (by decide : (0 : Int32) < (2 : Int32))).2.1 k) ?_
  refine OD.go (B := (T2.setTop (mkF m 14 #[.val (.ref da), .val (.ref b2), .val (.int 0), .unset, .unset, .unset, .unset] [(.ref b2)]))) (fun t k => XS.aloadN X2.here hx rfl (hb hby d1_13) rfl rfl k) ?_
  refine OD.go (B := (T2.setTop (mkF m 15 #[.val (.ref da), .val (.ref b2), .val (.int 0), .unset, .unset, .unset, .unset] [(.int 0), (.ref b2)]))) (fun t k => XS.iloadN X2.here hx rfl (hb hby d1_14) rfl k) ?_
  refine OD.go (B := (T2.setTop (mkF m 16 #[.val (.ref da), .val (.ref b2), .val (.int 0), .unset, .unset, .unset, .unset] [(.int 0), (.int 0), (.ref b2)]))) (fun t k => XS.iloadN X2.here hx rfl (hb hby d1_15) rfl k) ?_
  obtain ⟨cl4, Ar4, q4, S4, M4, H4, G4⟩ := id V2
  obtain ⟨T4, h4, X4, e4, W4, st4⟩ := stI X2 hx hZ e2 Ar4 (j := (0 : Int32)) (inb_of S4 ⟨by decide, by decide⟩) (g := (mkF m 16 #[.val (.ref da), .val (.ref b2), .val (.int 0), .unset, .unset, .unset, .unset] [(.int 0), (.int 0), (.ref b2)])) rfl rfl (hb hby d1_16)
  have V4 : Arv Z h4 b2 k2 .int 2 [(.int 0), (.int 0)] (.int 0) := Arv.set Ar4 q4 S4 M4 H4 G4 rfl W4 0 rfl (Nat.le_of_ble_eq_true rfl)
  have N4 := Fr.snoc X4 N0 (Nat.le_trans Z0 (Nat.le_of_eq g2.symm))
  refine OD.go (B := (T4.setTop (mkF m 17 #[.val (.ref da), .val (.ref b2), .val (.int 0), .unset, .unset, .unset, .unset] []))) st4 ?_
  refine OD.go (B := (T4.setTop (mkF m 20 #[.val (.ref da), .val (.ref b2), .val (.int 1), .unset, .unset, .unset, .unset] []))) (fun t k => XS.iinc X4.here hx rfl (hb hby d1_17) rfl (l' := #[.val (.ref da), .val (.ref b2), .val (.int 1), .unset, .unset, .unset, .unset]) rfl k) ?_
  refine OD.go (B := (T4.setTop (mkF m 7 #[.val (.ref da), .val (.ref b2), .val (.int 1), .unset, .unset, .unset, .unset] []))) (fun t k => XS.goto X4.here hx rfl (pc0 := 20) (pc' := 7) rfl (hb hby d1_20) (by decide) (by decide) k) ?_
  refine OD.go (B := (T4.setTop (mkF m 8 #[.val (.ref da), .val (.ref b2), .val (.int 1), .unset, .unset, .unset, .unset] [(.int 1)]))) (fun t k => XS.iloadN X4.here hx rfl (hb hby d1_7) rfl k) ?_
  refine OD.go (B := (T4.setTop (mkF m 9 #[.val (.ref da), .val (.ref b2), .val (.int 1), .unset, .unset, .unset, .unset] [(.ref b2), (.int 1)]))) (fun t k => XS.aloadN X4.here hx rfl (hb hby d1_8) rfl rfl k) ?_
  obtain ⟨cl5, Ar5, hl5⟩ := own_len V4
  refine OD.go (B := (T4.setTop (mkF m 10 #[.val (.ref da), .val (.ref b2), .val (.int 1), .unset, .unset, .unset, .unset] [(.int 2), (.int 1)]))) (fun t k => X4.arraylength hx (by rw [e4]; exact Ar5.1) (State.isArrayOf_alike hZ.alike Ar5.2.1) (g := (mkF m 9 #[.val (.ref da), .val (.ref b2), .val (.int 1), .unset, .unset, .unset, .unset] [(.ref b2), (.int 1)])) rfl rfl (hb hby d1_9) _ (by rw [hl5]; exact k)) ?_
  refine OD.go (B := (T4.setTop (mkF m 13 #[.val (.ref da), .val (.ref b2), .val (.int 1), .unset, .unset, .unset, .unset] []))) (fun t k => XS.icmpNo X4.here hx rfl (hb hby d1_10) rfl (tlt (by decide : (1 : Int32) < (2 : Int32))).2.1 k) ?_
  refine OD.go (B := (T4.setTop (mkF m 14 #[.val (.ref da), .val (.ref b2), .val (.int 1), .unset, .unset, .unset, .unset] [(.ref b2)]))) (fun t k => XS.aloadN X4.here hx rfl (hb hby d1_13) rfl rfl k) ?_
  refine OD.go (B := (T4.setTop (mkF m 15 #[.val (.ref da), .val (.ref b2), .val (.int 1), .unset, .unset, .unset, .unset] [(.int 1), (.ref b2)]))) (fun t k => XS.iloadN X4.here hx rfl (hb hby d1_14) rfl k) ?_
  refine OD.go (B := (T4.setTop (mkF m 16 #[.val (.ref da), .val (.ref b2), .val (.int 1), .unset, .unset, .unset, .unset] [(.int 1), (.int 1), (.ref b2)]))) (fun t k => XS.iloadN X4.here hx rfl (hb hby d1_15) rfl k) ?_
  obtain ⟨cl6, Ar6, q6, S6, M6, H6, G6⟩ := id V4
  obtain ⟨T6, h6, X6, e6, W6, st6⟩ := stI X4 hx hZ e4 Ar6 (j := (1 : Int32)) (inb_of S6 ⟨by decide, by decide⟩) (g := (mkF m 16 #[.val (.ref da), .val (.ref b2), .val (.int 1), .unset, .unset, .unset, .unset] [(.int 1), (.int 1), (.ref b2)])) rfl rfl (hb hby d1_16)
  have V6 : Arv Z h6 b2 k2 .int 2 [(.int 0), (.int 1)] (.int 0) := Arv.set Ar6 q6 S6 M6 H6 G6 rfl W6 1 rfl (Nat.le_of_ble_eq_true rfl)
  have N6 := Fr.snoc X6 N4 (Nat.le_trans Z0 (Nat.le_of_eq g2.symm))
  refine OD.go (B := (T6.setTop (mkF m 17 #[.val (.ref da), .val (.ref b2), .val (.int 1), .unset, .unset, .unset, .unset] []))) st6 ?_
  refine OD.go (B := (T6.setTop (mkF m 20 #[.val (.ref da), .val (.ref b2), .val (.int 2), .unset, .unset, .unset, .unset] []))) (fun t k => XS.iinc X6.here hx rfl (hb hby d1_17) rfl (l' := #[.val (.ref da), .val (.ref b2), .val (.int 2), .unset, .unset, .unset, .unset]) rfl k) ?_
  refine OD.go (B := (T6.setTop (mkF m 7 #[.val (.ref da), .val (.ref b2), .val (.int 2), .unset, .unset, .unset, .unset] []))) (fun t k => XS.goto X6.here hx rfl (pc0 := 20) (pc' := 7) rfl (hb hby d1_20) (by decide) (by decide) k) ?_
  refine OD.go (B := (T6.setTop (mkF m 8 #[.val (.ref da), .val (.ref b2), .val (.int 2), .unset, .unset, .unset, .unset] [(.int 2)]))) (fun t k => XS.iloadN X6.here hx rfl (hb hby d1_7) rfl k) ?_
  refine OD.go (B := (T6.setTop (mkF m 9 #[.val (.ref da), .val (.ref b2), .val (.int 2), .unset, .unset, .unset, .unset] [(.ref b2), (.int 2)]))) (fun t k => XS.aloadN X6.here hx rfl (hb hby d1_8) rfl rfl k) ?_
  obtain ⟨cl7, Ar7, hl7⟩ := own_len V6
  refine OD.go (B := (T6.setTop (mkF m 10 #[.val (.ref da), .val (.ref b2), .val (.int 2), .unset, .unset, .unset, .unset] [(.int 2), (.int 2)]))) (fun t k => X6.arraylength hx (by rw [e6]; exact Ar7.1) (State.isArrayOf_alike hZ.alike Ar7.2.1) (g := (mkF m 9 #[.val (.ref da), .val (.ref b2), .val (.int 2), .unset, .unset, .unset, .unset] [(.ref b2), (.int 2)])) rfl rfl (hb hby d1_9) _ (by rw [hl7]; exact k)) ?_
  refine OD.go (B := (T6.setTop (mkF m 23 #[.val (.ref da), .val (.ref b2), .val (.int 2), .unset, .unset, .unset, .unset] []))) (fun t k => XS.icmpYes X6.here hx rfl (pc0 := 10) (pc' := 23) rfl (hb hby d1_10) rfl (flt (by decide : ¬ (2 : Int32) < (2 : Int32))).2.1 (by decide) (by decide) k) ?_
  refine OD.go (B := (T6.setTop (mkF m 24 #[.val (.ref da), .val (.ref b2), .val (.int 2), .unset, .unset, .unset, .unset] [(.ref b2)]))) (fun t k => XS.aloadN X6.here hx rfl (hb hby d1_23) rfl rfl k) ?_
  obtain ⟨cl8, Ar8, hl8⟩ := own_len V6
  refine OD.go (B := (T6.setTop (mkF m 25 #[.val (.ref da), .val (.ref b2), .val (.int 2), .unset, .unset, .unset, .unset] [(.int 2)]))) (fun t k => X6.arraylength hx (by rw [e6]; exact Ar8.1) (State.isArrayOf_alike hZ.alike Ar8.2.1) (g := (mkF m 24 #[.val (.ref da), .val (.ref b2), .val (.int 2), .unset, .unset, .unset, .unset] [(.ref b2)])) rfl rfl (hb hby d1_24) _ (by rw [hl8]; exact k)) ?_
  obtain ⟨T9, h9, k9, X9, e9, E9, A9, st9⟩ := newP X6 hx hZ (aty := .int) (Wd5 hw) e6 (g := (mkF m 25 #[.val (.ref da), .val (.ref b2), .val (.int 2), .unset, .unset, .unset, .unset] [(.int 2)])) rfl (hb hby d1_25) rfl (by decide) (cap := 2) (by decide) (by decide) (Nat.le_of_ble_eq_true rfl) (Nat.le_of_ble_eq_true rfl)
  obtain ⟨b9, g9⟩ : ∃ z, z = h6.size := ⟨_, rfl⟩
  rw [← g9] at A9 st9
  have V9 : Arv Z h9 b9 k9 .int 2 [(.int 0), (.int 0)] (.int 0) := (Arv.new A9 (by decide)).pad (pad_rep [] (.int 0) 2)
  refine OD.go (B := (T9.setTop (mkF m 27 #[.val (.ref da), .val (.ref b2), .val (.int 2), .unset, .unset, .unset, .unset] [(.ref b9)]))) st9 ?_
  refine OD.go (B := (T9.setTop (mkF m 28 #[.val (.ref da), .val (.ref b2), .val (.ref b9), .unset, .unset, .unset, .unset] []))) (fun t k => XS.astoreN X9.here hx rfl (hb hby d1_27) rfl rfl (l' := #[.val (.ref da), .val (.ref b2), .val (.ref b9), .unset, .unset, .unset, .unset]) rfl k) ?_
  refine OD.go (B := (T9.setTop (mkF m 29 #[.val (.ref da), .val (.ref b2), .val (.ref b9), .unset, .unset, .unset, .unset] [(.int 1)]))) (fun t k => XS.iconst X9.here hx rfl (hb hby d1_28) k) ?_
  refine OD.go (B := (T9.setTop (mkF m 30 #[.val (.ref da), .val (.ref b2), .val (.ref b9), .val (.int 1), .unset, .unset, .unset] []))) (fun t k => XS.istoreN X9.here hx rfl (hb hby d1_29) rfl (l' := #[.val (.ref da), .val (.ref b2), .val (.ref b9), .val (.int 1), .unset, .unset, .unset]) rfl k) ?_
  refine OD.go (B := (T9.setTop (mkF m 31 #[.val (.ref da), .val (.ref b2), .val (.ref b9), .val (.int 1), .unset, .unset, .unset] [(.int 1)]))) (fun t k => XS.iloadN X9.here hx rfl (hb hby d1_30) rfl k) ?_
  refine OD.go (B := (T9.setTop (mkF m 32 #[.val (.ref da), .val (.ref b2), .val (.ref b9), .val (.int 1), .unset, .unset, .unset] [(.ref b2), (.int 1)]))) (fun t k => XS.aloadN X9.here hx rfl (hb hby d1_31) rfl rfl k) ?_
  have f10 := (V6.ext E9)
  obtain ⟨cl11, Ar11, hl11⟩ := own_len f10
  refine OD.go (B := (T9.setTop (mkF m 33 #[.val (.ref da), .val (.ref b2), .val (.ref b9), .val (.int 1), .unset, .unset, .unset] [(.int 2), (.int 1)]))) (fun t k => X9.arraylength hx (by rw [e9]; exact Ar11.1) (State.isArrayOf_alike hZ.alike Ar11.2.1) (g := (mkF m 32 #[.val (.ref da), .val (.ref b2), .val (.ref b9), .val (.int 1), .unset, .unset, .unset] [(.ref b2), (.int 1)])) rfl rfl (hb hby d1_32) _ (by rw [hl11]; exact k)) ?_
  refine OD.go (B := (T9.setTop (mkF m 36 #[.val (.ref da), .val (.ref b2), .val (.ref b9), .val (.int 1), .unset, .unset, .unset] []))) (fun t k => XS.icmpNo X9.here hx rfl (hb hby d1_33) rfl (tlt (by decide : (1 : Int32) < (2 : Int32))).2.1 k) ?_
  refine OD.go (B := (T9.setTop (mkF m 37 #[.val (.ref da), .val (.ref b2), .val (.ref b9), .val (.int 1), .unset, .unset, .unset] [(.int 0)]))) (fun t k => XS.iconst X9.here hx rfl (hb hby d1_36) k) ?_
  refine OD.go (B := (T9.setTop (mkF m 39 #[.val (.ref da), .val (.ref b2), .val (.ref b9), .val (.int 1), .val (.int 0), .unset, .unset] []))) (fun t k => XS.istore X9.here hx rfl (hb hby d1_37) rfl (l' := #[.val (.ref da), .val (.ref b2), .val (.ref b9), .val (.int 1), .val (.int 0), .unset, .unset]) rfl k) ?_
  refine OD.go (B := (T9.setTop (mkF m 41 #[.val (.ref da), .val (.ref b2), .val (.ref b9), .val (.int 1), .val (.int 0), .unset, .unset] [(.int 0)]))) (fun t k => XS.iload X9.here hx rfl (hb hby d1_39) rfl k) ?_
  refine OD.go (B := (T9.setTop (mkF m 42 #[.val (.ref da), .val (.ref b2), .val (.ref b9), .val (.int 1), .val (.int 0), .unset, .unset] [(.ref b2), (.int 0)]))) (fun t k => XS.aloadN X9.here hx rfl (hb hby d1_41) rfl rfl k) ?_
  obtain ⟨cl12, Ar12, hl12⟩ := own_len f10
  refine OD.go (B := (T9.setTop (mkF m 43 #[.val (.ref da), .val (.ref b2), .val (.ref b9), .val (.int 1), .val (.int 0), .unset, .unset] [(.int 2), (.int 0)]))) (fun t k => X9.arraylength hx (by rw [e9]; exact Ar12.1) (State.isArrayOf_alike hZ.alike Ar12.2.1) (g := (mkF m 42 #[.val (.ref da), .val (.ref b2), .val (.ref b9), .val (.int 1), .val (.int 0), .unset, .unset] [(.ref b2), (.int 0)])) rfl rfl (hb hby d1_42) _ (by rw [hl12]; exact k)) ?_
  refine OD.go (B := (T9.setTop (mkF m 46 #[.val (.ref da), .val (.ref b2), .val (.ref b9), .val (.int 1), .val (.int 0), .unset, .unset] []))) (fun t k => XS.icmpNo X9.here hx rfl (hb hby d1_43) rfl (tlt (by decide : (0 : Int32) < (2 : Int32))).2.1 k) ?_
  refine OD.go (B := (T9.setTop (mkF m 48 #[.val (.ref da), .val (.ref b2), .val (.ref b9), .val (.int 1), .val (.int 0), .unset, .unset] [(.int 0)]))) (fun t k => XS.iload X9.here hx rfl (hb hby d1_46) rfl k) ?_
  refine OD.go (B := (T9.setTop (mkF m 49 #[.val (.ref da), .val (.ref b2), .val (.ref b9), .val (.int 1), .val (.int 0), .unset, .unset] [(.int 1), (.int 0)]))) (fun t k => XS.iloadN X9.here hx rfl (hb hby d1_48) rfl k) ?_
  refine OD.go (B := (T9.setTop (mkF m 50 #[.val (.ref da), .val (.ref b2), .val (.ref b9), .val (.int 1), .val (.int 0), .unset, .unset] [(.int 1)]))) (fun t k => XS.iadd X9.here hx rfl (hb hby d1_49) rfl k) ?_
  refine OD.go (B := (T9.setTop (mkF m 51 #[.val (.ref da), .val (.ref b2), .val (.ref b9), .val (.int 1), .val (.int 0), .unset, .unset] [(.ref b2), (.int 1)]))) (fun t k => XS.aloadN X9.here hx rfl (hb hby d1_50) rfl rfl k) ?_
  obtain ⟨cl13, Ar13, hl13⟩ := own_len f10
  refine OD.go (B := (T9.setTop (mkF m 52 #[.val (.ref da), .val (.ref b2), .val (.ref b9), .val (.int 1), .val (.int 0), .unset, .unset] [(.int 2), (.int 1)]))) (fun t k => X9.arraylength hx (by rw [e9]; exact Ar13.1) (State.isArrayOf_alike hZ.alike Ar13.2.1) (g := (mkF m 51 #[.val (.ref da), .val (.ref b2), .val (.ref b9), .val (.int 1), .val (.int 0), .unset, .unset] [(.ref b2), (.int 1)])) rfl rfl (hb hby d1_51) _ (by rw [hl13]; exact k)) ?_
  obtain ⟨_, _, ⟨T14, L14, k14, n14⟩, -, X14, ⟨Lc14, hQ14, l14, y14, z14⟩, st14⟩ := Jvm.LawKit.callS X9 hx (y := (⟨"java/lang/Math", "min", "(II)I"⟩ : MethodName)) hown (mvT hZ (Wd13 hw)) (mvT hZ (Wd14 hw)) (mvT hZ (Wd15 hw)) (mvT hZ (Wd16 hw)) (by decide) (backOf (W := 0) (rmMn1_2 l Z a0 hw [] h9) hZ (Wd16 hw) (Wd15 hw) (by decide) (by decide)) (g := (mkF m 52 #[.val (.ref da), .val (.ref b2), .val (.ref b9), .val (.int 1), .val (.int 0), .unset, .unset] [(.int 2), (.int 1)])) rfl (by rw [hml]; rfl) (argsL := [(.int 1), (.int 2)]) (rest := []) (lenOf pd0 rfl) rfl (by show 2 * 0 + _ ≤ _; exact Nat.le_of_eq rfl) (hb hby d1_52) (fun _ _ => ⟨rfl, e9, (Nat.le_of_ble_eq_true rfl), (Nat.le_of_ble_eq_true rfl)⟩)
  dsimp only [Pt.U, Pt.locs, Pt.cells, Pt.slots] at X14 l14 y14 z14 st14 hQ14
  subst l14 y14 z14
  obtain ⟨rfl, rfl, e14⟩ := hQ14
  try rw [List.append_nil] at X14
  refine OD.go (B := (T14.setTop (mkF m 55 #[.val (.ref da), .val (.ref b2), .val (.ref b9), .val (.int 1), .val (.int 0), .unset, .unset] [(.int 1)]))) st14 ?_
  refine OD.go (B := (T14.setTop (mkF m 57 #[.val (.ref da), .val (.ref b2), .val (.ref b9), .val (.int 1), .val (.int 0), .val (.int 1), .unset] []))) (fun t k => XS.istore X14.here hx rfl (hb hby d1_55) rfl (l' := #[.val (.ref da), .val (.ref b2), .val (.ref b9), .val (.int 1), .val (.int 0), .val (.int 1), .unset]) rfl k) ?_
  refine OD.go (B := (T14.setTop (mkF m 59 #[.val (.ref da), .val (.ref b2), .val (.ref b9), .val (.int 1), .val (.int 0), .val (.int 1), .unset] [(.int 0)]))) (fun t k => XS.iload X14.here hx rfl (hb hby d1_57) rfl k) ?_
  refine OD.go (B := (T14.setTop (mkF m 60 #[.val (.ref da), .val (.ref b2), .val (.ref b9), .val (.int 1), .val (.int 0), .val (.int 1), .unset] [(.int 2), (.int 0)]))) (fun t k => XS.iconst X14.here hx rfl (hb hby d1_59) k) ?_
  refine OD.go (B := (T14.setTop (mkF m 61 #[.val (.ref da), .val (.ref b2), .val (.ref b9), .val (.int 1), .val (.int 0), .val (.int 1), .unset] [(.int 1), (.int 2), (.int 0)]))) (fun t k => XS.iloadN X14.here hx rfl (hb hby d1_60) rfl k) ?_
  refine OD.go (B := (T14.setTop (mkF m 62 #[.val (.ref da), .val (.ref b2), .val (.ref b9), .val (.int 1), .val (.int 0), .val (.int 1), .unset] [(.int 2), (.int 0)]))) (fun t k => XS.imul X14.here hx rfl (hb hby d1_61) rfl k) ?_
  refine OD.go (B := (T14.setTop (mkF m 63 #[.val (.ref da), .val (.ref b2), .val (.ref b9), .val (.int 1), .val (.int 0), .val (.int 1), .unset] [(.int 2)]))) (fun t k => XS.iadd X14.here hx rfl (hb hby d1_62) rfl k) ?_
  refine OD.go (B := (T14.setTop (mkF m 64 #[.val (.ref da), .val (.ref b2), .val (.ref b9), .val (.int 1), .val (.int 0), .val (.int 1), .unset] [(.ref b2), (.int 2)]))) (fun t k => XS.aloadN X14.here hx rfl (hb hby d1_63) rfl rfl k) ?_
  obtain ⟨cl15, Ar15, hl15⟩ := own_len f10
  refine OD.go (B := (T14.setTop (mkF m 65 #[.val (.ref da), .val (.ref b2), .val (.ref b9), .val (.int 1), .val (.int 0), .val (.int 1), .unset] [(.int 2), (.int 2)]))) (fun t k => X14.arraylength hx (by rw [e14]; exact Ar15.1) (State.isArrayOf_alike hZ.alike Ar15.2.1) (g := (mkF m 64 #[.val (.ref da), .val (.ref b2), .val (.ref b9), .val (.int 1), .val (.int 0), .val (.int 1), .unset] [(.ref b2), (.int 2)])) rfl rfl (hb hby d1_64) _ (by rw [hl15]; exact k)) ?_
  obtain ⟨_, _, ⟨T16, L16, k16, n16⟩, -, X16, ⟨Lc16, hQ16, l16, y16, z16⟩, st16⟩ := Jvm.LawKit.callS X14 hx (y := (⟨"java/lang/Math", "min", "(II)I"⟩ : MethodName)) hown (mvT hZ (Wd13 hw)) (mvT hZ (Wd14 hw)) (mvT hZ (Wd15 hw)) (mvT hZ (Wd16 hw)) (by decide) (backOf (W := 0) (rmMn2_2 l Z a0 hw [] h9) hZ (Wd16 hw) (Wd15 hw) (by decide) (by decide)) (g := (mkF m 65 #[.val (.ref da), .val (.ref b2), .val (.ref b9), .val (.int 1), .val (.int 0), .val (.int 1), .unset] [(.int 2), (.int 2)])) rfl (by rw [hml]; rfl) (argsL := [(.int 2), (.int 2)]) (rest := []) (lenOf pd0 rfl) rfl (by show 2 * 0 + _ ≤ _; exact Nat.le_of_eq rfl) (hb hby d1_65) (fun _ _ => ⟨rfl, e14, (Nat.le_of_ble_eq_true rfl), (Nat.le_of_ble_eq_true rfl)⟩)
  dsimp only [Pt.U, Pt.locs, Pt.cells, Pt.slots] at X16 l16 y16 z16 st16 hQ16
  subst l16 y16 z16
  obtain ⟨rfl, rfl, e16⟩ := hQ16
  try rw [List.append_nil] at X16
  refine OD.go (B := (T16.setTop (mkF m 68 #[.val (.ref da), .val (.ref b2), .val (.ref b9), .val (.int 1), .val (.int 0), .val (.int 1), .unset] [(.int 2)]))) st16 ?_
  refine OD.go (B := (T16.setTop (mkF m 70 #[.val (.ref da), .val (.ref b2), .val (.ref b9), .val (.int 1), .val (.int 0), .val (.int 1), .val (.int 2)] []))) (fun t k => XS.istore X16.here hx rfl (hb hby d1_68) rfl (l' := #[.val (.ref da), .val (.ref b2), .val (.ref b9), .val (.int 1), .val (.int 0), .val (.int 1), .val (.int 2)]) rfl k) ?_
  refine OD.go (B := (T16.setTop (mkF m 71 #[.val (.ref da), .val (.ref b2), .val (.ref b9), .val (.int 1), .val (.int 0), .val (.int 1), .val (.int 2)] [(.ref da)]))) (fun t k => XS.aloadN X16.here hx rfl (hb hby d1_70) rfl rfl k) ?_
  refine OD.go (B := (T16.setTop (mkF m 72 #[.val (.ref da), .val (.ref b2), .val (.ref b9), .val (.int 1), .val (.int 0), .val (.int 1), .val (.int 2)] [(.ref b2), (.ref da)]))) (fun t k => XS.aloadN X16.here hx rfl (hb hby d1_71) rfl rfl k) ?_
  refine OD.go (B := (T16.setTop (mkF m 73 #[.val (.ref da), .val (.ref b2), .val (.ref b9), .val (.int 1), .val (.int 0), .val (.int 1), .val (.int 2)] [(.ref b9), (.ref b2), (.ref da)]))) (fun t k => XS.aloadN X16.here hx rfl (hb hby d1_72) rfl rfl k) ?_
  refine OD.go (B := (T16.setTop (mkF m 75 #[.val (.ref da), .val (.ref b2), .val (.ref b9), .val (.int 1), .val (.int 0), .val (.int 1), .val (.int 2)] [(.int 0), (.ref b9), (.ref b2), (.ref da)]))) (fun t k => XS.iload X16.here hx rfl (hb hby d1_73) rfl k) ?_
  refine OD.go (B := (T16.setTop (mkF m 77 #[.val (.ref da), .val (.ref b2), .val (.ref b9), .val (.int 1), .val (.int 0), .val (.int 1), .val (.int 2)] [(.int 1), (.int 0), (.ref b9), (.ref b2), (.ref da)]))) (fun t k => XS.iload X16.here hx rfl (hb hby d1_75) rfl k) ?_
  refine OD.go (B := (T16.setTop (mkF m 79 #[.val (.ref da), .val (.ref b2), .val (.ref b9), .val (.int 1), .val (.int 0), .val (.int 1), .val (.int 2)] [(.int 2), (.int 1), (.int 0), (.ref b9), (.ref b2), (.ref da)]))) (fun t k => XS.iload X16.here hx rfl (hb hby d1_77) rfl k) ?_
  have Vf17 : Arv Z h9 b2 k2 .int 2 (own_rg (2 : Int32).toNatClampNeg (fun x => .int (own_id x))) (.int 0) := f10
  have Vf18 : Arv Z h9 b9 k9 .int 2 (own_rg (2 : Int32).toNatClampNeg (fun x => .int (own_zero x))) (.int 0) := V9
  have f19 := ((((D1.ext E2).other W4 (Nat.ne_of_lt (Nat.lt_of_lt_of_le D1.lt (Nat.le_of_eq g2.symm)))).other W6 (Nat.ne_of_lt (Nat.lt_of_lt_of_le D1.lt (Nat.le_of_eq g2.symm)))).ext E9)
  obtain ⟨_, _, ⟨T20, L20, k20, n20⟩, -, X20, ⟨Lc20, hQ20, l20, y20, z20⟩, st20⟩ := Jvm.LawKit.callS X16 hx (y := (⟨"com/example/topside/topside/DescendingOrder", "merge", "([D[I[IIII)V"⟩ : MethodName)) hown (mvT hZ (Wd17 hw)) (mvT hZ (Wd18 hw)) (mvT hZ (Wd3 hw)) (mvT hZ (Wd19 hw)) (by decide) (backOf (W := 0) (rmM l Z a0 hw [] da b2 b9 (0 : Int32) (1 : Int32) (2 : Int32) h9 n0 (Nat.le_trans (Nat.le_trans (Nat.le_trans (Nat.le_trans Z0 E2.1) (Keep.of_wr W4).1) (Keep.of_wr W6).1) E9.1) k0 k2 k9 (2 : Int32) sv own_id own_zero f19 Vf17 Vf18 (Nat.ne_of_lt (Nat.lt_of_lt_of_le (Nat.lt_of_lt_of_le (Nat.lt_of_lt_of_le (Nat.lt_of_lt_of_le D1.lt E2.1) (Keep.of_wr W4).1) (Keep.of_wr W6).1) (Nat.le_of_eq g9.symm))) (Nat.ne_of_lt (Nat.lt_of_lt_of_le (Nat.lt_of_lt_of_le (Nat.lt_of_lt_of_le V2.lt (Keep.of_wr W4).1) (Keep.of_wr W6).1) (Nat.le_of_eq g9.symm))) (Nat.le_trans (Nat.le_trans (Nat.le_trans (Nat.le_trans Z0 E2.1) (Keep.of_wr W4).1) (Keep.of_wr W6).1) (Nat.le_of_eq g9.symm)) (by decide) (by decide) (by decide) (by decide) (own_idB _)) hZ (Wd19 hw) (Wd3 hw) (by decide) (by decide)) (g := (mkF m 79 #[.val (.ref da), .val (.ref b2), .val (.ref b9), .val (.int 1), .val (.int 0), .val (.int 1), .val (.int 2)] [(.int 2), (.int 1), (.int 0), (.ref b9), (.ref b2), (.ref da)])) rfl (by rw [hml]; rfl) (argsL := [(.ref da), (.ref b2), (.ref b9), (.int 0), (.int 1), (.int 2)]) (rest := []) (lenOf pd1 rfl) rfl (by show 2 * 0 + _ ≤ _; exact Nat.le_of_eq rfl) (hb hby d1_79) (fun _ _ => ⟨rfl, e16, (Nat.le_of_ble_eq_true rfl), (Nat.le_of_ble_eq_true rfl)⟩)
  dsimp only [Pt.U, Pt.locs, Pt.cells, Pt.slots] at X20 l20 y20 z20 st20 hQ20
  subst l20 y20 z20
  obtain ⟨rfl, Nq20, K20, A20⟩ := hQ20
  have N20 := Fr.app N6 Nq20
  have B20 : Arv Z T20.heap b9 k9 .int 2 (own_rg (2 : Int32).toNatClampNeg (fun x => .int ((own_m2_0 sv) x))) (.int 0) := A20
  refine OD.go (B := (T20.setTop (mkF m 82 #[.val (.ref da), .val (.ref b2), .val (.ref b9), .val (.int 1), .val (.int 0), .val (.int 1), .val (.int 2)] []))) st20 ?_
  refine OD.go (B := (T20.setTop (mkF m 84 #[.val (.ref da), .val (.ref b2), .val (.ref b9), .val (.int 1), .val (.int 0), .val (.int 1), .val (.int 2)] [(.int 0)]))) (fun t k => XS.iload X20.here hx rfl (hb hby d1_82) rfl k) ?_
  refine OD.go (B := (T20.setTop (mkF m 85 #[.val (.ref da), .val (.ref b2), .val (.ref b9), .val (.int 1), .val (.int 0), .val (.int 1), .val (.int 2)] [(.int 2), (.int 0)]))) (fun t k => XS.iconst X20.here hx rfl (hb hby d1_84) k) ?_
  refine OD.go (B := (T20.setTop (mkF m 86 #[.val (.ref da), .val (.ref b2), .val (.ref b9), .val (.int 1), .val (.int 0), .val (.int 1), .val (.int 2)] [(.int 1), (.int 2), (.int 0)]))) (fun t k => XS.iloadN X20.here hx rfl (hb hby d1_85) rfl k) ?_
  refine OD.go (B := (T20.setTop (mkF m 87 #[.val (.ref da), .val (.ref b2), .val (.ref b9), .val (.int 1), .val (.int 0), .val (.int 1), .val (.int 2)] [(.int 2), (.int 0)]))) (fun t k => XS.imul X20.here hx rfl (hb hby d1_86) rfl k) ?_
  refine OD.go (B := (T20.setTop (mkF m 88 #[.val (.ref da), .val (.ref b2), .val (.ref b9), .val (.int 1), .val (.int 0), .val (.int 1), .val (.int 2)] [(.int 2)]))) (fun t k => XS.iadd X20.here hx rfl (hb hby d1_87) rfl k) ?_
  refine OD.go (B := (T20.setTop (mkF m 90 #[.val (.ref da), .val (.ref b2), .val (.ref b9), .val (.int 1), .val (.int 2), .val (.int 1), .val (.int 2)] []))) (fun t k => XS.istore X20.here hx rfl (hb hby d1_88) rfl (l' := #[.val (.ref da), .val (.ref b2), .val (.ref b9), .val (.int 1), .val (.int 2), .val (.int 1), .val (.int 2)]) rfl k) ?_
  refine OD.go (B := (T20.setTop (mkF m 39 #[.val (.ref da), .val (.ref b2), .val (.ref b9), .val (.int 1), .val (.int 2), .val (.int 1), .val (.int 2)] []))) (fun t k => XS.goto X20.here hx rfl (pc0 := 90) (pc' := 39) rfl (hb hby d1_90) (by decide) (by decide) k) ?_
  refine OD.go (B := (T20.setTop (mkF m 41 #[.val (.ref da), .val (.ref b2), .val (.ref b9), .val (.int 1), .val (.int 2), .val (.int 1), .val (.int 2)] [(.int 2)]))) (fun t k => XS.iload X20.here hx rfl (hb hby d1_39) rfl k) ?_
  refine OD.go (B := (T20.setTop (mkF m 42 #[.val (.ref da), .val (.ref b2), .val (.ref b9), .val (.int 1), .val (.int 2), .val (.int 1), .val (.int 2)] [(.ref b2), (.int 2)]))) (fun t k => XS.aloadN X20.here hx rfl (hb hby d1_41) rfl rfl k) ?_
  have f21 := (Vf17.keep K20 (ninS (Nat.ne_of_lt (Nat.lt_of_lt_of_le (Nat.lt_of_lt_of_le (Nat.lt_of_lt_of_le V2.lt (Keep.of_wr W4).1) (Keep.of_wr W6).1) (Nat.le_of_eq g9.symm))) nin0))
  obtain ⟨cl22, Ar22, hl22⟩ := own_len f21
  refine OD.go (B := (T20.setTop (mkF m 43 #[.val (.ref da), .val (.ref b2), .val (.ref b9), .val (.int 1), .val (.int 2), .val (.int 1), .val (.int 2)] [(.int 2), (.int 2)]))) (fun t k => X20.arraylength hx (by exact Ar22.1) (State.isArrayOf_alike hZ.alike Ar22.2.1) (g := (mkF m 42 #[.val (.ref da), .val (.ref b2), .val (.ref b9), .val (.int 1), .val (.int 2), .val (.int 1), .val (.int 2)] [(.ref b2), (.int 2)])) rfl rfl (hb hby d1_42) _ (by rw [hl22]; exact k)) ?_
  refine OD.go (B := (T20.setTop (mkF m 93 #[.val (.ref da), .val (.ref b2), .val (.ref b9), .val (.int 1), .val (.int 2), .val (.int 1), .val (.int 2)] []))) (fun t k => XS.icmpYes X20.here hx rfl (pc0 := 43) (pc' := 93) rfl (hb hby d1_43) rfl (flt (by decide : ¬ (2 : Int32) < (2 : Int32))).2.1 (by decide) (by decide) k) ?_
  refine OD.go (B := (T20.setTop (mkF m 94 #[.val (.ref da), .val (.ref b2), .val (.ref b9), .val (.int 1), .val (.int 2), .val (.int 1), .val (.int 2)] [(.ref b2)]))) (fun t k => XS.aloadN X20.here hx rfl (hb hby d1_93) rfl rfl k) ?_
  refine OD.go (B := (T20.setTop (mkF m 96 #[.val (.ref da), .val (.ref b2), .val (.ref b9), .val (.int 1), .val (.ref b2), .val (.int 1), .val (.int 2)] []))) (fun t k => XS.astore X20.here hx rfl (hb hby d1_94) rfl rfl (l' := #[.val (.ref da), .val (.ref b2), .val (.ref b9), .val (.int 1), .val (.ref b2), .val (.int 1), .val (.int 2)]) rfl k) ?_
  refine OD.go (B := (T20.setTop (mkF m 97 #[.val (.ref da), .val (.ref b2), .val (.ref b9), .val (.int 1), .val (.ref b2), .val (.int 1), .val (.int 2)] [(.ref b9)]))) (fun t k => XS.aloadN X20.here hx rfl (hb hby d1_96) rfl rfl k) ?_
  refine OD.go (B := (T20.setTop (mkF m 98 #[.val (.ref da), .val (.ref b9), .val (.ref b9), .val (.int 1), .val (.ref b2), .val (.int 1), .val (.int 2)] []))) (fun t k => XS.astoreN X20.here hx rfl (hb hby d1_97) rfl rfl (l' := #[.val (.ref da), .val (.ref b9), .val (.ref b9), .val (.int 1), .val (.ref b2), .val (.int 1), .val (.int 2)]) rfl k) ?_
  refine OD.go (B := (T20.setTop (mkF m 100 #[.val (.ref da), .val (.ref b9), .val (.ref b9), .val (.int 1), .val (.ref b2), .val (.int 1), .val (.int 2)] [(.ref b2)]))) (fun t k => XS.aload X20.here hx rfl (hb hby d1_98) rfl rfl k) ?_
  refine OD.go (B := (T20.setTop (mkF m 101 #[.val (.ref da), .val (.ref b9), .val (.ref b2), .val (.int 1), .val (.ref b2), .val (.int 1), .val (.int 2)] []))) (fun t k => XS.astoreN X20.here hx rfl (hb hby d1_100) rfl rfl (l' := #[.val (.ref da), .val (.ref b9), .val (.ref b2), .val (.int 1), .val (.ref b2), .val (.int 1), .val (.int 2)]) rfl k) ?_
  refine OD.go (B := (T20.setTop (mkF m 102 #[.val (.ref da), .val (.ref b9), .val (.ref b2), .val (.int 1), .val (.ref b2), .val (.int 1), .val (.int 2)] [(.int 1)]))) (fun t k => XS.iloadN X20.here hx rfl (hb hby d1_101) rfl k) ?_
  refine OD.go (B := (T20.setTop (mkF m 103 #[.val (.ref da), .val (.ref b9), .val (.ref b2), .val (.int 1), .val (.ref b2), .val (.int 1), .val (.int 2)] [(.int 2), (.int 1)]))) (fun t k => XS.iconst X20.here hx rfl (hb hby d1_102) k) ?_
  refine OD.go (B := (T20.setTop (mkF m 104 #[.val (.ref da), .val (.ref b9), .val (.ref b2), .val (.int 1), .val (.ref b2), .val (.int 1), .val (.int 2)] [(.int 2)]))) (fun t k => XS.imul X20.here hx rfl (hb hby d1_103) rfl k) ?_
  refine OD.go (B := (T20.setTop (mkF m 105 #[.val (.ref da), .val (.ref b9), .val (.ref b2), .val (.int 2), .val (.ref b2), .val (.int 1), .val (.int 2)] []))) (fun t k => XS.istoreN X20.here hx rfl (hb hby d1_104) rfl (l' := #[.val (.ref da), .val (.ref b9), .val (.ref b2), .val (.int 2), .val (.ref b2), .val (.int 1), .val (.int 2)]) rfl k) ?_
  refine OD.go (B := (T20.setTop (mkF m 30 #[.val (.ref da), .val (.ref b9), .val (.ref b2), .val (.int 2), .val (.ref b2), .val (.int 1), .val (.int 2)] []))) (fun t k => XS.goto X20.here hx rfl (pc0 := 105) (pc' := 30) rfl (hb hby d1_105) (by decide) (by decide) k) ?_
  refine OD.go (B := (T20.setTop (mkF m 31 #[.val (.ref da), .val (.ref b9), .val (.ref b2), .val (.int 2), .val (.ref b2), .val (.int 1), .val (.int 2)] [(.int 2)]))) (fun t k => XS.iloadN X20.here hx rfl (hb hby d1_30) rfl k) ?_
  refine OD.go (B := (T20.setTop (mkF m 32 #[.val (.ref da), .val (.ref b9), .val (.ref b2), .val (.int 2), .val (.ref b2), .val (.int 1), .val (.int 2)] [(.ref b9), (.int 2)]))) (fun t k => XS.aloadN X20.here hx rfl (hb hby d1_31) rfl rfl k) ?_
  obtain ⟨cl23, Ar23, hl23⟩ := own_len B20
  refine OD.go (B := (T20.setTop (mkF m 33 #[.val (.ref da), .val (.ref b9), .val (.ref b2), .val (.int 2), .val (.ref b2), .val (.int 1), .val (.int 2)] [(.int 2), (.int 2)]))) (fun t k => X20.arraylength hx (by exact Ar23.1) (State.isArrayOf_alike hZ.alike Ar23.2.1) (g := (mkF m 32 #[.val (.ref da), .val (.ref b9), .val (.ref b2), .val (.int 2), .val (.ref b2), .val (.int 1), .val (.int 2)] [(.ref b9), (.int 2)])) rfl rfl (hb hby d1_32) _ (by rw [hl23]; exact k)) ?_
  refine OD.go (B := (T20.setTop (mkF m 108 #[.val (.ref da), .val (.ref b9), .val (.ref b2), .val (.int 2), .val (.ref b2), .val (.int 1), .val (.int 2)] []))) (fun t k => XS.icmpYes X20.here hx rfl (pc0 := 33) (pc' := 108) rfl (hb hby d1_33) rfl (flt (by decide : ¬ (2 : Int32) < (2 : Int32))).2.1 (by decide) (by decide) k) ?_
  refine OD.go (B := (T20.setTop (mkF m 109 #[.val (.ref da), .val (.ref b9), .val (.ref b2), .val (.int 2), .val (.ref b2), .val (.int 1), .val (.int 2)] [(.ref b9)]))) (fun t k => XS.aloadN X20.here hx rfl (hb hby d1_108) rfl rfl k) ?_
  exact OD.ret X20 hx hlk (t := (.array .int)) Bd.returns rfl (Or.inr (Or.inr (Or.inr (Or.inr ⟨rfl, rfl, rfl⟩)))) (hb hby d1_109) (Nat.le_of_ble_eq_true rfl) (Nat.le_of_ble_eq_true rfl) ⟨_, _, rfl, N20, by exact ((((((Keep.refl h0 []).ext E2).wr W4 (Or.inr (Nat.le_trans (Nat.le_refl _) (Nat.le_of_eq g2.symm)))).wr W6 (Or.inr (Nat.le_trans (Nat.le_refl _) (Nat.le_of_eq g2.symm)))).ext E9).trans K20 (allS (Or.inr (Nat.le_trans (Nat.le_trans (Nat.le_trans (Nat.le_trans (Nat.le_refl _) E2.1) (Keep.of_wr W4).1) (Keep.of_wr W6).1) (Nat.le_of_eq g9.symm))) all0)), (Nat.le_trans (Nat.le_trans (Nat.le_trans (Nat.le_trans (Nat.le_refl _) E2.1) (Keep.of_wr W4).1) (Keep.of_wr W6).1) (Nat.le_of_eq g9.symm)), by exact B20⟩
def Q_rmO3 (Z : State) (da : Addr) (h0 : Heap) (n0 : Nat) (sv : Int32 → UInt64) (v : Option Value) (h : Heap) (L : List Loc) : Prop := ∃ (b : Addr) (k : ClassId), v = some (.ref b) ∧ Fr n0 L ∧ Keep h0 h [] ∧ h0.size ≤ b ∧ Arv Z h b k .int 3 (own_rg (3 : Int32).toNatClampNeg (fun x => .int ((own_m3_2 sv) x))) (.int 0)
set_option maxRecDepth 65536 in
set_option maxHeartbeats 40000000 in
theorem rmO3 (l : Launch) (Z : State) (a0 : Array Value) (hw : ∀ d ∈ tables_1, d.before a0 Z = true) (ws : List Jvm.Cond) (da : Addr) (h0 : Heap) (n0 : Nat) (Z0 : n0 ≤ h0.size) (k0 : ClassId) (sv : Int32 → UInt64) (D1 : Arv Z h0 da k0 .double (3 : Int32) (own_rg (3 : Int32).toNatClampNeg (fun x => .double (sv x))) (.double 0)) :
    MetFree l (⟨"com/example/topside/topside/DescendingOrder", "of", "([D)[I"⟩ : MethodName) (head1 (Jvm.Cond.code (⟨"com/example/topside/topside/DescendingOrder", "of", "([D)[I"⟩ : MethodName) prog_5_method_2_code 7 (some (.array .int)) :: ws) ({ frames := 1, cells := 2, slots := 12, locals := 24 } : Room)) (fun a U => a = #[(.ref da)] ∧ Z.Warmed39 U.vm ∧ U.heap = h0) (fun _ _ _ _ _ => True) (fun _ U o U' => ∃ v L, o = .returned v ∧ Q_rmO3 Z da h0 n0 sv v U'.heap L ∧ FrameEnd U o U' L ({ frames := 1, cells := 2, slots := 12, locals := 24 } : Room).cells ({ frames := 1, cells := 2, slots := 12, locals := 24 } : Room).slots) := by
  refine MetFree.of_bodySF (plainFor_of_name pn0) hisR ?_
  intro p e s m args below meth c s₁ Bd hml0 hP hK
  obtain ⟨rfl, hZ, hh⟩ := hP
  have hx := Bd.exec
  have hby := Bd.bytes
  have hlk : meth.locks = false := Bd.notSynchronized
  have hml : c.maxLocals = 7 := hml0
  have hown : s.vm.findClass "com/example/topside/topside/DescendingOrder" = some m.cls := findClass_of_methodNamed Bd.named
  have hnm := (name_of_methodNamed Bd.named Bd.method).1
  have X0 : Stand p l e ({ frames := 1, cells := 2, slots := 12, locals := 24 } : Room) s m #[(.ref da)] below meth c s₁ [] 0 0 := Stand.of_body Bd
  have e0 : s₁.heap = h0 := by rw [← hh, Bd.state]; rfl
  have N0 := Fr.nil n0
  suffices hgo : OD p e s below (Q_rmO3 Z da h0 n0 sv) ({ frames := 1, cells := 2, slots := 12, locals := 24 } : Room).cells ({ frames := 1, cells := 2, slots := 12, locals := 24 } : Room).slots (s₁.setTop (mkF m 0 #[.val (.ref da), .unset, .unset, .unset, .unset, .unset, .unset] [])) by
    obtain ⟨s₂, o, hgo1, hgo2⟩ := hgo
    exact ⟨s₂, o, castTop (ef2 m da) hgo1, hgo2⟩
  refine OD.go (B := (s₁.setTop (mkF m 1 #[.val (.ref da), .unset, .unset, .unset, .unset, .unset, .unset] [(.ref da)]))) (fun t k => XS.aloadN X0.here hx rfl (hb hby d1_0) rfl rfl k) ?_
  obtain ⟨cl1, Ar1, hl1⟩ := own_len D1
  refine OD.go (B := (s₁.setTop (mkF m 2 #[.val (.ref da), .unset, .unset, .unset, .unset, .unset, .unset] [(.int 3)]))) (fun t k => X0.arraylength hx (by rw [e0]; exact Ar1.1) (State.isArrayOf_alike hZ.alike Ar1.2.1) (g := (mkF m 1 #[.val (.ref da), .unset, .unset, .unset, .unset, .unset, .unset] [(.ref da)])) rfl rfl (hb hby d1_1) _ (by rw [hl1]; exact k)) ?_
  obtain ⟨T2, h2, k2, X2, e2, E2, A2, st2⟩ := newP X0 hx hZ (aty := .int) (Wd5 hw) e0 (g := (mkF m 2 #[.val (.ref da), .unset, .unset, .unset, .unset, .unset, .unset] [(.int 3)])) rfl (hb hby d1_2) rfl (by decide) (cap := 3) (by decide) (by decide) (Nat.le_of_ble_eq_true rfl) (Nat.le_of_ble_eq_true rfl)
  obtain ⟨b2, g2⟩ : ∃ z, z = h0.size := ⟨_, rfl⟩
  rw [← g2] at A2 st2
  have V2 : Arv Z h2 b2 k2 .int 3 [(.int 0), (.int 0), (.int 0)] (.int 0) := (Arv.new A2 (by decide)).pad (pad_rep [] (.int 0) 3)
  refine OD.go (B := (T2.setTop (mkF m 4 #[.val (.ref da), .unset, .unset, .unset, .unset, .unset, .unset] [(.ref b2)]))) st2 ?_
  refine OD.go (B := (T2.setTop (mkF m 5 #[.val (.ref da), .val (.ref b2), .unset, .unset, .unset, .unset, .unset] []))) (fun t k => XS.astoreN X2.here hx rfl (hb hby d1_4) rfl rfl (l' := #[.val (.ref da), .val (.ref b2), .unset, .unset, .unset, .unset, .unset]) rfl k) ?_
  refine OD.go (B := (T2.setTop (mkF m 6 #[.val (.ref da), .val (.ref b2), .unset, .unset, .unset, .unset, .unset] [(.int 0)]))) (fun t k => XS.iconst X2.here hx rfl (hb hby d1_5) k) ?_
  refine OD.go (B := (T2.setTop (mkF m 7 #[.val (.ref da), .val (.ref b2), .val (.int 0), .unset, .unset, .unset, .unset] []))) (fun t k => XS.istoreN X2.here hx rfl (hb hby d1_6) rfl (l' := #[.val (.ref da), .val (.ref b2), .val (.int 0), .unset, .unset, .unset, .unset]) rfl k) ?_
  refine OD.go (B := (T2.setTop (mkF m 8 #[.val (.ref da), .val (.ref b2), .val (.int 0), .unset, .unset, .unset, .unset] [(.int 0)]))) (fun t k => XS.iloadN X2.here hx rfl (hb hby d1_7) rfl k) ?_
  refine OD.go (B := (T2.setTop (mkF m 9 #[.val (.ref da), .val (.ref b2), .val (.int 0), .unset, .unset, .unset, .unset] [(.ref b2), (.int 0)]))) (fun t k => XS.aloadN X2.here hx rfl (hb hby d1_8) rfl rfl k) ?_
  obtain ⟨cl3, Ar3, hl3⟩ := own_len V2
  refine OD.go (B := (T2.setTop (mkF m 10 #[.val (.ref da), .val (.ref b2), .val (.int 0), .unset, .unset, .unset, .unset] [(.int 3), (.int 0)]))) (fun t k => X2.arraylength hx (by rw [e2]; exact Ar3.1) (State.isArrayOf_alike hZ.alike Ar3.2.1) (g := (mkF m 9 #[.val (.ref da), .val (.ref b2), .val (.int 0), .unset, .unset, .unset, .unset] [(.ref b2), (.int 0)])) rfl rfl (hb hby d1_9) _ (by rw [hl3]; exact k)) ?_
  refine OD.go (B := (T2.setTop (mkF m 13 #[.val (.ref da), .val (.ref b2), .val (.int 0), .unset, .unset, .unset, .unset] []))) (fun t k => XS.icmpNo X2.here hx rfl (hb hby d1_10) rfl (tlt (by decide : (0 : Int32) < (3 : Int32))).2.1 k) ?_
  refine OD.go (B := (T2.setTop (mkF m 14 #[.val (.ref da), .val (.ref b2), .val (.int 0), .unset, .unset, .unset, .unset] [(.ref b2)]))) (fun t k => XS.aloadN X2.here hx rfl (hb hby d1_13) rfl rfl k) ?_
  refine OD.go (B := (T2.setTop (mkF m 15 #[.val (.ref da), .val (.ref b2), .val (.int 0), .unset, .unset, .unset, .unset] [(.int 0), (.ref b2)]))) (fun t k => XS.iloadN X2.here hx rfl (hb hby d1_14) rfl k) ?_
  refine OD.go (B := (T2.setTop (mkF m 16 #[.val (.ref da), .val (.ref b2), .val (.int 0), .unset, .unset, .unset, .unset] [(.int 0), (.int 0), (.ref b2)]))) (fun t k => XS.iloadN X2.here hx rfl (hb hby d1_15) rfl k) ?_
  obtain ⟨cl4, Ar4, q4, S4, M4, H4, G4⟩ := id V2
  obtain ⟨T4, h4, X4, e4, W4, st4⟩ := stI X2 hx hZ e2 Ar4 (j := (0 : Int32)) (inb_of S4 ⟨by decide, by decide⟩) (g := (mkF m 16 #[.val (.ref da), .val (.ref b2), .val (.int 0), .unset, .unset, .unset, .unset] [(.int 0), (.int 0), (.ref b2)])) rfl rfl (hb hby d1_16)
  have V4 : Arv Z h4 b2 k2 .int 3 [(.int 0), (.int 0), (.int 0)] (.int 0) := Arv.set Ar4 q4 S4 M4 H4 G4 rfl W4 0 rfl (Nat.le_of_ble_eq_true rfl)
  have N4 := Fr.snoc X4 N0 (Nat.le_trans Z0 (Nat.le_of_eq g2.symm))
  refine OD.go (B := (T4.setTop (mkF m 17 #[.val (.ref da), .val (.ref b2), .val (.int 0), .unset, .unset, .unset, .unset] []))) st4 ?_
  refine OD.go (B := (T4.setTop (mkF m 20 #[.val (.ref da), .val (.ref b2), .val (.int 1), .unset, .unset, .unset, .unset] []))) (fun t k => XS.iinc X4.here hx rfl (hb hby d1_17) rfl (l' := #[.val (.ref da), .val (.ref b2), .val (.int 1), .unset, .unset, .unset, .unset]) rfl k) ?_
  refine OD.go (B := (T4.setTop (mkF m 7 #[.val (.ref da), .val (.ref b2), .val (.int 1), .unset, .unset, .unset, .unset] []))) (fun t k => XS.goto X4.here hx rfl (pc0 := 20) (pc' := 7) rfl (hb hby d1_20) (by decide) (by decide) k) ?_
  refine OD.go (B := (T4.setTop (mkF m 8 #[.val (.ref da), .val (.ref b2), .val (.int 1), .unset, .unset, .unset, .unset] [(.int 1)]))) (fun t k => XS.iloadN X4.here hx rfl (hb hby d1_7) rfl k) ?_
  refine OD.go (B := (T4.setTop (mkF m 9 #[.val (.ref da), .val (.ref b2), .val (.int 1), .unset, .unset, .unset, .unset] [(.ref b2), (.int 1)]))) (fun t k => XS.aloadN X4.here hx rfl (hb hby d1_8) rfl rfl k) ?_
  obtain ⟨cl5, Ar5, hl5⟩ := own_len V4
  refine OD.go (B := (T4.setTop (mkF m 10 #[.val (.ref da), .val (.ref b2), .val (.int 1), .unset, .unset, .unset, .unset] [(.int 3), (.int 1)]))) (fun t k => X4.arraylength hx (by rw [e4]; exact Ar5.1) (State.isArrayOf_alike hZ.alike Ar5.2.1) (g := (mkF m 9 #[.val (.ref da), .val (.ref b2), .val (.int 1), .unset, .unset, .unset, .unset] [(.ref b2), (.int 1)])) rfl rfl (hb hby d1_9) _ (by rw [hl5]; exact k)) ?_
  refine OD.go (B := (T4.setTop (mkF m 13 #[.val (.ref da), .val (.ref b2), .val (.int 1), .unset, .unset, .unset, .unset] []))) (fun t k => XS.icmpNo X4.here hx rfl (hb hby d1_10) rfl (tlt (by decide : (1 : Int32) < (3 : Int32))).2.1 k) ?_
  refine OD.go (B := (T4.setTop (mkF m 14 #[.val (.ref da), .val (.ref b2), .val (.int 1), .unset, .unset, .unset, .unset] [(.ref b2)]))) (fun t k => XS.aloadN X4.here hx rfl (hb hby d1_13) rfl rfl k) ?_
  refine OD.go (B := (T4.setTop (mkF m 15 #[.val (.ref da), .val (.ref b2), .val (.int 1), .unset, .unset, .unset, .unset] [(.int 1), (.ref b2)]))) (fun t k => XS.iloadN X4.here hx rfl (hb hby d1_14) rfl k) ?_
  refine OD.go (B := (T4.setTop (mkF m 16 #[.val (.ref da), .val (.ref b2), .val (.int 1), .unset, .unset, .unset, .unset] [(.int 1), (.int 1), (.ref b2)]))) (fun t k => XS.iloadN X4.here hx rfl (hb hby d1_15) rfl k) ?_
  obtain ⟨cl6, Ar6, q6, S6, M6, H6, G6⟩ := id V4
  obtain ⟨T6, h6, X6, e6, W6, st6⟩ := stI X4 hx hZ e4 Ar6 (j := (1 : Int32)) (inb_of S6 ⟨by decide, by decide⟩) (g := (mkF m 16 #[.val (.ref da), .val (.ref b2), .val (.int 1), .unset, .unset, .unset, .unset] [(.int 1), (.int 1), (.ref b2)])) rfl rfl (hb hby d1_16)
  have V6 : Arv Z h6 b2 k2 .int 3 [(.int 0), (.int 1), (.int 0)] (.int 0) := Arv.set Ar6 q6 S6 M6 H6 G6 rfl W6 1 rfl (Nat.le_of_ble_eq_true rfl)
  have N6 := Fr.snoc X6 N4 (Nat.le_trans Z0 (Nat.le_of_eq g2.symm))
  refine OD.go (B := (T6.setTop (mkF m 17 #[.val (.ref da), .val (.ref b2), .val (.int 1), .unset, .unset, .unset, .unset] []))) st6 ?_
  refine OD.go (B := (T6.setTop (mkF m 20 #[.val (.ref da), .val (.ref b2), .val (.int 2), .unset, .unset, .unset, .unset] []))) (fun t k => XS.iinc X6.here hx rfl (hb hby d1_17) rfl (l' := #[.val (.ref da), .val (.ref b2), .val (.int 2), .unset, .unset, .unset, .unset]) rfl k) ?_
  refine OD.go (B := (T6.setTop (mkF m 7 #[.val (.ref da), .val (.ref b2), .val (.int 2), .unset, .unset, .unset, .unset] []))) (fun t k => XS.goto X6.here hx rfl (pc0 := 20) (pc' := 7) rfl (hb hby d1_20) (by decide) (by decide) k) ?_
  refine OD.go (B := (T6.setTop (mkF m 8 #[.val (.ref da), .val (.ref b2), .val (.int 2), .unset, .unset, .unset, .unset] [(.int 2)]))) (fun t k => XS.iloadN X6.here hx rfl (hb hby d1_7) rfl k) ?_
  refine OD.go (B := (T6.setTop (mkF m 9 #[.val (.ref da), .val (.ref b2), .val (.int 2), .unset, .unset, .unset, .unset] [(.ref b2), (.int 2)]))) (fun t k => XS.aloadN X6.here hx rfl (hb hby d1_8) rfl rfl k) ?_
  obtain ⟨cl7, Ar7, hl7⟩ := own_len V6
  refine OD.go (B := (T6.setTop (mkF m 10 #[.val (.ref da), .val (.ref b2), .val (.int 2), .unset, .unset, .unset, .unset] [(.int 3), (.int 2)]))) (fun t k => X6.arraylength hx (by rw [e6]; exact Ar7.1) (State.isArrayOf_alike hZ.alike Ar7.2.1) (g := (mkF m 9 #[.val (.ref da), .val (.ref b2), .val (.int 2), .unset, .unset, .unset, .unset] [(.ref b2), (.int 2)])) rfl rfl (hb hby d1_9) _ (by rw [hl7]; exact k)) ?_
  refine OD.go (B := (T6.setTop (mkF m 13 #[.val (.ref da), .val (.ref b2), .val (.int 2), .unset, .unset, .unset, .unset] []))) (fun t k => XS.icmpNo X6.here hx rfl (hb hby d1_10) rfl (tlt (by decide : (2 : Int32) < (3 : Int32))).2.1 k) ?_
  refine OD.go (B := (T6.setTop (mkF m 14 #[.val (.ref da), .val (.ref b2), .val (.int 2), .unset, .unset, .unset, .unset] [(.ref b2)]))) (fun t k => XS.aloadN X6.here hx rfl (hb hby d1_13) rfl rfl k) ?_
  refine OD.go (B := (T6.setTop (mkF m 15 #[.val (.ref da), .val (.ref b2), .val (.int 2), .unset, .unset, .unset, .unset] [(.int 2), (.ref b2)]))) (fun t k => XS.iloadN X6.here hx rfl (hb hby d1_14) rfl k) ?_
  refine OD.go (B := (T6.setTop (mkF m 16 #[.val (.ref da), .val (.ref b2), .val (.int 2), .unset, .unset, .unset, .unset] [(.int 2), (.int 2), (.ref b2)]))) (fun t k => XS.iloadN X6.here hx rfl (hb hby d1_15) rfl k) ?_
  obtain ⟨cl8, Ar8, q8, S8, M8, H8, G8⟩ := id V6
  obtain ⟨T8, h8, X8, e8, W8, st8⟩ := stI X6 hx hZ e6 Ar8 (j := (2 : Int32)) (inb_of S8 ⟨by decide, by decide⟩) (g := (mkF m 16 #[.val (.ref da), .val (.ref b2), .val (.int 2), .unset, .unset, .unset, .unset] [(.int 2), (.int 2), (.ref b2)])) rfl rfl (hb hby d1_16)
  have V8 : Arv Z h8 b2 k2 .int 3 [(.int 0), (.int 1), (.int 2)] (.int 0) := Arv.set Ar8 q8 S8 M8 H8 G8 rfl W8 2 rfl (Nat.le_of_ble_eq_true rfl)
  have N8 := Fr.snoc X8 N6 (Nat.le_trans Z0 (Nat.le_of_eq g2.symm))
  refine OD.go (B := (T8.setTop (mkF m 17 #[.val (.ref da), .val (.ref b2), .val (.int 2), .unset, .unset, .unset, .unset] []))) st8 ?_
  refine OD.go (B := (T8.setTop (mkF m 20 #[.val (.ref da), .val (.ref b2), .val (.int 3), .unset, .unset, .unset, .unset] []))) (fun t k => XS.iinc X8.here hx rfl (hb hby d1_17) rfl (l' := #[.val (.ref da), .val (.ref b2), .val (.int 3), .unset, .unset, .unset, .unset]) rfl k) ?_
  refine OD.go (B := (T8.setTop (mkF m 7 #[.val (.ref da), .val (.ref b2), .val (.int 3), .unset, .unset, .unset, .unset] []))) (fun t k => XS.goto X8.here hx rfl (pc0 := 20) (pc' := 7) rfl (hb hby d1_20) (by decide) (by decide) k) ?_
  refine OD.go (B := (T8.setTop (mkF m 8 #[.val (.ref da), .val (.ref b2), .val (.int 3), .unset, .unset, .unset, .unset] [(.int 3)]))) (fun t k => XS.iloadN X8.here hx rfl (hb hby d1_7) rfl k) ?_
  refine OD.go (B := (T8.setTop (mkF m 9 #[.val (.ref da), .val (.ref b2), .val (.int 3), .unset, .unset, .unset, .unset] [(.ref b2), (.int 3)]))) (fun t k => XS.aloadN X8.here hx rfl (hb hby d1_8) rfl rfl k) ?_
  obtain ⟨cl9, Ar9, hl9⟩ := own_len V8
  refine OD.go (B := (T8.setTop (mkF m 10 #[.val (.ref da), .val (.ref b2), .val (.int 3), .unset, .unset, .unset, .unset] [(.int 3), (.int 3)]))) (fun t k => X8.arraylength hx (by rw [e8]; exact Ar9.1) (State.isArrayOf_alike hZ.alike Ar9.2.1) (g := (mkF m 9 #[.val (.ref da), .val (.ref b2), .val (.int 3), .unset, .unset, .unset, .unset] [(.ref b2), (.int 3)])) rfl rfl (hb hby d1_9) _ (by rw [hl9]; exact k)) ?_
  refine OD.go (B := (T8.setTop (mkF m 23 #[.val (.ref da), .val (.ref b2), .val (.int 3), .unset, .unset, .unset, .unset] []))) (fun t k => XS.icmpYes X8.here hx rfl (pc0 := 10) (pc' := 23) rfl (hb hby d1_10) rfl (flt (by decide : ¬ (3 : Int32) < (3 : Int32))).2.1 (by decide) (by decide) k) ?_
  refine OD.go (B := (T8.setTop (mkF m 24 #[.val (.ref da), .val (.ref b2), .val (.int 3), .unset, .unset, .unset, .unset] [(.ref b2)]))) (fun t k => XS.aloadN X8.here hx rfl (hb hby d1_23) rfl rfl k) ?_
  obtain ⟨cl10, Ar10, hl10⟩ := own_len V8
  refine OD.go (B := (T8.setTop (mkF m 25 #[.val (.ref da), .val (.ref b2), .val (.int 3), .unset, .unset, .unset, .unset] [(.int 3)]))) (fun t k => X8.arraylength hx (by rw [e8]; exact Ar10.1) (State.isArrayOf_alike hZ.alike Ar10.2.1) (g := (mkF m 24 #[.val (.ref da), .val (.ref b2), .val (.int 3), .unset, .unset, .unset, .unset] [(.ref b2)])) rfl rfl (hb hby d1_24) _ (by rw [hl10]; exact k)) ?_
  obtain ⟨T11, h11, k11, X11, e11, E11, A11, st11⟩ := newP X8 hx hZ (aty := .int) (Wd5 hw) e8 (g := (mkF m 25 #[.val (.ref da), .val (.ref b2), .val (.int 3), .unset, .unset, .unset, .unset] [(.int 3)])) rfl (hb hby d1_25) rfl (by decide) (cap := 3) (by decide) (by decide) (Nat.le_of_ble_eq_true rfl) (Nat.le_of_ble_eq_true rfl)
  obtain ⟨b11, g11⟩ : ∃ z, z = h8.size := ⟨_, rfl⟩
  rw [← g11] at A11 st11
  have V11 : Arv Z h11 b11 k11 .int 3 [(.int 0), (.int 0), (.int 0)] (.int 0) := (Arv.new A11 (by decide)).pad (pad_rep [] (.int 0) 3)
  refine OD.go (B := (T11.setTop (mkF m 27 #[.val (.ref da), .val (.ref b2), .val (.int 3), .unset, .unset, .unset, .unset] [(.ref b11)]))) st11 ?_
  refine OD.go (B := (T11.setTop (mkF m 28 #[.val (.ref da), .val (.ref b2), .val (.ref b11), .unset, .unset, .unset, .unset] []))) (fun t k => XS.astoreN X11.here hx rfl (hb hby d1_27) rfl rfl (l' := #[.val (.ref da), .val (.ref b2), .val (.ref b11), .unset, .unset, .unset, .unset]) rfl k) ?_
  refine OD.go (B := (T11.setTop (mkF m 29 #[.val (.ref da), .val (.ref b2), .val (.ref b11), .unset, .unset, .unset, .unset] [(.int 1)]))) (fun t k => XS.iconst X11.here hx rfl (hb hby d1_28) k) ?_
  refine OD.go (B := (T11.setTop (mkF m 30 #[.val (.ref da), .val (.ref b2), .val (.ref b11), .val (.int 1), .unset, .unset, .unset] []))) (fun t k => XS.istoreN X11.here hx rfl (hb hby d1_29) rfl (l' := #[.val (.ref da), .val (.ref b2), .val (.ref b11), .val (.int 1), .unset, .unset, .unset]) rfl k) ?_
  refine OD.go (B := (T11.setTop (mkF m 31 #[.val (.ref da), .val (.ref b2), .val (.ref b11), .val (.int 1), .unset, .unset, .unset] [(.int 1)]))) (fun t k => XS.iloadN X11.here hx rfl (hb hby d1_30) rfl k) ?_
  refine OD.go (B := (T11.setTop (mkF m 32 #[.val (.ref da), .val (.ref b2), .val (.ref b11), .val (.int 1), .unset, .unset, .unset] [(.ref b2), (.int 1)]))) (fun t k => XS.aloadN X11.here hx rfl (hb hby d1_31) rfl rfl k) ?_
  have f12 := (V8.ext E11)
  obtain ⟨cl13, Ar13, hl13⟩ := own_len f12
  refine OD.go (B := (T11.setTop (mkF m 33 #[.val (.ref da), .val (.ref b2), .val (.ref b11), .val (.int 1), .unset, .unset, .unset] [(.int 3), (.int 1)]))) (fun t k => X11.arraylength hx (by rw [e11]; exact Ar13.1) (State.isArrayOf_alike hZ.alike Ar13.2.1) (g := (mkF m 32 #[.val (.ref da), .val (.ref b2), .val (.ref b11), .val (.int 1), .unset, .unset, .unset] [(.ref b2), (.int 1)])) rfl rfl (hb hby d1_32) _ (by rw [hl13]; exact k)) ?_
  refine OD.go (B := (T11.setTop (mkF m 36 #[.val (.ref da), .val (.ref b2), .val (.ref b11), .val (.int 1), .unset, .unset, .unset] []))) (fun t k => XS.icmpNo X11.here hx rfl (hb hby d1_33) rfl (tlt (by decide : (1 : Int32) < (3 : Int32))).2.1 k) ?_
  refine OD.go (B := (T11.setTop (mkF m 37 #[.val (.ref da), .val (.ref b2), .val (.ref b11), .val (.int 1), .unset, .unset, .unset] [(.int 0)]))) (fun t k => XS.iconst X11.here hx rfl (hb hby d1_36) k) ?_
  refine OD.go (B := (T11.setTop (mkF m 39 #[.val (.ref da), .val (.ref b2), .val (.ref b11), .val (.int 1), .val (.int 0), .unset, .unset] []))) (fun t k => XS.istore X11.here hx rfl (hb hby d1_37) rfl (l' := #[.val (.ref da), .val (.ref b2), .val (.ref b11), .val (.int 1), .val (.int 0), .unset, .unset]) rfl k) ?_
  refine OD.go (B := (T11.setTop (mkF m 41 #[.val (.ref da), .val (.ref b2), .val (.ref b11), .val (.int 1), .val (.int 0), .unset, .unset] [(.int 0)]))) (fun t k => XS.iload X11.here hx rfl (hb hby d1_39) rfl k) ?_
  refine OD.go (B := (T11.setTop (mkF m 42 #[.val (.ref da), .val (.ref b2), .val (.ref b11), .val (.int 1), .val (.int 0), .unset, .unset] [(.ref b2), (.int 0)]))) (fun t k => XS.aloadN X11.here hx rfl (hb hby d1_41) rfl rfl k) ?_
  obtain ⟨cl14, Ar14, hl14⟩ := own_len f12
  refine OD.go (B := (T11.setTop (mkF m 43 #[.val (.ref da), .val (.ref b2), .val (.ref b11), .val (.int 1), .val (.int 0), .unset, .unset] [(.int 3), (.int 0)]))) (fun t k => X11.arraylength hx (by rw [e11]; exact Ar14.1) (State.isArrayOf_alike hZ.alike Ar14.2.1) (g := (mkF m 42 #[.val (.ref da), .val (.ref b2), .val (.ref b11), .val (.int 1), .val (.int 0), .unset, .unset] [(.ref b2), (.int 0)])) rfl rfl (hb hby d1_42) _ (by rw [hl14]; exact k)) ?_
  refine OD.go (B := (T11.setTop (mkF m 46 #[.val (.ref da), .val (.ref b2), .val (.ref b11), .val (.int 1), .val (.int 0), .unset, .unset] []))) (fun t k => XS.icmpNo X11.here hx rfl (hb hby d1_43) rfl (tlt (by decide : (0 : Int32) < (3 : Int32))).2.1 k) ?_
  refine OD.go (B := (T11.setTop (mkF m 48 #[.val (.ref da), .val (.ref b2), .val (.ref b11), .val (.int 1), .val (.int 0), .unset, .unset] [(.int 0)]))) (fun t k => XS.iload X11.here hx rfl (hb hby d1_46) rfl k) ?_
  refine OD.go (B := (T11.setTop (mkF m 49 #[.val (.ref da), .val (.ref b2), .val (.ref b11), .val (.int 1), .val (.int 0), .unset, .unset] [(.int 1), (.int 0)]))) (fun t k => XS.iloadN X11.here hx rfl (hb hby d1_48) rfl k) ?_
  refine OD.go (B := (T11.setTop (mkF m 50 #[.val (.ref da), .val (.ref b2), .val (.ref b11), .val (.int 1), .val (.int 0), .unset, .unset] [(.int 1)]))) (fun t k => XS.iadd X11.here hx rfl (hb hby d1_49) rfl k) ?_
  refine OD.go (B := (T11.setTop (mkF m 51 #[.val (.ref da), .val (.ref b2), .val (.ref b11), .val (.int 1), .val (.int 0), .unset, .unset] [(.ref b2), (.int 1)]))) (fun t k => XS.aloadN X11.here hx rfl (hb hby d1_50) rfl rfl k) ?_
  obtain ⟨cl15, Ar15, hl15⟩ := own_len f12
  refine OD.go (B := (T11.setTop (mkF m 52 #[.val (.ref da), .val (.ref b2), .val (.ref b11), .val (.int 1), .val (.int 0), .unset, .unset] [(.int 3), (.int 1)]))) (fun t k => X11.arraylength hx (by rw [e11]; exact Ar15.1) (State.isArrayOf_alike hZ.alike Ar15.2.1) (g := (mkF m 51 #[.val (.ref da), .val (.ref b2), .val (.ref b11), .val (.int 1), .val (.int 0), .unset, .unset] [(.ref b2), (.int 1)])) rfl rfl (hb hby d1_51) _ (by rw [hl15]; exact k)) ?_
  obtain ⟨_, _, ⟨T16, L16, k16, n16⟩, -, X16, ⟨Lc16, hQ16, l16, y16, z16⟩, st16⟩ := Jvm.LawKit.callS X11 hx (y := (⟨"java/lang/Math", "min", "(II)I"⟩ : MethodName)) hown (mvT hZ (Wd13 hw)) (mvT hZ (Wd14 hw)) (mvT hZ (Wd15 hw)) (mvT hZ (Wd16 hw)) (by decide) (backOf (W := 0) (rmMn1_3 l Z a0 hw [] h11) hZ (Wd16 hw) (Wd15 hw) (by decide) (by decide)) (g := (mkF m 52 #[.val (.ref da), .val (.ref b2), .val (.ref b11), .val (.int 1), .val (.int 0), .unset, .unset] [(.int 3), (.int 1)])) rfl (by rw [hml]; rfl) (argsL := [(.int 1), (.int 3)]) (rest := []) (lenOf pd0 rfl) rfl (by show 2 * 0 + _ ≤ _; exact Nat.le_of_eq rfl) (hb hby d1_52) (fun _ _ => ⟨rfl, e11, (Nat.le_of_ble_eq_true rfl), (Nat.le_of_ble_eq_true rfl)⟩)
  dsimp only [Pt.U, Pt.locs, Pt.cells, Pt.slots] at X16 l16 y16 z16 st16 hQ16
  subst l16 y16 z16
  obtain ⟨rfl, rfl, e16⟩ := hQ16
  try rw [List.append_nil] at X16
  refine OD.go (B := (T16.setTop (mkF m 55 #[.val (.ref da), .val (.ref b2), .val (.ref b11), .val (.int 1), .val (.int 0), .unset, .unset] [(.int 1)]))) st16 ?_
  refine OD.go (B := (T16.setTop (mkF m 57 #[.val (.ref da), .val (.ref b2), .val (.ref b11), .val (.int 1), .val (.int 0), .val (.int 1), .unset] []))) (fun t k => XS.istore X16.here hx rfl (hb hby d1_55) rfl (l' := #[.val (.ref da), .val (.ref b2), .val (.ref b11), .val (.int 1), .val (.int 0), .val (.int 1), .unset]) rfl k) ?_
  refine OD.go (B := (T16.setTop (mkF m 59 #[.val (.ref da), .val (.ref b2), .val (.ref b11), .val (.int 1), .val (.int 0), .val (.int 1), .unset] [(.int 0)]))) (fun t k => XS.iload X16.here hx rfl (hb hby d1_57) rfl k) ?_
  refine OD.go (B := (T16.setTop (mkF m 60 #[.val (.ref da), .val (.ref b2), .val (.ref b11), .val (.int 1), .val (.int 0), .val (.int 1), .unset] [(.int 2), (.int 0)]))) (fun t k => XS.iconst X16.here hx rfl (hb hby d1_59) k) ?_
  refine OD.go (B := (T16.setTop (mkF m 61 #[.val (.ref da), .val (.ref b2), .val (.ref b11), .val (.int 1), .val (.int 0), .val (.int 1), .unset] [(.int 1), (.int 2), (.int 0)]))) (fun t k => XS.iloadN X16.here hx rfl (hb hby d1_60) rfl k) ?_
  refine OD.go (B := (T16.setTop (mkF m 62 #[.val (.ref da), .val (.ref b2), .val (.ref b11), .val (.int 1), .val (.int 0), .val (.int 1), .unset] [(.int 2), (.int 0)]))) (fun t k => XS.imul X16.here hx rfl (hb hby d1_61) rfl k) ?_
  refine OD.go (B := (T16.setTop (mkF m 63 #[.val (.ref da), .val (.ref b2), .val (.ref b11), .val (.int 1), .val (.int 0), .val (.int 1), .unset] [(.int 2)]))) (fun t k => XS.iadd X16.here hx rfl (hb hby d1_62) rfl k) ?_
  refine OD.go (B := (T16.setTop (mkF m 64 #[.val (.ref da), .val (.ref b2), .val (.ref b11), .val (.int 1), .val (.int 0), .val (.int 1), .unset] [(.ref b2), (.int 2)]))) (fun t k => XS.aloadN X16.here hx rfl (hb hby d1_63) rfl rfl k) ?_
  obtain ⟨cl17, Ar17, hl17⟩ := own_len f12
  refine OD.go (B := (T16.setTop (mkF m 65 #[.val (.ref da), .val (.ref b2), .val (.ref b11), .val (.int 1), .val (.int 0), .val (.int 1), .unset] [(.int 3), (.int 2)]))) (fun t k => X16.arraylength hx (by rw [e16]; exact Ar17.1) (State.isArrayOf_alike hZ.alike Ar17.2.1) (g := (mkF m 64 #[.val (.ref da), .val (.ref b2), .val (.ref b11), .val (.int 1), .val (.int 0), .val (.int 1), .unset] [(.ref b2), (.int 2)])) rfl rfl (hb hby d1_64) _ (by rw [hl17]; exact k)) ?_
  obtain ⟨_, _, ⟨T18, L18, k18, n18⟩, -, X18, ⟨Lc18, hQ18, l18, y18, z18⟩, st18⟩ := Jvm.LawKit.callS X16 hx (y := (⟨"java/lang/Math", "min", "(II)I"⟩ : MethodName)) hown (mvT hZ (Wd13 hw)) (mvT hZ (Wd14 hw)) (mvT hZ (Wd15 hw)) (mvT hZ (Wd16 hw)) (by decide) (backOf (W := 0) (rmMn2_3 l Z a0 hw [] h11) hZ (Wd16 hw) (Wd15 hw) (by decide) (by decide)) (g := (mkF m 65 #[.val (.ref da), .val (.ref b2), .val (.ref b11), .val (.int 1), .val (.int 0), .val (.int 1), .unset] [(.int 3), (.int 2)])) rfl (by rw [hml]; rfl) (argsL := [(.int 2), (.int 3)]) (rest := []) (lenOf pd0 rfl) rfl (by show 2 * 0 + _ ≤ _; exact Nat.le_of_eq rfl) (hb hby d1_65) (fun _ _ => ⟨rfl, e16, (Nat.le_of_ble_eq_true rfl), (Nat.le_of_ble_eq_true rfl)⟩)
  dsimp only [Pt.U, Pt.locs, Pt.cells, Pt.slots] at X18 l18 y18 z18 st18 hQ18
  subst l18 y18 z18
  obtain ⟨rfl, rfl, e18⟩ := hQ18
  try rw [List.append_nil] at X18
  refine OD.go (B := (T18.setTop (mkF m 68 #[.val (.ref da), .val (.ref b2), .val (.ref b11), .val (.int 1), .val (.int 0), .val (.int 1), .unset] [(.int 2)]))) st18 ?_
  refine OD.go (B := (T18.setTop (mkF m 70 #[.val (.ref da), .val (.ref b2), .val (.ref b11), .val (.int 1), .val (.int 0), .val (.int 1), .val (.int 2)] []))) (fun t k => XS.istore X18.here hx rfl (hb hby d1_68) rfl (l' := #[.val (.ref da), .val (.ref b2), .val (.ref b11), .val (.int 1), .val (.int 0), .val (.int 1), .val (.int 2)]) rfl k) ?_
  refine OD.go (B := (T18.setTop (mkF m 71 #[.val (.ref da), .val (.ref b2), .val (.ref b11), .val (.int 1), .val (.int 0), .val (.int 1), .val (.int 2)] [(.ref da)]))) (fun t k => XS.aloadN X18.here hx rfl (hb hby d1_70) rfl rfl k) ?_
  refine OD.go (B := (T18.setTop (mkF m 72 #[.val (.ref da), .val (.ref b2), .val (.ref b11), .val (.int 1), .val (.int 0), .val (.int 1), .val (.int 2)] [(.ref b2), (.ref da)]))) (fun t k => XS.aloadN X18.here hx rfl (hb hby d1_71) rfl rfl k) ?_
  refine OD.go (B := (T18.setTop (mkF m 73 #[.val (.ref da), .val (.ref b2), .val (.ref b11), .val (.int 1), .val (.int 0), .val (.int 1), .val (.int 2)] [(.ref b11), (.ref b2), (.ref da)]))) (fun t k => XS.aloadN X18.here hx rfl (hb hby d1_72) rfl rfl k) ?_
  refine OD.go (B := (T18.setTop (mkF m 75 #[.val (.ref da), .val (.ref b2), .val (.ref b11), .val (.int 1), .val (.int 0), .val (.int 1), .val (.int 2)] [(.int 0), (.ref b11), (.ref b2), (.ref da)]))) (fun t k => XS.iload X18.here hx rfl (hb hby d1_73) rfl k) ?_
  refine OD.go (B := (T18.setTop (mkF m 77 #[.val (.ref da), .val (.ref b2), .val (.ref b11), .val (.int 1), .val (.int 0), .val (.int 1), .val (.int 2)] [(.int 1), (.int 0), (.ref b11), (.ref b2), (.ref da)]))) (fun t k => XS.iload X18.here hx rfl (hb hby d1_75) rfl k) ?_
  refine OD.go (B := (T18.setTop (mkF m 79 #[.val (.ref da), .val (.ref b2), .val (.ref b11), .val (.int 1), .val (.int 0), .val (.int 1), .val (.int 2)] [(.int 2), (.int 1), (.int 0), (.ref b11), (.ref b2), (.ref da)]))) (fun t k => XS.iload X18.here hx rfl (hb hby d1_77) rfl k) ?_
  have Vf19 : Arv Z h11 b2 k2 .int 3 (own_rg (3 : Int32).toNatClampNeg (fun x => .int (own_id x))) (.int 0) := f12
  have Vf20 : Arv Z h11 b11 k11 .int 3 (own_rg (3 : Int32).toNatClampNeg (fun x => .int (own_zero x))) (.int 0) := V11
  have f21 := (((((D1.ext E2).other W4 (Nat.ne_of_lt (Nat.lt_of_lt_of_le D1.lt (Nat.le_of_eq g2.symm)))).other W6 (Nat.ne_of_lt (Nat.lt_of_lt_of_le D1.lt (Nat.le_of_eq g2.symm)))).other W8 (Nat.ne_of_lt (Nat.lt_of_lt_of_le D1.lt (Nat.le_of_eq g2.symm)))).ext E11)
  obtain ⟨_, _, ⟨T22, L22, k22, n22⟩, -, X22, ⟨Lc22, hQ22, l22, y22, z22⟩, st22⟩ := Jvm.LawKit.callS X18 hx (y := (⟨"com/example/topside/topside/DescendingOrder", "merge", "([D[I[IIII)V"⟩ : MethodName)) hown (mvT hZ (Wd17 hw)) (mvT hZ (Wd18 hw)) (mvT hZ (Wd3 hw)) (mvT hZ (Wd19 hw)) (by decide) (backOf (W := 0) (rmM l Z a0 hw [] da b2 b11 (0 : Int32) (1 : Int32) (2 : Int32) h11 n0 (Nat.le_trans (Nat.le_trans (Nat.le_trans (Nat.le_trans (Nat.le_trans Z0 E2.1) (Keep.of_wr W4).1) (Keep.of_wr W6).1) (Keep.of_wr W8).1) E11.1) k0 k2 k11 (3 : Int32) sv own_id own_zero f21 Vf19 Vf20 (Nat.ne_of_lt (Nat.lt_of_lt_of_le (Nat.lt_of_lt_of_le (Nat.lt_of_lt_of_le (Nat.lt_of_lt_of_le (Nat.lt_of_lt_of_le D1.lt E2.1) (Keep.of_wr W4).1) (Keep.of_wr W6).1) (Keep.of_wr W8).1) (Nat.le_of_eq g11.symm))) (Nat.ne_of_lt (Nat.lt_of_lt_of_le (Nat.lt_of_lt_of_le (Nat.lt_of_lt_of_le (Nat.lt_of_lt_of_le V2.lt (Keep.of_wr W4).1) (Keep.of_wr W6).1) (Keep.of_wr W8).1) (Nat.le_of_eq g11.symm))) (Nat.le_trans (Nat.le_trans (Nat.le_trans (Nat.le_trans (Nat.le_trans Z0 E2.1) (Keep.of_wr W4).1) (Keep.of_wr W6).1) (Keep.of_wr W8).1) (Nat.le_of_eq g11.symm)) (by decide) (by decide) (by decide) (by decide) (own_idB _)) hZ (Wd19 hw) (Wd3 hw) (by decide) (by decide)) (g := (mkF m 79 #[.val (.ref da), .val (.ref b2), .val (.ref b11), .val (.int 1), .val (.int 0), .val (.int 1), .val (.int 2)] [(.int 2), (.int 1), (.int 0), (.ref b11), (.ref b2), (.ref da)])) rfl (by rw [hml]; rfl) (argsL := [(.ref da), (.ref b2), (.ref b11), (.int 0), (.int 1), (.int 2)]) (rest := []) (lenOf pd1 rfl) rfl (by show 2 * 0 + _ ≤ _; exact Nat.le_of_eq rfl) (hb hby d1_79) (fun _ _ => ⟨rfl, e18, (Nat.le_of_ble_eq_true rfl), (Nat.le_of_ble_eq_true rfl)⟩)
  dsimp only [Pt.U, Pt.locs, Pt.cells, Pt.slots] at X22 l22 y22 z22 st22 hQ22
  subst l22 y22 z22
  obtain ⟨rfl, Nq22, K22, A22⟩ := hQ22
  have N22 := Fr.app N8 Nq22
  have B22 : Arv Z T22.heap b11 k11 .int 3 (own_rg (3 : Int32).toNatClampNeg (fun x => .int ((own_m3_0 sv) x))) (.int 0) := A22
  refine OD.go (B := (T22.setTop (mkF m 82 #[.val (.ref da), .val (.ref b2), .val (.ref b11), .val (.int 1), .val (.int 0), .val (.int 1), .val (.int 2)] []))) st22 ?_
  refine OD.go (B := (T22.setTop (mkF m 84 #[.val (.ref da), .val (.ref b2), .val (.ref b11), .val (.int 1), .val (.int 0), .val (.int 1), .val (.int 2)] [(.int 0)]))) (fun t k => XS.iload X22.here hx rfl (hb hby d1_82) rfl k) ?_
  refine OD.go (B := (T22.setTop (mkF m 85 #[.val (.ref da), .val (.ref b2), .val (.ref b11), .val (.int 1), .val (.int 0), .val (.int 1), .val (.int 2)] [(.int 2), (.int 0)]))) (fun t k => XS.iconst X22.here hx rfl (hb hby d1_84) k) ?_
  refine OD.go (B := (T22.setTop (mkF m 86 #[.val (.ref da), .val (.ref b2), .val (.ref b11), .val (.int 1), .val (.int 0), .val (.int 1), .val (.int 2)] [(.int 1), (.int 2), (.int 0)]))) (fun t k => XS.iloadN X22.here hx rfl (hb hby d1_85) rfl k) ?_
  refine OD.go (B := (T22.setTop (mkF m 87 #[.val (.ref da), .val (.ref b2), .val (.ref b11), .val (.int 1), .val (.int 0), .val (.int 1), .val (.int 2)] [(.int 2), (.int 0)]))) (fun t k => XS.imul X22.here hx rfl (hb hby d1_86) rfl k) ?_
  refine OD.go (B := (T22.setTop (mkF m 88 #[.val (.ref da), .val (.ref b2), .val (.ref b11), .val (.int 1), .val (.int 0), .val (.int 1), .val (.int 2)] [(.int 2)]))) (fun t k => XS.iadd X22.here hx rfl (hb hby d1_87) rfl k) ?_
  refine OD.go (B := (T22.setTop (mkF m 90 #[.val (.ref da), .val (.ref b2), .val (.ref b11), .val (.int 1), .val (.int 2), .val (.int 1), .val (.int 2)] []))) (fun t k => XS.istore X22.here hx rfl (hb hby d1_88) rfl (l' := #[.val (.ref da), .val (.ref b2), .val (.ref b11), .val (.int 1), .val (.int 2), .val (.int 1), .val (.int 2)]) rfl k) ?_
  refine OD.go (B := (T22.setTop (mkF m 39 #[.val (.ref da), .val (.ref b2), .val (.ref b11), .val (.int 1), .val (.int 2), .val (.int 1), .val (.int 2)] []))) (fun t k => XS.goto X22.here hx rfl (pc0 := 90) (pc' := 39) rfl (hb hby d1_90) (by decide) (by decide) k) ?_
  refine OD.go (B := (T22.setTop (mkF m 41 #[.val (.ref da), .val (.ref b2), .val (.ref b11), .val (.int 1), .val (.int 2), .val (.int 1), .val (.int 2)] [(.int 2)]))) (fun t k => XS.iload X22.here hx rfl (hb hby d1_39) rfl k) ?_
  refine OD.go (B := (T22.setTop (mkF m 42 #[.val (.ref da), .val (.ref b2), .val (.ref b11), .val (.int 1), .val (.int 2), .val (.int 1), .val (.int 2)] [(.ref b2), (.int 2)]))) (fun t k => XS.aloadN X22.here hx rfl (hb hby d1_41) rfl rfl k) ?_
  have f23 := (Vf19.keep K22 (ninS (Nat.ne_of_lt (Nat.lt_of_lt_of_le (Nat.lt_of_lt_of_le (Nat.lt_of_lt_of_le (Nat.lt_of_lt_of_le V2.lt (Keep.of_wr W4).1) (Keep.of_wr W6).1) (Keep.of_wr W8).1) (Nat.le_of_eq g11.symm))) nin0))
  obtain ⟨cl24, Ar24, hl24⟩ := own_len f23
  refine OD.go (B := (T22.setTop (mkF m 43 #[.val (.ref da), .val (.ref b2), .val (.ref b11), .val (.int 1), .val (.int 2), .val (.int 1), .val (.int 2)] [(.int 3), (.int 2)]))) (fun t k => X22.arraylength hx (by exact Ar24.1) (State.isArrayOf_alike hZ.alike Ar24.2.1) (g := (mkF m 42 #[.val (.ref da), .val (.ref b2), .val (.ref b11), .val (.int 1), .val (.int 2), .val (.int 1), .val (.int 2)] [(.ref b2), (.int 2)])) rfl rfl (hb hby d1_42) _ (by rw [hl24]; exact k)) ?_
  refine OD.go (B := (T22.setTop (mkF m 46 #[.val (.ref da), .val (.ref b2), .val (.ref b11), .val (.int 1), .val (.int 2), .val (.int 1), .val (.int 2)] []))) (fun t k => XS.icmpNo X22.here hx rfl (hb hby d1_43) rfl (tlt (by decide : (2 : Int32) < (3 : Int32))).2.1 k) ?_
  refine OD.go (B := (T22.setTop (mkF m 48 #[.val (.ref da), .val (.ref b2), .val (.ref b11), .val (.int 1), .val (.int 2), .val (.int 1), .val (.int 2)] [(.int 2)]))) (fun t k => XS.iload X22.here hx rfl (hb hby d1_46) rfl k) ?_
  refine OD.go (B := (T22.setTop (mkF m 49 #[.val (.ref da), .val (.ref b2), .val (.ref b11), .val (.int 1), .val (.int 2), .val (.int 1), .val (.int 2)] [(.int 1), (.int 2)]))) (fun t k => XS.iloadN X22.here hx rfl (hb hby d1_48) rfl k) ?_
  refine OD.go (B := (T22.setTop (mkF m 50 #[.val (.ref da), .val (.ref b2), .val (.ref b11), .val (.int 1), .val (.int 2), .val (.int 1), .val (.int 2)] [(.int 3)]))) (fun t k => XS.iadd X22.here hx rfl (hb hby d1_49) rfl k) ?_
  refine OD.go (B := (T22.setTop (mkF m 51 #[.val (.ref da), .val (.ref b2), .val (.ref b11), .val (.int 1), .val (.int 2), .val (.int 1), .val (.int 2)] [(.ref b2), (.int 3)]))) (fun t k => XS.aloadN X22.here hx rfl (hb hby d1_50) rfl rfl k) ?_
  obtain ⟨cl25, Ar25, hl25⟩ := own_len f23
  refine OD.go (B := (T22.setTop (mkF m 52 #[.val (.ref da), .val (.ref b2), .val (.ref b11), .val (.int 1), .val (.int 2), .val (.int 1), .val (.int 2)] [(.int 3), (.int 3)]))) (fun t k => X22.arraylength hx (by exact Ar25.1) (State.isArrayOf_alike hZ.alike Ar25.2.1) (g := (mkF m 51 #[.val (.ref da), .val (.ref b2), .val (.ref b11), .val (.int 1), .val (.int 2), .val (.int 1), .val (.int 2)] [(.ref b2), (.int 3)])) rfl rfl (hb hby d1_51) _ (by rw [hl25]; exact k)) ?_
  obtain ⟨_, _, ⟨T26, L26, k26, n26⟩, -, X26, ⟨Lc26, hQ26, l26, y26, z26⟩, st26⟩ := Jvm.LawKit.callS X22 hx (y := (⟨"java/lang/Math", "min", "(II)I"⟩ : MethodName)) hown (mvT hZ (Wd13 hw)) (mvT hZ (Wd14 hw)) (mvT hZ (Wd15 hw)) (mvT hZ (Wd16 hw)) (by decide) (backOf (W := 0) (rmMn3_3 l Z a0 hw [] T22.heap) hZ (Wd16 hw) (Wd15 hw) (by decide) (by decide)) (g := (mkF m 52 #[.val (.ref da), .val (.ref b2), .val (.ref b11), .val (.int 1), .val (.int 2), .val (.int 1), .val (.int 2)] [(.int 3), (.int 3)])) rfl (by rw [hml]; rfl) (argsL := [(.int 3), (.int 3)]) (rest := []) (lenOf pd0 rfl) rfl (by show 2 * 0 + _ ≤ _; exact Nat.le_of_eq rfl) (hb hby d1_52) (fun _ _ => ⟨rfl, rfl, (Nat.le_of_ble_eq_true rfl), (Nat.le_of_ble_eq_true rfl)⟩)
  dsimp only [Pt.U, Pt.locs, Pt.cells, Pt.slots] at X26 l26 y26 z26 st26 hQ26
  subst l26 y26 z26
  obtain ⟨rfl, rfl, e26⟩ := hQ26
  try rw [List.append_nil] at X26
  refine OD.go (B := (T26.setTop (mkF m 55 #[.val (.ref da), .val (.ref b2), .val (.ref b11), .val (.int 1), .val (.int 2), .val (.int 1), .val (.int 2)] [(.int 3)]))) st26 ?_
  refine OD.go (B := (T26.setTop (mkF m 57 #[.val (.ref da), .val (.ref b2), .val (.ref b11), .val (.int 1), .val (.int 2), .val (.int 3), .val (.int 2)] []))) (fun t k => XS.istore X26.here hx rfl (hb hby d1_55) rfl (l' := #[.val (.ref da), .val (.ref b2), .val (.ref b11), .val (.int 1), .val (.int 2), .val (.int 3), .val (.int 2)]) rfl k) ?_
  refine OD.go (B := (T26.setTop (mkF m 59 #[.val (.ref da), .val (.ref b2), .val (.ref b11), .val (.int 1), .val (.int 2), .val (.int 3), .val (.int 2)] [(.int 2)]))) (fun t k => XS.iload X26.here hx rfl (hb hby d1_57) rfl k) ?_
  refine OD.go (B := (T26.setTop (mkF m 60 #[.val (.ref da), .val (.ref b2), .val (.ref b11), .val (.int 1), .val (.int 2), .val (.int 3), .val (.int 2)] [(.int 2), (.int 2)]))) (fun t k => XS.iconst X26.here hx rfl (hb hby d1_59) k) ?_
  refine OD.go (B := (T26.setTop (mkF m 61 #[.val (.ref da), .val (.ref b2), .val (.ref b11), .val (.int 1), .val (.int 2), .val (.int 3), .val (.int 2)] [(.int 1), (.int 2), (.int 2)]))) (fun t k => XS.iloadN X26.here hx rfl (hb hby d1_60) rfl k) ?_
  refine OD.go (B := (T26.setTop (mkF m 62 #[.val (.ref da), .val (.ref b2), .val (.ref b11), .val (.int 1), .val (.int 2), .val (.int 3), .val (.int 2)] [(.int 2), (.int 2)]))) (fun t k => XS.imul X26.here hx rfl (hb hby d1_61) rfl k) ?_
  refine OD.go (B := (T26.setTop (mkF m 63 #[.val (.ref da), .val (.ref b2), .val (.ref b11), .val (.int 1), .val (.int 2), .val (.int 3), .val (.int 2)] [(.int 4)]))) (fun t k => XS.iadd X26.here hx rfl (hb hby d1_62) rfl k) ?_
  refine OD.go (B := (T26.setTop (mkF m 64 #[.val (.ref da), .val (.ref b2), .val (.ref b11), .val (.int 1), .val (.int 2), .val (.int 3), .val (.int 2)] [(.ref b2), (.int 4)]))) (fun t k => XS.aloadN X26.here hx rfl (hb hby d1_63) rfl rfl k) ?_
  obtain ⟨cl27, Ar27, hl27⟩ := own_len f23
  refine OD.go (B := (T26.setTop (mkF m 65 #[.val (.ref da), .val (.ref b2), .val (.ref b11), .val (.int 1), .val (.int 2), .val (.int 3), .val (.int 2)] [(.int 3), (.int 4)]))) (fun t k => X26.arraylength hx (by rw [e26]; exact Ar27.1) (State.isArrayOf_alike hZ.alike Ar27.2.1) (g := (mkF m 64 #[.val (.ref da), .val (.ref b2), .val (.ref b11), .val (.int 1), .val (.int 2), .val (.int 3), .val (.int 2)] [(.ref b2), (.int 4)])) rfl rfl (hb hby d1_64) _ (by rw [hl27]; exact k)) ?_
  obtain ⟨_, _, ⟨T28, L28, k28, n28⟩, -, X28, ⟨Lc28, hQ28, l28, y28, z28⟩, st28⟩ := Jvm.LawKit.callS X26 hx (y := (⟨"java/lang/Math", "min", "(II)I"⟩ : MethodName)) hown (mvT hZ (Wd13 hw)) (mvT hZ (Wd14 hw)) (mvT hZ (Wd15 hw)) (mvT hZ (Wd16 hw)) (by decide) (backOf (W := 0) (rmMn4_3 l Z a0 hw [] T22.heap) hZ (Wd16 hw) (Wd15 hw) (by decide) (by decide)) (g := (mkF m 65 #[.val (.ref da), .val (.ref b2), .val (.ref b11), .val (.int 1), .val (.int 2), .val (.int 3), .val (.int 2)] [(.int 3), (.int 4)])) rfl (by rw [hml]; rfl) (argsL := [(.int 4), (.int 3)]) (rest := []) (lenOf pd0 rfl) rfl (by show 2 * 0 + _ ≤ _; exact Nat.le_of_eq rfl) (hb hby d1_65) (fun _ _ => ⟨rfl, e26, (Nat.le_of_ble_eq_true rfl), (Nat.le_of_ble_eq_true rfl)⟩)
  dsimp only [Pt.U, Pt.locs, Pt.cells, Pt.slots] at X28 l28 y28 z28 st28 hQ28
  subst l28 y28 z28
  obtain ⟨rfl, rfl, e28⟩ := hQ28
  try rw [List.append_nil] at X28
  refine OD.go (B := (T28.setTop (mkF m 68 #[.val (.ref da), .val (.ref b2), .val (.ref b11), .val (.int 1), .val (.int 2), .val (.int 3), .val (.int 2)] [(.int 3)]))) st28 ?_
  refine OD.go (B := (T28.setTop (mkF m 70 #[.val (.ref da), .val (.ref b2), .val (.ref b11), .val (.int 1), .val (.int 2), .val (.int 3), .val (.int 3)] []))) (fun t k => XS.istore X28.here hx rfl (hb hby d1_68) rfl (l' := #[.val (.ref da), .val (.ref b2), .val (.ref b11), .val (.int 1), .val (.int 2), .val (.int 3), .val (.int 3)]) rfl k) ?_
  refine OD.go (B := (T28.setTop (mkF m 71 #[.val (.ref da), .val (.ref b2), .val (.ref b11), .val (.int 1), .val (.int 2), .val (.int 3), .val (.int 3)] [(.ref da)]))) (fun t k => XS.aloadN X28.here hx rfl (hb hby d1_70) rfl rfl k) ?_
  refine OD.go (B := (T28.setTop (mkF m 72 #[.val (.ref da), .val (.ref b2), .val (.ref b11), .val (.int 1), .val (.int 2), .val (.int 3), .val (.int 3)] [(.ref b2), (.ref da)]))) (fun t k => XS.aloadN X28.here hx rfl (hb hby d1_71) rfl rfl k) ?_
  refine OD.go (B := (T28.setTop (mkF m 73 #[.val (.ref da), .val (.ref b2), .val (.ref b11), .val (.int 1), .val (.int 2), .val (.int 3), .val (.int 3)] [(.ref b11), (.ref b2), (.ref da)]))) (fun t k => XS.aloadN X28.here hx rfl (hb hby d1_72) rfl rfl k) ?_
  refine OD.go (B := (T28.setTop (mkF m 75 #[.val (.ref da), .val (.ref b2), .val (.ref b11), .val (.int 1), .val (.int 2), .val (.int 3), .val (.int 3)] [(.int 2), (.ref b11), (.ref b2), (.ref da)]))) (fun t k => XS.iload X28.here hx rfl (hb hby d1_73) rfl k) ?_
  refine OD.go (B := (T28.setTop (mkF m 77 #[.val (.ref da), .val (.ref b2), .val (.ref b11), .val (.int 1), .val (.int 2), .val (.int 3), .val (.int 3)] [(.int 3), (.int 2), (.ref b11), (.ref b2), (.ref da)]))) (fun t k => XS.iload X28.here hx rfl (hb hby d1_75) rfl k) ?_
  refine OD.go (B := (T28.setTop (mkF m 79 #[.val (.ref da), .val (.ref b2), .val (.ref b11), .val (.int 1), .val (.int 2), .val (.int 3), .val (.int 3)] [(.int 3), (.int 3), (.int 2), (.ref b11), (.ref b2), (.ref da)]))) (fun t k => XS.iload X28.here hx rfl (hb hby d1_77) rfl k) ?_
  have f29 := (f21.keep K22 (ninS (Nat.ne_of_lt (Nat.lt_of_lt_of_le (Nat.lt_of_lt_of_le (Nat.lt_of_lt_of_le (Nat.lt_of_lt_of_le (Nat.lt_of_lt_of_le D1.lt E2.1) (Keep.of_wr W4).1) (Keep.of_wr W6).1) (Keep.of_wr W8).1) (Nat.le_of_eq g11.symm))) nin0))
  obtain ⟨_, _, ⟨T30, L30, k30, n30⟩, -, X30, ⟨Lc30, hQ30, l30, y30, z30⟩, st30⟩ := Jvm.LawKit.callS X28 hx (y := (⟨"com/example/topside/topside/DescendingOrder", "merge", "([D[I[IIII)V"⟩ : MethodName)) hown (mvT hZ (Wd17 hw)) (mvT hZ (Wd18 hw)) (mvT hZ (Wd3 hw)) (mvT hZ (Wd19 hw)) (by decide) (backOf (W := 0) (rmM l Z a0 hw [] da b2 b11 (2 : Int32) (3 : Int32) (3 : Int32) T22.heap n0 (Nat.le_trans (Nat.le_trans (Nat.le_trans (Nat.le_trans (Nat.le_trans (Nat.le_trans Z0 E2.1) (Keep.of_wr W4).1) (Keep.of_wr W6).1) (Keep.of_wr W8).1) E11.1) K22.1) k0 k2 k11 (3 : Int32) sv own_id (own_m3_0 sv) f29 f23 B22 (Nat.ne_of_lt (Nat.lt_of_lt_of_le (Nat.lt_of_lt_of_le (Nat.lt_of_lt_of_le (Nat.lt_of_lt_of_le (Nat.lt_of_lt_of_le D1.lt E2.1) (Keep.of_wr W4).1) (Keep.of_wr W6).1) (Keep.of_wr W8).1) (Nat.le_of_eq g11.symm))) (Nat.ne_of_lt (Nat.lt_of_lt_of_le (Nat.lt_of_lt_of_le (Nat.lt_of_lt_of_le (Nat.lt_of_lt_of_le V2.lt (Keep.of_wr W4).1) (Keep.of_wr W6).1) (Keep.of_wr W8).1) (Nat.le_of_eq g11.symm))) (Nat.le_trans (Nat.le_trans (Nat.le_trans (Nat.le_trans (Nat.le_trans Z0 E2.1) (Keep.of_wr W4).1) (Keep.of_wr W6).1) (Keep.of_wr W8).1) (Nat.le_of_eq g11.symm)) (by decide) (by decide) (by decide) (by decide) (own_idB _)) hZ (Wd19 hw) (Wd3 hw) (by decide) (by decide)) (g := (mkF m 79 #[.val (.ref da), .val (.ref b2), .val (.ref b11), .val (.int 1), .val (.int 2), .val (.int 3), .val (.int 3)] [(.int 3), (.int 3), (.int 2), (.ref b11), (.ref b2), (.ref da)])) rfl (by rw [hml]; rfl) (argsL := [(.ref da), (.ref b2), (.ref b11), (.int 2), (.int 3), (.int 3)]) (rest := []) (lenOf pd1 rfl) rfl (by show 2 * 0 + _ ≤ _; exact Nat.le_of_eq rfl) (hb hby d1_79) (fun _ _ => ⟨rfl, e28, (Nat.le_of_ble_eq_true rfl), (Nat.le_of_ble_eq_true rfl)⟩)
  dsimp only [Pt.U, Pt.locs, Pt.cells, Pt.slots] at X30 l30 y30 z30 st30 hQ30
  subst l30 y30 z30
  obtain ⟨rfl, Nq30, K30, A30⟩ := hQ30
  have N30 := Fr.app N22 Nq30
  have B30 : Arv Z T30.heap b11 k11 .int 3 (own_rg (3 : Int32).toNatClampNeg (fun x => .int ((own_m3_1 sv) x))) (.int 0) := A30
  refine OD.go (B := (T30.setTop (mkF m 82 #[.val (.ref da), .val (.ref b2), .val (.ref b11), .val (.int 1), .val (.int 2), .val (.int 3), .val (.int 3)] []))) st30 ?_
  refine OD.go (B := (T30.setTop (mkF m 84 #[.val (.ref da), .val (.ref b2), .val (.ref b11), .val (.int 1), .val (.int 2), .val (.int 3), .val (.int 3)] [(.int 2)]))) (fun t k => XS.iload X30.here hx rfl (hb hby d1_82) rfl k) ?_
  refine OD.go (B := (T30.setTop (mkF m 85 #[.val (.ref da), .val (.ref b2), .val (.ref b11), .val (.int 1), .val (.int 2), .val (.int 3), .val (.int 3)] [(.int 2), (.int 2)]))) (fun t k => XS.iconst X30.here hx rfl (hb hby d1_84) k) ?_
  refine OD.go (B := (T30.setTop (mkF m 86 #[.val (.ref da), .val (.ref b2), .val (.ref b11), .val (.int 1), .val (.int 2), .val (.int 3), .val (.int 3)] [(.int 1), (.int 2), (.int 2)]))) (fun t k => XS.iloadN X30.here hx rfl (hb hby d1_85) rfl k) ?_
  refine OD.go (B := (T30.setTop (mkF m 87 #[.val (.ref da), .val (.ref b2), .val (.ref b11), .val (.int 1), .val (.int 2), .val (.int 3), .val (.int 3)] [(.int 2), (.int 2)]))) (fun t k => XS.imul X30.here hx rfl (hb hby d1_86) rfl k) ?_
  refine OD.go (B := (T30.setTop (mkF m 88 #[.val (.ref da), .val (.ref b2), .val (.ref b11), .val (.int 1), .val (.int 2), .val (.int 3), .val (.int 3)] [(.int 4)]))) (fun t k => XS.iadd X30.here hx rfl (hb hby d1_87) rfl k) ?_
  refine OD.go (B := (T30.setTop (mkF m 90 #[.val (.ref da), .val (.ref b2), .val (.ref b11), .val (.int 1), .val (.int 4), .val (.int 3), .val (.int 3)] []))) (fun t k => XS.istore X30.here hx rfl (hb hby d1_88) rfl (l' := #[.val (.ref da), .val (.ref b2), .val (.ref b11), .val (.int 1), .val (.int 4), .val (.int 3), .val (.int 3)]) rfl k) ?_
  refine OD.go (B := (T30.setTop (mkF m 39 #[.val (.ref da), .val (.ref b2), .val (.ref b11), .val (.int 1), .val (.int 4), .val (.int 3), .val (.int 3)] []))) (fun t k => XS.goto X30.here hx rfl (pc0 := 90) (pc' := 39) rfl (hb hby d1_90) (by decide) (by decide) k) ?_
  refine OD.go (B := (T30.setTop (mkF m 41 #[.val (.ref da), .val (.ref b2), .val (.ref b11), .val (.int 1), .val (.int 4), .val (.int 3), .val (.int 3)] [(.int 4)]))) (fun t k => XS.iload X30.here hx rfl (hb hby d1_39) rfl k) ?_
  refine OD.go (B := (T30.setTop (mkF m 42 #[.val (.ref da), .val (.ref b2), .val (.ref b11), .val (.int 1), .val (.int 4), .val (.int 3), .val (.int 3)] [(.ref b2), (.int 4)]))) (fun t k => XS.aloadN X30.here hx rfl (hb hby d1_41) rfl rfl k) ?_
  have f31 := (f23.keep K30 (ninS (Nat.ne_of_lt (Nat.lt_of_lt_of_le (Nat.lt_of_lt_of_le (Nat.lt_of_lt_of_le (Nat.lt_of_lt_of_le V2.lt (Keep.of_wr W4).1) (Keep.of_wr W6).1) (Keep.of_wr W8).1) (Nat.le_of_eq g11.symm))) nin0))
  obtain ⟨cl32, Ar32, hl32⟩ := own_len f31
  refine OD.go (B := (T30.setTop (mkF m 43 #[.val (.ref da), .val (.ref b2), .val (.ref b11), .val (.int 1), .val (.int 4), .val (.int 3), .val (.int 3)] [(.int 3), (.int 4)]))) (fun t k => X30.arraylength hx (by exact Ar32.1) (State.isArrayOf_alike hZ.alike Ar32.2.1) (g := (mkF m 42 #[.val (.ref da), .val (.ref b2), .val (.ref b11), .val (.int 1), .val (.int 4), .val (.int 3), .val (.int 3)] [(.ref b2), (.int 4)])) rfl rfl (hb hby d1_42) _ (by rw [hl32]; exact k)) ?_
  refine OD.go (B := (T30.setTop (mkF m 93 #[.val (.ref da), .val (.ref b2), .val (.ref b11), .val (.int 1), .val (.int 4), .val (.int 3), .val (.int 3)] []))) (fun t k => XS.icmpYes X30.here hx rfl (pc0 := 43) (pc' := 93) rfl (hb hby d1_43) rfl (flt (by decide : ¬ (4 : Int32) < (3 : Int32))).2.1 (by decide) (by decide) k) ?_
  refine OD.go (B := (T30.setTop (mkF m 94 #[.val (.ref da), .val (.ref b2), .val (.ref b11), .val (.int 1), .val (.int 4), .val (.int 3), .val (.int 3)] [(.ref b2)]))) (fun t k => XS.aloadN X30.here hx rfl (hb hby d1_93) rfl rfl k) ?_
  refine OD.go (B := (T30.setTop (mkF m 96 #[.val (.ref da), .val (.ref b2), .val (.ref b11), .val (.int 1), .val (.ref b2), .val (.int 3), .val (.int 3)] []))) (fun t k => XS.astore X30.here hx rfl (hb hby d1_94) rfl rfl (l' := #[.val (.ref da), .val (.ref b2), .val (.ref b11), .val (.int 1), .val (.ref b2), .val (.int 3), .val (.int 3)]) rfl k) ?_
  refine OD.go (B := (T30.setTop (mkF m 97 #[.val (.ref da), .val (.ref b2), .val (.ref b11), .val (.int 1), .val (.ref b2), .val (.int 3), .val (.int 3)] [(.ref b11)]))) (fun t k => XS.aloadN X30.here hx rfl (hb hby d1_96) rfl rfl k) ?_
  refine OD.go (B := (T30.setTop (mkF m 98 #[.val (.ref da), .val (.ref b11), .val (.ref b11), .val (.int 1), .val (.ref b2), .val (.int 3), .val (.int 3)] []))) (fun t k => XS.astoreN X30.here hx rfl (hb hby d1_97) rfl rfl (l' := #[.val (.ref da), .val (.ref b11), .val (.ref b11), .val (.int 1), .val (.ref b2), .val (.int 3), .val (.int 3)]) rfl k) ?_
  refine OD.go (B := (T30.setTop (mkF m 100 #[.val (.ref da), .val (.ref b11), .val (.ref b11), .val (.int 1), .val (.ref b2), .val (.int 3), .val (.int 3)] [(.ref b2)]))) (fun t k => XS.aload X30.here hx rfl (hb hby d1_98) rfl rfl k) ?_
  refine OD.go (B := (T30.setTop (mkF m 101 #[.val (.ref da), .val (.ref b11), .val (.ref b2), .val (.int 1), .val (.ref b2), .val (.int 3), .val (.int 3)] []))) (fun t k => XS.astoreN X30.here hx rfl (hb hby d1_100) rfl rfl (l' := #[.val (.ref da), .val (.ref b11), .val (.ref b2), .val (.int 1), .val (.ref b2), .val (.int 3), .val (.int 3)]) rfl k) ?_
  refine OD.go (B := (T30.setTop (mkF m 102 #[.val (.ref da), .val (.ref b11), .val (.ref b2), .val (.int 1), .val (.ref b2), .val (.int 3), .val (.int 3)] [(.int 1)]))) (fun t k => XS.iloadN X30.here hx rfl (hb hby d1_101) rfl k) ?_
  refine OD.go (B := (T30.setTop (mkF m 103 #[.val (.ref da), .val (.ref b11), .val (.ref b2), .val (.int 1), .val (.ref b2), .val (.int 3), .val (.int 3)] [(.int 2), (.int 1)]))) (fun t k => XS.iconst X30.here hx rfl (hb hby d1_102) k) ?_
  refine OD.go (B := (T30.setTop (mkF m 104 #[.val (.ref da), .val (.ref b11), .val (.ref b2), .val (.int 1), .val (.ref b2), .val (.int 3), .val (.int 3)] [(.int 2)]))) (fun t k => XS.imul X30.here hx rfl (hb hby d1_103) rfl k) ?_
  refine OD.go (B := (T30.setTop (mkF m 105 #[.val (.ref da), .val (.ref b11), .val (.ref b2), .val (.int 2), .val (.ref b2), .val (.int 3), .val (.int 3)] []))) (fun t k => XS.istoreN X30.here hx rfl (hb hby d1_104) rfl (l' := #[.val (.ref da), .val (.ref b11), .val (.ref b2), .val (.int 2), .val (.ref b2), .val (.int 3), .val (.int 3)]) rfl k) ?_
  refine OD.go (B := (T30.setTop (mkF m 30 #[.val (.ref da), .val (.ref b11), .val (.ref b2), .val (.int 2), .val (.ref b2), .val (.int 3), .val (.int 3)] []))) (fun t k => XS.goto X30.here hx rfl (pc0 := 105) (pc' := 30) rfl (hb hby d1_105) (by decide) (by decide) k) ?_
  refine OD.go (B := (T30.setTop (mkF m 31 #[.val (.ref da), .val (.ref b11), .val (.ref b2), .val (.int 2), .val (.ref b2), .val (.int 3), .val (.int 3)] [(.int 2)]))) (fun t k => XS.iloadN X30.here hx rfl (hb hby d1_30) rfl k) ?_
  refine OD.go (B := (T30.setTop (mkF m 32 #[.val (.ref da), .val (.ref b11), .val (.ref b2), .val (.int 2), .val (.ref b2), .val (.int 3), .val (.int 3)] [(.ref b11), (.int 2)]))) (fun t k => XS.aloadN X30.here hx rfl (hb hby d1_31) rfl rfl k) ?_
  obtain ⟨cl33, Ar33, hl33⟩ := own_len B30
  refine OD.go (B := (T30.setTop (mkF m 33 #[.val (.ref da), .val (.ref b11), .val (.ref b2), .val (.int 2), .val (.ref b2), .val (.int 3), .val (.int 3)] [(.int 3), (.int 2)]))) (fun t k => X30.arraylength hx (by exact Ar33.1) (State.isArrayOf_alike hZ.alike Ar33.2.1) (g := (mkF m 32 #[.val (.ref da), .val (.ref b11), .val (.ref b2), .val (.int 2), .val (.ref b2), .val (.int 3), .val (.int 3)] [(.ref b11), (.int 2)])) rfl rfl (hb hby d1_32) _ (by rw [hl33]; exact k)) ?_
  refine OD.go (B := (T30.setTop (mkF m 36 #[.val (.ref da), .val (.ref b11), .val (.ref b2), .val (.int 2), .val (.ref b2), .val (.int 3), .val (.int 3)] []))) (fun t k => XS.icmpNo X30.here hx rfl (hb hby d1_33) rfl (tlt (by decide : (2 : Int32) < (3 : Int32))).2.1 k) ?_
  refine OD.go (B := (T30.setTop (mkF m 37 #[.val (.ref da), .val (.ref b11), .val (.ref b2), .val (.int 2), .val (.ref b2), .val (.int 3), .val (.int 3)] [(.int 0)]))) (fun t k => XS.iconst X30.here hx rfl (hb hby d1_36) k) ?_
  refine OD.go (B := (T30.setTop (mkF m 39 #[.val (.ref da), .val (.ref b11), .val (.ref b2), .val (.int 2), .val (.int 0), .val (.int 3), .val (.int 3)] []))) (fun t k => XS.istore X30.here hx rfl (hb hby d1_37) rfl (l' := #[.val (.ref da), .val (.ref b11), .val (.ref b2), .val (.int 2), .val (.int 0), .val (.int 3), .val (.int 3)]) rfl k) ?_
  refine OD.go (B := (T30.setTop (mkF m 41 #[.val (.ref da), .val (.ref b11), .val (.ref b2), .val (.int 2), .val (.int 0), .val (.int 3), .val (.int 3)] [(.int 0)]))) (fun t k => XS.iload X30.here hx rfl (hb hby d1_39) rfl k) ?_
  refine OD.go (B := (T30.setTop (mkF m 42 #[.val (.ref da), .val (.ref b11), .val (.ref b2), .val (.int 2), .val (.int 0), .val (.int 3), .val (.int 3)] [(.ref b11), (.int 0)]))) (fun t k => XS.aloadN X30.here hx rfl (hb hby d1_41) rfl rfl k) ?_
  obtain ⟨cl34, Ar34, hl34⟩ := own_len B30
  refine OD.go (B := (T30.setTop (mkF m 43 #[.val (.ref da), .val (.ref b11), .val (.ref b2), .val (.int 2), .val (.int 0), .val (.int 3), .val (.int 3)] [(.int 3), (.int 0)]))) (fun t k => X30.arraylength hx (by exact Ar34.1) (State.isArrayOf_alike hZ.alike Ar34.2.1) (g := (mkF m 42 #[.val (.ref da), .val (.ref b11), .val (.ref b2), .val (.int 2), .val (.int 0), .val (.int 3), .val (.int 3)] [(.ref b11), (.int 0)])) rfl rfl (hb hby d1_42) _ (by rw [hl34]; exact k)) ?_
  refine OD.go (B := (T30.setTop (mkF m 46 #[.val (.ref da), .val (.ref b11), .val (.ref b2), .val (.int 2), .val (.int 0), .val (.int 3), .val (.int 3)] []))) (fun t k => XS.icmpNo X30.here hx rfl (hb hby d1_43) rfl (tlt (by decide : (0 : Int32) < (3 : Int32))).2.1 k) ?_
  refine OD.go (B := (T30.setTop (mkF m 48 #[.val (.ref da), .val (.ref b11), .val (.ref b2), .val (.int 2), .val (.int 0), .val (.int 3), .val (.int 3)] [(.int 0)]))) (fun t k => XS.iload X30.here hx rfl (hb hby d1_46) rfl k) ?_
  refine OD.go (B := (T30.setTop (mkF m 49 #[.val (.ref da), .val (.ref b11), .val (.ref b2), .val (.int 2), .val (.int 0), .val (.int 3), .val (.int 3)] [(.int 2), (.int 0)]))) (fun t k => XS.iloadN X30.here hx rfl (hb hby d1_48) rfl k) ?_
  refine OD.go (B := (T30.setTop (mkF m 50 #[.val (.ref da), .val (.ref b11), .val (.ref b2), .val (.int 2), .val (.int 0), .val (.int 3), .val (.int 3)] [(.int 2)]))) (fun t k => XS.iadd X30.here hx rfl (hb hby d1_49) rfl k) ?_
  refine OD.go (B := (T30.setTop (mkF m 51 #[.val (.ref da), .val (.ref b11), .val (.ref b2), .val (.int 2), .val (.int 0), .val (.int 3), .val (.int 3)] [(.ref b11), (.int 2)]))) (fun t k => XS.aloadN X30.here hx rfl (hb hby d1_50) rfl rfl k) ?_
  obtain ⟨cl35, Ar35, hl35⟩ := own_len B30
  refine OD.go (B := (T30.setTop (mkF m 52 #[.val (.ref da), .val (.ref b11), .val (.ref b2), .val (.int 2), .val (.int 0), .val (.int 3), .val (.int 3)] [(.int 3), (.int 2)]))) (fun t k => X30.arraylength hx (by exact Ar35.1) (State.isArrayOf_alike hZ.alike Ar35.2.1) (g := (mkF m 51 #[.val (.ref da), .val (.ref b11), .val (.ref b2), .val (.int 2), .val (.int 0), .val (.int 3), .val (.int 3)] [(.ref b11), (.int 2)])) rfl rfl (hb hby d1_51) _ (by rw [hl35]; exact k)) ?_
  obtain ⟨_, _, ⟨T36, L36, k36, n36⟩, -, X36, ⟨Lc36, hQ36, l36, y36, z36⟩, st36⟩ := Jvm.LawKit.callS X30 hx (y := (⟨"java/lang/Math", "min", "(II)I"⟩ : MethodName)) hown (mvT hZ (Wd13 hw)) (mvT hZ (Wd14 hw)) (mvT hZ (Wd15 hw)) (mvT hZ (Wd16 hw)) (by decide) (backOf (W := 0) (rmMn2_3 l Z a0 hw [] T30.heap) hZ (Wd16 hw) (Wd15 hw) (by decide) (by decide)) (g := (mkF m 52 #[.val (.ref da), .val (.ref b11), .val (.ref b2), .val (.int 2), .val (.int 0), .val (.int 3), .val (.int 3)] [(.int 3), (.int 2)])) rfl (by rw [hml]; rfl) (argsL := [(.int 2), (.int 3)]) (rest := []) (lenOf pd0 rfl) rfl (by show 2 * 0 + _ ≤ _; exact Nat.le_of_eq rfl) (hb hby d1_52) (fun _ _ => ⟨rfl, rfl, (Nat.le_of_ble_eq_true rfl), (Nat.le_of_ble_eq_true rfl)⟩)
  dsimp only [Pt.U, Pt.locs, Pt.cells, Pt.slots] at X36 l36 y36 z36 st36 hQ36
  subst l36 y36 z36
  obtain ⟨rfl, rfl, e36⟩ := hQ36
  try rw [List.append_nil] at X36
  refine OD.go (B := (T36.setTop (mkF m 55 #[.val (.ref da), .val (.ref b11), .val (.ref b2), .val (.int 2), .val (.int 0), .val (.int 3), .val (.int 3)] [(.int 2)]))) st36 ?_
  refine OD.go (B := (T36.setTop (mkF m 57 #[.val (.ref da), .val (.ref b11), .val (.ref b2), .val (.int 2), .val (.int 0), .val (.int 2), .val (.int 3)] []))) (fun t k => XS.istore X36.here hx rfl (hb hby d1_55) rfl (l' := #[.val (.ref da), .val (.ref b11), .val (.ref b2), .val (.int 2), .val (.int 0), .val (.int 2), .val (.int 3)]) rfl k) ?_
  refine OD.go (B := (T36.setTop (mkF m 59 #[.val (.ref da), .val (.ref b11), .val (.ref b2), .val (.int 2), .val (.int 0), .val (.int 2), .val (.int 3)] [(.int 0)]))) (fun t k => XS.iload X36.here hx rfl (hb hby d1_57) rfl k) ?_
  refine OD.go (B := (T36.setTop (mkF m 60 #[.val (.ref da), .val (.ref b11), .val (.ref b2), .val (.int 2), .val (.int 0), .val (.int 2), .val (.int 3)] [(.int 2), (.int 0)]))) (fun t k => XS.iconst X36.here hx rfl (hb hby d1_59) k) ?_
  refine OD.go (B := (T36.setTop (mkF m 61 #[.val (.ref da), .val (.ref b11), .val (.ref b2), .val (.int 2), .val (.int 0), .val (.int 2), .val (.int 3)] [(.int 2), (.int 2), (.int 0)]))) (fun t k => XS.iloadN X36.here hx rfl (hb hby d1_60) rfl k) ?_
  refine OD.go (B := (T36.setTop (mkF m 62 #[.val (.ref da), .val (.ref b11), .val (.ref b2), .val (.int 2), .val (.int 0), .val (.int 2), .val (.int 3)] [(.int 4), (.int 0)]))) (fun t k => XS.imul X36.here hx rfl (hb hby d1_61) rfl k) ?_
  refine OD.go (B := (T36.setTop (mkF m 63 #[.val (.ref da), .val (.ref b11), .val (.ref b2), .val (.int 2), .val (.int 0), .val (.int 2), .val (.int 3)] [(.int 4)]))) (fun t k => XS.iadd X36.here hx rfl (hb hby d1_62) rfl k) ?_
  refine OD.go (B := (T36.setTop (mkF m 64 #[.val (.ref da), .val (.ref b11), .val (.ref b2), .val (.int 2), .val (.int 0), .val (.int 2), .val (.int 3)] [(.ref b11), (.int 4)]))) (fun t k => XS.aloadN X36.here hx rfl (hb hby d1_63) rfl rfl k) ?_
  obtain ⟨cl37, Ar37, hl37⟩ := own_len B30
  refine OD.go (B := (T36.setTop (mkF m 65 #[.val (.ref da), .val (.ref b11), .val (.ref b2), .val (.int 2), .val (.int 0), .val (.int 2), .val (.int 3)] [(.int 3), (.int 4)]))) (fun t k => X36.arraylength hx (by rw [e36]; exact Ar37.1) (State.isArrayOf_alike hZ.alike Ar37.2.1) (g := (mkF m 64 #[.val (.ref da), .val (.ref b11), .val (.ref b2), .val (.int 2), .val (.int 0), .val (.int 2), .val (.int 3)] [(.ref b11), (.int 4)])) rfl rfl (hb hby d1_64) _ (by rw [hl37]; exact k)) ?_
  obtain ⟨_, _, ⟨T38, L38, k38, n38⟩, -, X38, ⟨Lc38, hQ38, l38, y38, z38⟩, st38⟩ := Jvm.LawKit.callS X36 hx (y := (⟨"java/lang/Math", "min", "(II)I"⟩ : MethodName)) hown (mvT hZ (Wd13 hw)) (mvT hZ (Wd14 hw)) (mvT hZ (Wd15 hw)) (mvT hZ (Wd16 hw)) (by decide) (backOf (W := 0) (rmMn4_3 l Z a0 hw [] T30.heap) hZ (Wd16 hw) (Wd15 hw) (by decide) (by decide)) (g := (mkF m 65 #[.val (.ref da), .val (.ref b11), .val (.ref b2), .val (.int 2), .val (.int 0), .val (.int 2), .val (.int 3)] [(.int 3), (.int 4)])) rfl (by rw [hml]; rfl) (argsL := [(.int 4), (.int 3)]) (rest := []) (lenOf pd0 rfl) rfl (by show 2 * 0 + _ ≤ _; exact Nat.le_of_eq rfl) (hb hby d1_65) (fun _ _ => ⟨rfl, e36, (Nat.le_of_ble_eq_true rfl), (Nat.le_of_ble_eq_true rfl)⟩)
  dsimp only [Pt.U, Pt.locs, Pt.cells, Pt.slots] at X38 l38 y38 z38 st38 hQ38
  subst l38 y38 z38
  obtain ⟨rfl, rfl, e38⟩ := hQ38
  try rw [List.append_nil] at X38
  refine OD.go (B := (T38.setTop (mkF m 68 #[.val (.ref da), .val (.ref b11), .val (.ref b2), .val (.int 2), .val (.int 0), .val (.int 2), .val (.int 3)] [(.int 3)]))) st38 ?_
  refine OD.go (B := (T38.setTop (mkF m 70 #[.val (.ref da), .val (.ref b11), .val (.ref b2), .val (.int 2), .val (.int 0), .val (.int 2), .val (.int 3)] []))) (fun t k => XS.istore X38.here hx rfl (hb hby d1_68) rfl (l' := #[.val (.ref da), .val (.ref b11), .val (.ref b2), .val (.int 2), .val (.int 0), .val (.int 2), .val (.int 3)]) rfl k) ?_
  refine OD.go (B := (T38.setTop (mkF m 71 #[.val (.ref da), .val (.ref b11), .val (.ref b2), .val (.int 2), .val (.int 0), .val (.int 2), .val (.int 3)] [(.ref da)]))) (fun t k => XS.aloadN X38.here hx rfl (hb hby d1_70) rfl rfl k) ?_
  refine OD.go (B := (T38.setTop (mkF m 72 #[.val (.ref da), .val (.ref b11), .val (.ref b2), .val (.int 2), .val (.int 0), .val (.int 2), .val (.int 3)] [(.ref b11), (.ref da)]))) (fun t k => XS.aloadN X38.here hx rfl (hb hby d1_71) rfl rfl k) ?_
  refine OD.go (B := (T38.setTop (mkF m 73 #[.val (.ref da), .val (.ref b11), .val (.ref b2), .val (.int 2), .val (.int 0), .val (.int 2), .val (.int 3)] [(.ref b2), (.ref b11), (.ref da)]))) (fun t k => XS.aloadN X38.here hx rfl (hb hby d1_72) rfl rfl k) ?_
  refine OD.go (B := (T38.setTop (mkF m 75 #[.val (.ref da), .val (.ref b11), .val (.ref b2), .val (.int 2), .val (.int 0), .val (.int 2), .val (.int 3)] [(.int 0), (.ref b2), (.ref b11), (.ref da)]))) (fun t k => XS.iload X38.here hx rfl (hb hby d1_73) rfl k) ?_
  refine OD.go (B := (T38.setTop (mkF m 77 #[.val (.ref da), .val (.ref b11), .val (.ref b2), .val (.int 2), .val (.int 0), .val (.int 2), .val (.int 3)] [(.int 2), (.int 0), (.ref b2), (.ref b11), (.ref da)]))) (fun t k => XS.iload X38.here hx rfl (hb hby d1_75) rfl k) ?_
  refine OD.go (B := (T38.setTop (mkF m 79 #[.val (.ref da), .val (.ref b11), .val (.ref b2), .val (.int 2), .val (.int 0), .val (.int 2), .val (.int 3)] [(.int 3), (.int 2), (.int 0), (.ref b2), (.ref b11), (.ref da)]))) (fun t k => XS.iload X38.here hx rfl (hb hby d1_77) rfl k) ?_
  have f39 := (f29.keep K30 (ninS (Nat.ne_of_lt (Nat.lt_of_lt_of_le (Nat.lt_of_lt_of_le (Nat.lt_of_lt_of_le (Nat.lt_of_lt_of_le (Nat.lt_of_lt_of_le D1.lt E2.1) (Keep.of_wr W4).1) (Keep.of_wr W6).1) (Keep.of_wr W8).1) (Nat.le_of_eq g11.symm))) nin0))
  obtain ⟨_, _, ⟨T40, L40, k40, n40⟩, -, X40, ⟨Lc40, hQ40, l40, y40, z40⟩, st40⟩ := Jvm.LawKit.callS X38 hx (y := (⟨"com/example/topside/topside/DescendingOrder", "merge", "([D[I[IIII)V"⟩ : MethodName)) hown (mvT hZ (Wd17 hw)) (mvT hZ (Wd18 hw)) (mvT hZ (Wd3 hw)) (mvT hZ (Wd19 hw)) (by decide) (backOf (W := 0) (rmM l Z a0 hw [] da b11 b2 (0 : Int32) (2 : Int32) (3 : Int32) T30.heap n0 (Nat.le_trans (Nat.le_trans (Nat.le_trans (Nat.le_trans (Nat.le_trans (Nat.le_trans (Nat.le_trans Z0 E2.1) (Keep.of_wr W4).1) (Keep.of_wr W6).1) (Keep.of_wr W8).1) E11.1) K22.1) K30.1) k0 k11 k2 (3 : Int32) sv (own_m3_1 sv) own_id f39 B30 f31 (Nat.ne_of_lt (Nat.lt_of_lt_of_le D1.lt (Nat.le_of_eq g2.symm))) (Ne.symm (Nat.ne_of_lt (Nat.lt_of_lt_of_le (Nat.lt_of_lt_of_le (Nat.lt_of_lt_of_le (Nat.lt_of_lt_of_le V2.lt (Keep.of_wr W4).1) (Keep.of_wr W6).1) (Keep.of_wr W8).1) (Nat.le_of_eq g11.symm)))) (Nat.le_trans Z0 (Nat.le_of_eq g2.symm)) (by decide) (by decide) (by decide) (by decide) (own_m3_1_b sv)) hZ (Wd19 hw) (Wd3 hw) (by decide) (by decide)) (g := (mkF m 79 #[.val (.ref da), .val (.ref b11), .val (.ref b2), .val (.int 2), .val (.int 0), .val (.int 2), .val (.int 3)] [(.int 3), (.int 2), (.int 0), (.ref b2), (.ref b11), (.ref da)])) rfl (by rw [hml]; rfl) (argsL := [(.ref da), (.ref b11), (.ref b2), (.int 0), (.int 2), (.int 3)]) (rest := []) (lenOf pd1 rfl) rfl (by show 2 * 0 + _ ≤ _; exact Nat.le_of_eq rfl) (hb hby d1_79) (fun _ _ => ⟨rfl, e38, (Nat.le_of_ble_eq_true rfl), (Nat.le_of_ble_eq_true rfl)⟩)
  dsimp only [Pt.U, Pt.locs, Pt.cells, Pt.slots] at X40 l40 y40 z40 st40 hQ40
  subst l40 y40 z40
  obtain ⟨rfl, Nq40, K40, A40⟩ := hQ40
  have N40 := Fr.app N30 Nq40
  have B40 : Arv Z T40.heap b2 k2 .int 3 (own_rg (3 : Int32).toNatClampNeg (fun x => .int ((own_m3_2 sv) x))) (.int 0) := A40
  refine OD.go (B := (T40.setTop (mkF m 82 #[.val (.ref da), .val (.ref b11), .val (.ref b2), .val (.int 2), .val (.int 0), .val (.int 2), .val (.int 3)] []))) st40 ?_
  refine OD.go (B := (T40.setTop (mkF m 84 #[.val (.ref da), .val (.ref b11), .val (.ref b2), .val (.int 2), .val (.int 0), .val (.int 2), .val (.int 3)] [(.int 0)]))) (fun t k => XS.iload X40.here hx rfl (hb hby d1_82) rfl k) ?_
  refine OD.go (B := (T40.setTop (mkF m 85 #[.val (.ref da), .val (.ref b11), .val (.ref b2), .val (.int 2), .val (.int 0), .val (.int 2), .val (.int 3)] [(.int 2), (.int 0)]))) (fun t k => XS.iconst X40.here hx rfl (hb hby d1_84) k) ?_
  refine OD.go (B := (T40.setTop (mkF m 86 #[.val (.ref da), .val (.ref b11), .val (.ref b2), .val (.int 2), .val (.int 0), .val (.int 2), .val (.int 3)] [(.int 2), (.int 2), (.int 0)]))) (fun t k => XS.iloadN X40.here hx rfl (hb hby d1_85) rfl k) ?_
  refine OD.go (B := (T40.setTop (mkF m 87 #[.val (.ref da), .val (.ref b11), .val (.ref b2), .val (.int 2), .val (.int 0), .val (.int 2), .val (.int 3)] [(.int 4), (.int 0)]))) (fun t k => XS.imul X40.here hx rfl (hb hby d1_86) rfl k) ?_
  refine OD.go (B := (T40.setTop (mkF m 88 #[.val (.ref da), .val (.ref b11), .val (.ref b2), .val (.int 2), .val (.int 0), .val (.int 2), .val (.int 3)] [(.int 4)]))) (fun t k => XS.iadd X40.here hx rfl (hb hby d1_87) rfl k) ?_
  refine OD.go (B := (T40.setTop (mkF m 90 #[.val (.ref da), .val (.ref b11), .val (.ref b2), .val (.int 2), .val (.int 4), .val (.int 2), .val (.int 3)] []))) (fun t k => XS.istore X40.here hx rfl (hb hby d1_88) rfl (l' := #[.val (.ref da), .val (.ref b11), .val (.ref b2), .val (.int 2), .val (.int 4), .val (.int 2), .val (.int 3)]) rfl k) ?_
  refine OD.go (B := (T40.setTop (mkF m 39 #[.val (.ref da), .val (.ref b11), .val (.ref b2), .val (.int 2), .val (.int 4), .val (.int 2), .val (.int 3)] []))) (fun t k => XS.goto X40.here hx rfl (pc0 := 90) (pc' := 39) rfl (hb hby d1_90) (by decide) (by decide) k) ?_
  refine OD.go (B := (T40.setTop (mkF m 41 #[.val (.ref da), .val (.ref b11), .val (.ref b2), .val (.int 2), .val (.int 4), .val (.int 2), .val (.int 3)] [(.int 4)]))) (fun t k => XS.iload X40.here hx rfl (hb hby d1_39) rfl k) ?_
  refine OD.go (B := (T40.setTop (mkF m 42 #[.val (.ref da), .val (.ref b11), .val (.ref b2), .val (.int 2), .val (.int 4), .val (.int 2), .val (.int 3)] [(.ref b11), (.int 4)]))) (fun t k => XS.aloadN X40.here hx rfl (hb hby d1_41) rfl rfl k) ?_
  have f41 := (B30.keep K40 (ninS (Ne.symm (Nat.ne_of_lt (Nat.lt_of_lt_of_le (Nat.lt_of_lt_of_le (Nat.lt_of_lt_of_le (Nat.lt_of_lt_of_le V2.lt (Keep.of_wr W4).1) (Keep.of_wr W6).1) (Keep.of_wr W8).1) (Nat.le_of_eq g11.symm)))) nin0))
  obtain ⟨cl42, Ar42, hl42⟩ := own_len f41
  refine OD.go (B := (T40.setTop (mkF m 43 #[.val (.ref da), .val (.ref b11), .val (.ref b2), .val (.int 2), .val (.int 4), .val (.int 2), .val (.int 3)] [(.int 3), (.int 4)]))) (fun t k => X40.arraylength hx (by exact Ar42.1) (State.isArrayOf_alike hZ.alike Ar42.2.1) (g := (mkF m 42 #[.val (.ref da), .val (.ref b11), .val (.ref b2), .val (.int 2), .val (.int 4), .val (.int 2), .val (.int 3)] [(.ref b11), (.int 4)])) rfl rfl (hb hby d1_42) _ (by rw [hl42]; exact k)) ?_
  refine OD.go (B := (T40.setTop (mkF m 93 #[.val (.ref da), .val (.ref b11), .val (.ref b2), .val (.int 2), .val (.int 4), .val (.int 2), .val (.int 3)] []))) (fun t k => XS.icmpYes X40.here hx rfl (pc0 := 43) (pc' := 93) rfl (hb hby d1_43) rfl (flt (by decide : ¬ (4 : Int32) < (3 : Int32))).2.1 (by decide) (by decide) k) ?_
  refine OD.go (B := (T40.setTop (mkF m 94 #[.val (.ref da), .val (.ref b11), .val (.ref b2), .val (.int 2), .val (.int 4), .val (.int 2), .val (.int 3)] [(.ref b11)]))) (fun t k => XS.aloadN X40.here hx rfl (hb hby d1_93) rfl rfl k) ?_
  refine OD.go (B := (T40.setTop (mkF m 96 #[.val (.ref da), .val (.ref b11), .val (.ref b2), .val (.int 2), .val (.ref b11), .val (.int 2), .val (.int 3)] []))) (fun t k => XS.astore X40.here hx rfl (hb hby d1_94) rfl rfl (l' := #[.val (.ref da), .val (.ref b11), .val (.ref b2), .val (.int 2), .val (.ref b11), .val (.int 2), .val (.int 3)]) rfl k) ?_
  refine OD.go (B := (T40.setTop (mkF m 97 #[.val (.ref da), .val (.ref b11), .val (.ref b2), .val (.int 2), .val (.ref b11), .val (.int 2), .val (.int 3)] [(.ref b2)]))) (fun t k => XS.aloadN X40.here hx rfl (hb hby d1_96) rfl rfl k) ?_
  refine OD.go (B := (T40.setTop (mkF m 98 #[.val (.ref da), .val (.ref b2), .val (.ref b2), .val (.int 2), .val (.ref b11), .val (.int 2), .val (.int 3)] []))) (fun t k => XS.astoreN X40.here hx rfl (hb hby d1_97) rfl rfl (l' := #[.val (.ref da), .val (.ref b2), .val (.ref b2), .val (.int 2), .val (.ref b11), .val (.int 2), .val (.int 3)]) rfl k) ?_
  refine OD.go (B := (T40.setTop (mkF m 100 #[.val (.ref da), .val (.ref b2), .val (.ref b2), .val (.int 2), .val (.ref b11), .val (.int 2), .val (.int 3)] [(.ref b11)]))) (fun t k => XS.aload X40.here hx rfl (hb hby d1_98) rfl rfl k) ?_
  refine OD.go (B := (T40.setTop (mkF m 101 #[.val (.ref da), .val (.ref b2), .val (.ref b11), .val (.int 2), .val (.ref b11), .val (.int 2), .val (.int 3)] []))) (fun t k => XS.astoreN X40.here hx rfl (hb hby d1_100) rfl rfl (l' := #[.val (.ref da), .val (.ref b2), .val (.ref b11), .val (.int 2), .val (.ref b11), .val (.int 2), .val (.int 3)]) rfl k) ?_
  refine OD.go (B := (T40.setTop (mkF m 102 #[.val (.ref da), .val (.ref b2), .val (.ref b11), .val (.int 2), .val (.ref b11), .val (.int 2), .val (.int 3)] [(.int 2)]))) (fun t k => XS.iloadN X40.here hx rfl (hb hby d1_101) rfl k) ?_
  refine OD.go (B := (T40.setTop (mkF m 103 #[.val (.ref da), .val (.ref b2), .val (.ref b11), .val (.int 2), .val (.ref b11), .val (.int 2), .val (.int 3)] [(.int 2), (.int 2)]))) (fun t k => XS.iconst X40.here hx rfl (hb hby d1_102) k) ?_
  refine OD.go (B := (T40.setTop (mkF m 104 #[.val (.ref da), .val (.ref b2), .val (.ref b11), .val (.int 2), .val (.ref b11), .val (.int 2), .val (.int 3)] [(.int 4)]))) (fun t k => XS.imul X40.here hx rfl (hb hby d1_103) rfl k) ?_
  refine OD.go (B := (T40.setTop (mkF m 105 #[.val (.ref da), .val (.ref b2), .val (.ref b11), .val (.int 4), .val (.ref b11), .val (.int 2), .val (.int 3)] []))) (fun t k => XS.istoreN X40.here hx rfl (hb hby d1_104) rfl (l' := #[.val (.ref da), .val (.ref b2), .val (.ref b11), .val (.int 4), .val (.ref b11), .val (.int 2), .val (.int 3)]) rfl k) ?_
  refine OD.go (B := (T40.setTop (mkF m 30 #[.val (.ref da), .val (.ref b2), .val (.ref b11), .val (.int 4), .val (.ref b11), .val (.int 2), .val (.int 3)] []))) (fun t k => XS.goto X40.here hx rfl (pc0 := 105) (pc' := 30) rfl (hb hby d1_105) (by decide) (by decide) k) ?_
  refine OD.go (B := (T40.setTop (mkF m 31 #[.val (.ref da), .val (.ref b2), .val (.ref b11), .val (.int 4), .val (.ref b11), .val (.int 2), .val (.int 3)] [(.int 4)]))) (fun t k => XS.iloadN X40.here hx rfl (hb hby d1_30) rfl k) ?_
  refine OD.go (B := (T40.setTop (mkF m 32 #[.val (.ref da), .val (.ref b2), .val (.ref b11), .val (.int 4), .val (.ref b11), .val (.int 2), .val (.int 3)] [(.ref b2), (.int 4)]))) (fun t k => XS.aloadN X40.here hx rfl (hb hby d1_31) rfl rfl k) ?_
  obtain ⟨cl43, Ar43, hl43⟩ := own_len B40
  refine OD.go (B := (T40.setTop (mkF m 33 #[.val (.ref da), .val (.ref b2), .val (.ref b11), .val (.int 4), .val (.ref b11), .val (.int 2), .val (.int 3)] [(.int 3), (.int 4)]))) (fun t k => X40.arraylength hx (by exact Ar43.1) (State.isArrayOf_alike hZ.alike Ar43.2.1) (g := (mkF m 32 #[.val (.ref da), .val (.ref b2), .val (.ref b11), .val (.int 4), .val (.ref b11), .val (.int 2), .val (.int 3)] [(.ref b2), (.int 4)])) rfl rfl (hb hby d1_32) _ (by rw [hl43]; exact k)) ?_
  refine OD.go (B := (T40.setTop (mkF m 108 #[.val (.ref da), .val (.ref b2), .val (.ref b11), .val (.int 4), .val (.ref b11), .val (.int 2), .val (.int 3)] []))) (fun t k => XS.icmpYes X40.here hx rfl (pc0 := 33) (pc' := 108) rfl (hb hby d1_33) rfl (flt (by decide : ¬ (4 : Int32) < (3 : Int32))).2.1 (by decide) (by decide) k) ?_
  refine OD.go (B := (T40.setTop (mkF m 109 #[.val (.ref da), .val (.ref b2), .val (.ref b11), .val (.int 4), .val (.ref b11), .val (.int 2), .val (.int 3)] [(.ref b2)]))) (fun t k => XS.aloadN X40.here hx rfl (hb hby d1_108) rfl rfl k) ?_
  exact OD.ret X40 hx hlk (t := (.array .int)) Bd.returns rfl (Or.inr (Or.inr (Or.inr (Or.inr ⟨rfl, rfl, rfl⟩)))) (hb hby d1_109) (Nat.le_of_ble_eq_true rfl) (Nat.le_of_ble_eq_true rfl) ⟨_, _, rfl, N40, by exact (((((((((Keep.refl h0 []).ext E2).wr W4 (Or.inr (Nat.le_trans (Nat.le_refl _) (Nat.le_of_eq g2.symm)))).wr W6 (Or.inr (Nat.le_trans (Nat.le_refl _) (Nat.le_of_eq g2.symm)))).wr W8 (Or.inr (Nat.le_trans (Nat.le_refl _) (Nat.le_of_eq g2.symm)))).ext E11).trans K22 (allS (Or.inr (Nat.le_trans (Nat.le_trans (Nat.le_trans (Nat.le_trans (Nat.le_trans (Nat.le_refl _) E2.1) (Keep.of_wr W4).1) (Keep.of_wr W6).1) (Keep.of_wr W8).1) (Nat.le_of_eq g11.symm))) all0)).trans K30 (allS (Or.inr (Nat.le_trans (Nat.le_trans (Nat.le_trans (Nat.le_trans (Nat.le_trans (Nat.le_refl _) E2.1) (Keep.of_wr W4).1) (Keep.of_wr W6).1) (Keep.of_wr W8).1) (Nat.le_of_eq g11.symm))) all0)).trans K40 (allS (Or.inr (Nat.le_trans (Nat.le_refl _) (Nat.le_of_eq g2.symm))) all0)), (Nat.le_trans (Nat.le_refl _) (Nat.le_of_eq g2.symm)), by exact B40⟩
def Q_rmO4 (Z : State) (da : Addr) (h0 : Heap) (n0 : Nat) (sv : Int32 → UInt64) (v : Option Value) (h : Heap) (L : List Loc) : Prop := ∃ (b : Addr) (k : ClassId), v = some (.ref b) ∧ Fr n0 L ∧ Keep h0 h [] ∧ h0.size ≤ b ∧ Arv Z h b k .int 4 (own_rg (4 : Int32).toNatClampNeg (fun x => .int ((own_m4_2 sv) x))) (.int 0)
set_option maxRecDepth 65536 in
set_option maxHeartbeats 40000000 in
theorem rmO4 (l : Launch) (Z : State) (a0 : Array Value) (hw : ∀ d ∈ tables_1, d.before a0 Z = true) (ws : List Jvm.Cond) (da : Addr) (h0 : Heap) (n0 : Nat) (Z0 : n0 ≤ h0.size) (k0 : ClassId) (sv : Int32 → UInt64) (D1 : Arv Z h0 da k0 .double (4 : Int32) (own_rg (4 : Int32).toNatClampNeg (fun x => .double (sv x))) (.double 0)) :
    MetFree l (⟨"com/example/topside/topside/DescendingOrder", "of", "([D)[I"⟩ : MethodName) (head1 (Jvm.Cond.code (⟨"com/example/topside/topside/DescendingOrder", "of", "([D)[I"⟩ : MethodName) prog_5_method_2_code 7 (some (.array .int)) :: ws) ({ frames := 1, cells := 2, slots := 12, locals := 24 } : Room)) (fun a U => a = #[(.ref da)] ∧ Z.Warmed39 U.vm ∧ U.heap = h0) (fun _ _ _ _ _ => True) (fun _ U o U' => ∃ v L, o = .returned v ∧ Q_rmO4 Z da h0 n0 sv v U'.heap L ∧ FrameEnd U o U' L ({ frames := 1, cells := 2, slots := 12, locals := 24 } : Room).cells ({ frames := 1, cells := 2, slots := 12, locals := 24 } : Room).slots) := by
  refine MetFree.of_bodySF (plainFor_of_name pn0) hisR ?_
  intro p e s m args below meth c s₁ Bd hml0 hP hK
  obtain ⟨rfl, hZ, hh⟩ := hP
  have hx := Bd.exec
  have hby := Bd.bytes
  have hlk : meth.locks = false := Bd.notSynchronized
  have hml : c.maxLocals = 7 := hml0
  have hown : s.vm.findClass "com/example/topside/topside/DescendingOrder" = some m.cls := findClass_of_methodNamed Bd.named
  have hnm := (name_of_methodNamed Bd.named Bd.method).1
  have X0 : Stand p l e ({ frames := 1, cells := 2, slots := 12, locals := 24 } : Room) s m #[(.ref da)] below meth c s₁ [] 0 0 := Stand.of_body Bd
  have e0 : s₁.heap = h0 := by rw [← hh, Bd.state]; rfl
  have N0 := Fr.nil n0
  suffices hgo : OD p e s below (Q_rmO4 Z da h0 n0 sv) ({ frames := 1, cells := 2, slots := 12, locals := 24 } : Room).cells ({ frames := 1, cells := 2, slots := 12, locals := 24 } : Room).slots (s₁.setTop (mkF m 0 #[.val (.ref da), .unset, .unset, .unset, .unset, .unset, .unset] [])) by
    obtain ⟨s₂, o, hgo1, hgo2⟩ := hgo
    exact ⟨s₂, o, castTop (ef2 m da) hgo1, hgo2⟩
  refine OD.go (B := (s₁.setTop (mkF m 1 #[.val (.ref da), .unset, .unset, .unset, .unset, .unset, .unset] [(.ref da)]))) (fun t k => XS.aloadN X0.here hx rfl (hb hby d1_0) rfl rfl k) ?_
  obtain ⟨cl1, Ar1, hl1⟩ := own_len D1
  refine OD.go (B := (s₁.setTop (mkF m 2 #[.val (.ref da), .unset, .unset, .unset, .unset, .unset, .unset] [(.int 4)]))) (fun t k => X0.arraylength hx (by rw [e0]; exact Ar1.1) (State.isArrayOf_alike hZ.alike Ar1.2.1) (g := (mkF m 1 #[.val (.ref da), .unset, .unset, .unset, .unset, .unset, .unset] [(.ref da)])) rfl rfl (hb hby d1_1) _ (by rw [hl1]; exact k)) ?_
  obtain ⟨T2, h2, k2, X2, e2, E2, A2, st2⟩ := newP X0 hx hZ (aty := .int) (Wd5 hw) e0 (g := (mkF m 2 #[.val (.ref da), .unset, .unset, .unset, .unset, .unset, .unset] [(.int 4)])) rfl (hb hby d1_2) rfl (by decide) (cap := 4) (by decide) (by decide) (Nat.le_of_ble_eq_true rfl) (Nat.le_of_ble_eq_true rfl)
  obtain ⟨b2, g2⟩ : ∃ z, z = h0.size := ⟨_, rfl⟩
  rw [← g2] at A2 st2
  have V2 : Arv Z h2 b2 k2 .int 4 [(.int 0), (.int 0), (.int 0), (.int 0)] (.int 0) := (Arv.new A2 (by decide)).pad (pad_rep [] (.int 0) 4)
  refine OD.go (B := (T2.setTop (mkF m 4 #[.val (.ref da), .unset, .unset, .unset, .unset, .unset, .unset] [(.ref b2)]))) st2 ?_
  refine OD.go (B := (T2.setTop (mkF m 5 #[.val (.ref da), .val (.ref b2), .unset, .unset, .unset, .unset, .unset] []))) (fun t k => XS.astoreN X2.here hx rfl (hb hby d1_4) rfl rfl (l' := #[.val (.ref da), .val (.ref b2), .unset, .unset, .unset, .unset, .unset]) rfl k) ?_
  refine OD.go (B := (T2.setTop (mkF m 6 #[.val (.ref da), .val (.ref b2), .unset, .unset, .unset, .unset, .unset] [(.int 0)]))) (fun t k => XS.iconst X2.here hx rfl (hb hby d1_5) k) ?_
  refine OD.go (B := (T2.setTop (mkF m 7 #[.val (.ref da), .val (.ref b2), .val (.int 0), .unset, .unset, .unset, .unset] []))) (fun t k => XS.istoreN X2.here hx rfl (hb hby d1_6) rfl (l' := #[.val (.ref da), .val (.ref b2), .val (.int 0), .unset, .unset, .unset, .unset]) rfl k) ?_
  refine OD.go (B := (T2.setTop (mkF m 8 #[.val (.ref da), .val (.ref b2), .val (.int 0), .unset, .unset, .unset, .unset] [(.int 0)]))) (fun t k => XS.iloadN X2.here hx rfl (hb hby d1_7) rfl k) ?_
  refine OD.go (B := (T2.setTop (mkF m 9 #[.val (.ref da), .val (.ref b2), .val (.int 0), .unset, .unset, .unset, .unset] [(.ref b2), (.int 0)]))) (fun t k => XS.aloadN X2.here hx rfl (hb hby d1_8) rfl rfl k) ?_
  obtain ⟨cl3, Ar3, hl3⟩ := own_len V2
  refine OD.go (B := (T2.setTop (mkF m 10 #[.val (.ref da), .val (.ref b2), .val (.int 0), .unset, .unset, .unset, .unset] [(.int 4), (.int 0)]))) (fun t k => X2.arraylength hx (by rw [e2]; exact Ar3.1) (State.isArrayOf_alike hZ.alike Ar3.2.1) (g := (mkF m 9 #[.val (.ref da), .val (.ref b2), .val (.int 0), .unset, .unset, .unset, .unset] [(.ref b2), (.int 0)])) rfl rfl (hb hby d1_9) _ (by rw [hl3]; exact k)) ?_
  refine OD.go (B := (T2.setTop (mkF m 13 #[.val (.ref da), .val (.ref b2), .val (.int 0), .unset, .unset, .unset, .unset] []))) (fun t k => XS.icmpNo X2.here hx rfl (hb hby d1_10) rfl (tlt (by decide : (0 : Int32) < (4 : Int32))).2.1 k) ?_
  refine OD.go (B := (T2.setTop (mkF m 14 #[.val (.ref da), .val (.ref b2), .val (.int 0), .unset, .unset, .unset, .unset] [(.ref b2)]))) (fun t k => XS.aloadN X2.here hx rfl (hb hby d1_13) rfl rfl k) ?_
  refine OD.go (B := (T2.setTop (mkF m 15 #[.val (.ref da), .val (.ref b2), .val (.int 0), .unset, .unset, .unset, .unset] [(.int 0), (.ref b2)]))) (fun t k => XS.iloadN X2.here hx rfl (hb hby d1_14) rfl k) ?_
  refine OD.go (B := (T2.setTop (mkF m 16 #[.val (.ref da), .val (.ref b2), .val (.int 0), .unset, .unset, .unset, .unset] [(.int 0), (.int 0), (.ref b2)]))) (fun t k => XS.iloadN X2.here hx rfl (hb hby d1_15) rfl k) ?_
  obtain ⟨cl4, Ar4, q4, S4, M4, H4, G4⟩ := id V2
  obtain ⟨T4, h4, X4, e4, W4, st4⟩ := stI X2 hx hZ e2 Ar4 (j := (0 : Int32)) (inb_of S4 ⟨by decide, by decide⟩) (g := (mkF m 16 #[.val (.ref da), .val (.ref b2), .val (.int 0), .unset, .unset, .unset, .unset] [(.int 0), (.int 0), (.ref b2)])) rfl rfl (hb hby d1_16)
  have V4 : Arv Z h4 b2 k2 .int 4 [(.int 0), (.int 0), (.int 0), (.int 0)] (.int 0) := Arv.set Ar4 q4 S4 M4 H4 G4 rfl W4 0 rfl (Nat.le_of_ble_eq_true rfl)
  have N4 := Fr.snoc X4 N0 (Nat.le_trans Z0 (Nat.le_of_eq g2.symm))
  refine OD.go (B := (T4.setTop (mkF m 17 #[.val (.ref da), .val (.ref b2), .val (.int 0), .unset, .unset, .unset, .unset] []))) st4 ?_
  refine OD.go (B := (T4.setTop (mkF m 20 #[.val (.ref da), .val (.ref b2), .val (.int 1), .unset, .unset, .unset, .unset] []))) (fun t k => XS.iinc X4.here hx rfl (hb hby d1_17) rfl (l' := #[.val (.ref da), .val (.ref b2), .val (.int 1), .unset, .unset, .unset, .unset]) rfl k) ?_
  refine OD.go (B := (T4.setTop (mkF m 7 #[.val (.ref da), .val (.ref b2), .val (.int 1), .unset, .unset, .unset, .unset] []))) (fun t k => XS.goto X4.here hx rfl (pc0 := 20) (pc' := 7) rfl (hb hby d1_20) (by decide) (by decide) k) ?_
  refine OD.go (B := (T4.setTop (mkF m 8 #[.val (.ref da), .val (.ref b2), .val (.int 1), .unset, .unset, .unset, .unset] [(.int 1)]))) (fun t k => XS.iloadN X4.here hx rfl (hb hby d1_7) rfl k) ?_
  refine OD.go (B := (T4.setTop (mkF m 9 #[.val (.ref da), .val (.ref b2), .val (.int 1), .unset, .unset, .unset, .unset] [(.ref b2), (.int 1)]))) (fun t k => XS.aloadN X4.here hx rfl (hb hby d1_8) rfl rfl k) ?_
  obtain ⟨cl5, Ar5, hl5⟩ := own_len V4
  refine OD.go (B := (T4.setTop (mkF m 10 #[.val (.ref da), .val (.ref b2), .val (.int 1), .unset, .unset, .unset, .unset] [(.int 4), (.int 1)]))) (fun t k => X4.arraylength hx (by rw [e4]; exact Ar5.1) (State.isArrayOf_alike hZ.alike Ar5.2.1) (g := (mkF m 9 #[.val (.ref da), .val (.ref b2), .val (.int 1), .unset, .unset, .unset, .unset] [(.ref b2), (.int 1)])) rfl rfl (hb hby d1_9) _ (by rw [hl5]; exact k)) ?_
  refine OD.go (B := (T4.setTop (mkF m 13 #[.val (.ref da), .val (.ref b2), .val (.int 1), .unset, .unset, .unset, .unset] []))) (fun t k => XS.icmpNo X4.here hx rfl (hb hby d1_10) rfl (tlt (by decide : (1 : Int32) < (4 : Int32))).2.1 k) ?_
  refine OD.go (B := (T4.setTop (mkF m 14 #[.val (.ref da), .val (.ref b2), .val (.int 1), .unset, .unset, .unset, .unset] [(.ref b2)]))) (fun t k => XS.aloadN X4.here hx rfl (hb hby d1_13) rfl rfl k) ?_
  refine OD.go (B := (T4.setTop (mkF m 15 #[.val (.ref da), .val (.ref b2), .val (.int 1), .unset, .unset, .unset, .unset] [(.int 1), (.ref b2)]))) (fun t k => XS.iloadN X4.here hx rfl (hb hby d1_14) rfl k) ?_
  refine OD.go (B := (T4.setTop (mkF m 16 #[.val (.ref da), .val (.ref b2), .val (.int 1), .unset, .unset, .unset, .unset] [(.int 1), (.int 1), (.ref b2)]))) (fun t k => XS.iloadN X4.here hx rfl (hb hby d1_15) rfl k) ?_
  obtain ⟨cl6, Ar6, q6, S6, M6, H6, G6⟩ := id V4
  obtain ⟨T6, h6, X6, e6, W6, st6⟩ := stI X4 hx hZ e4 Ar6 (j := (1 : Int32)) (inb_of S6 ⟨by decide, by decide⟩) (g := (mkF m 16 #[.val (.ref da), .val (.ref b2), .val (.int 1), .unset, .unset, .unset, .unset] [(.int 1), (.int 1), (.ref b2)])) rfl rfl (hb hby d1_16)
  have V6 : Arv Z h6 b2 k2 .int 4 [(.int 0), (.int 1), (.int 0), (.int 0)] (.int 0) := Arv.set Ar6 q6 S6 M6 H6 G6 rfl W6 1 rfl (Nat.le_of_ble_eq_true rfl)
  have N6 := Fr.snoc X6 N4 (Nat.le_trans Z0 (Nat.le_of_eq g2.symm))
  refine OD.go (B := (T6.setTop (mkF m 17 #[.val (.ref da), .val (.ref b2), .val (.int 1), .unset, .unset, .unset, .unset] []))) st6 ?_
  refine OD.go (B := (T6.setTop (mkF m 20 #[.val (.ref da), .val (.ref b2), .val (.int 2), .unset, .unset, .unset, .unset] []))) (fun t k => XS.iinc X6.here hx rfl (hb hby d1_17) rfl (l' := #[.val (.ref da), .val (.ref b2), .val (.int 2), .unset, .unset, .unset, .unset]) rfl k) ?_
  refine OD.go (B := (T6.setTop (mkF m 7 #[.val (.ref da), .val (.ref b2), .val (.int 2), .unset, .unset, .unset, .unset] []))) (fun t k => XS.goto X6.here hx rfl (pc0 := 20) (pc' := 7) rfl (hb hby d1_20) (by decide) (by decide) k) ?_
  refine OD.go (B := (T6.setTop (mkF m 8 #[.val (.ref da), .val (.ref b2), .val (.int 2), .unset, .unset, .unset, .unset] [(.int 2)]))) (fun t k => XS.iloadN X6.here hx rfl (hb hby d1_7) rfl k) ?_
  refine OD.go (B := (T6.setTop (mkF m 9 #[.val (.ref da), .val (.ref b2), .val (.int 2), .unset, .unset, .unset, .unset] [(.ref b2), (.int 2)]))) (fun t k => XS.aloadN X6.here hx rfl (hb hby d1_8) rfl rfl k) ?_
  obtain ⟨cl7, Ar7, hl7⟩ := own_len V6
  refine OD.go (B := (T6.setTop (mkF m 10 #[.val (.ref da), .val (.ref b2), .val (.int 2), .unset, .unset, .unset, .unset] [(.int 4), (.int 2)]))) (fun t k => X6.arraylength hx (by rw [e6]; exact Ar7.1) (State.isArrayOf_alike hZ.alike Ar7.2.1) (g := (mkF m 9 #[.val (.ref da), .val (.ref b2), .val (.int 2), .unset, .unset, .unset, .unset] [(.ref b2), (.int 2)])) rfl rfl (hb hby d1_9) _ (by rw [hl7]; exact k)) ?_
  refine OD.go (B := (T6.setTop (mkF m 13 #[.val (.ref da), .val (.ref b2), .val (.int 2), .unset, .unset, .unset, .unset] []))) (fun t k => XS.icmpNo X6.here hx rfl (hb hby d1_10) rfl (tlt (by decide : (2 : Int32) < (4 : Int32))).2.1 k) ?_
  refine OD.go (B := (T6.setTop (mkF m 14 #[.val (.ref da), .val (.ref b2), .val (.int 2), .unset, .unset, .unset, .unset] [(.ref b2)]))) (fun t k => XS.aloadN X6.here hx rfl (hb hby d1_13) rfl rfl k) ?_
  refine OD.go (B := (T6.setTop (mkF m 15 #[.val (.ref da), .val (.ref b2), .val (.int 2), .unset, .unset, .unset, .unset] [(.int 2), (.ref b2)]))) (fun t k => XS.iloadN X6.here hx rfl (hb hby d1_14) rfl k) ?_
  refine OD.go (B := (T6.setTop (mkF m 16 #[.val (.ref da), .val (.ref b2), .val (.int 2), .unset, .unset, .unset, .unset] [(.int 2), (.int 2), (.ref b2)]))) (fun t k => XS.iloadN X6.here hx rfl (hb hby d1_15) rfl k) ?_
  obtain ⟨cl8, Ar8, q8, S8, M8, H8, G8⟩ := id V6
  obtain ⟨T8, h8, X8, e8, W8, st8⟩ := stI X6 hx hZ e6 Ar8 (j := (2 : Int32)) (inb_of S8 ⟨by decide, by decide⟩) (g := (mkF m 16 #[.val (.ref da), .val (.ref b2), .val (.int 2), .unset, .unset, .unset, .unset] [(.int 2), (.int 2), (.ref b2)])) rfl rfl (hb hby d1_16)
  have V8 : Arv Z h8 b2 k2 .int 4 [(.int 0), (.int 1), (.int 2), (.int 0)] (.int 0) := Arv.set Ar8 q8 S8 M8 H8 G8 rfl W8 2 rfl (Nat.le_of_ble_eq_true rfl)
  have N8 := Fr.snoc X8 N6 (Nat.le_trans Z0 (Nat.le_of_eq g2.symm))
  refine OD.go (B := (T8.setTop (mkF m 17 #[.val (.ref da), .val (.ref b2), .val (.int 2), .unset, .unset, .unset, .unset] []))) st8 ?_
  refine OD.go (B := (T8.setTop (mkF m 20 #[.val (.ref da), .val (.ref b2), .val (.int 3), .unset, .unset, .unset, .unset] []))) (fun t k => XS.iinc X8.here hx rfl (hb hby d1_17) rfl (l' := #[.val (.ref da), .val (.ref b2), .val (.int 3), .unset, .unset, .unset, .unset]) rfl k) ?_
  refine OD.go (B := (T8.setTop (mkF m 7 #[.val (.ref da), .val (.ref b2), .val (.int 3), .unset, .unset, .unset, .unset] []))) (fun t k => XS.goto X8.here hx rfl (pc0 := 20) (pc' := 7) rfl (hb hby d1_20) (by decide) (by decide) k) ?_
  refine OD.go (B := (T8.setTop (mkF m 8 #[.val (.ref da), .val (.ref b2), .val (.int 3), .unset, .unset, .unset, .unset] [(.int 3)]))) (fun t k => XS.iloadN X8.here hx rfl (hb hby d1_7) rfl k) ?_
  refine OD.go (B := (T8.setTop (mkF m 9 #[.val (.ref da), .val (.ref b2), .val (.int 3), .unset, .unset, .unset, .unset] [(.ref b2), (.int 3)]))) (fun t k => XS.aloadN X8.here hx rfl (hb hby d1_8) rfl rfl k) ?_
  obtain ⟨cl9, Ar9, hl9⟩ := own_len V8
  refine OD.go (B := (T8.setTop (mkF m 10 #[.val (.ref da), .val (.ref b2), .val (.int 3), .unset, .unset, .unset, .unset] [(.int 4), (.int 3)]))) (fun t k => X8.arraylength hx (by rw [e8]; exact Ar9.1) (State.isArrayOf_alike hZ.alike Ar9.2.1) (g := (mkF m 9 #[.val (.ref da), .val (.ref b2), .val (.int 3), .unset, .unset, .unset, .unset] [(.ref b2), (.int 3)])) rfl rfl (hb hby d1_9) _ (by rw [hl9]; exact k)) ?_
  refine OD.go (B := (T8.setTop (mkF m 13 #[.val (.ref da), .val (.ref b2), .val (.int 3), .unset, .unset, .unset, .unset] []))) (fun t k => XS.icmpNo X8.here hx rfl (hb hby d1_10) rfl (tlt (by decide : (3 : Int32) < (4 : Int32))).2.1 k) ?_
  refine OD.go (B := (T8.setTop (mkF m 14 #[.val (.ref da), .val (.ref b2), .val (.int 3), .unset, .unset, .unset, .unset] [(.ref b2)]))) (fun t k => XS.aloadN X8.here hx rfl (hb hby d1_13) rfl rfl k) ?_
  refine OD.go (B := (T8.setTop (mkF m 15 #[.val (.ref da), .val (.ref b2), .val (.int 3), .unset, .unset, .unset, .unset] [(.int 3), (.ref b2)]))) (fun t k => XS.iloadN X8.here hx rfl (hb hby d1_14) rfl k) ?_
  refine OD.go (B := (T8.setTop (mkF m 16 #[.val (.ref da), .val (.ref b2), .val (.int 3), .unset, .unset, .unset, .unset] [(.int 3), (.int 3), (.ref b2)]))) (fun t k => XS.iloadN X8.here hx rfl (hb hby d1_15) rfl k) ?_
  obtain ⟨cl10, Ar10, q10, S10, M10, H10, G10⟩ := id V8
  obtain ⟨T10, h10, X10, e10, W10, st10⟩ := stI X8 hx hZ e8 Ar10 (j := (3 : Int32)) (inb_of S10 ⟨by decide, by decide⟩) (g := (mkF m 16 #[.val (.ref da), .val (.ref b2), .val (.int 3), .unset, .unset, .unset, .unset] [(.int 3), (.int 3), (.ref b2)])) rfl rfl (hb hby d1_16)
  have V10 : Arv Z h10 b2 k2 .int 4 [(.int 0), (.int 1), (.int 2), (.int 3)] (.int 0) := Arv.set Ar10 q10 S10 M10 H10 G10 rfl W10 3 rfl (Nat.le_of_ble_eq_true rfl)
  have N10 := Fr.snoc X10 N8 (Nat.le_trans Z0 (Nat.le_of_eq g2.symm))
  refine OD.go (B := (T10.setTop (mkF m 17 #[.val (.ref da), .val (.ref b2), .val (.int 3), .unset, .unset, .unset, .unset] []))) st10 ?_
  refine OD.go (B := (T10.setTop (mkF m 20 #[.val (.ref da), .val (.ref b2), .val (.int 4), .unset, .unset, .unset, .unset] []))) (fun t k => XS.iinc X10.here hx rfl (hb hby d1_17) rfl (l' := #[.val (.ref da), .val (.ref b2), .val (.int 4), .unset, .unset, .unset, .unset]) rfl k) ?_
  refine OD.go (B := (T10.setTop (mkF m 7 #[.val (.ref da), .val (.ref b2), .val (.int 4), .unset, .unset, .unset, .unset] []))) (fun t k => XS.goto X10.here hx rfl (pc0 := 20) (pc' := 7) rfl (hb hby d1_20) (by decide) (by decide) k) ?_
  refine OD.go (B := (T10.setTop (mkF m 8 #[.val (.ref da), .val (.ref b2), .val (.int 4), .unset, .unset, .unset, .unset] [(.int 4)]))) (fun t k => XS.iloadN X10.here hx rfl (hb hby d1_7) rfl k) ?_
  refine OD.go (B := (T10.setTop (mkF m 9 #[.val (.ref da), .val (.ref b2), .val (.int 4), .unset, .unset, .unset, .unset] [(.ref b2), (.int 4)]))) (fun t k => XS.aloadN X10.here hx rfl (hb hby d1_8) rfl rfl k) ?_
  obtain ⟨cl11, Ar11, hl11⟩ := own_len V10
  refine OD.go (B := (T10.setTop (mkF m 10 #[.val (.ref da), .val (.ref b2), .val (.int 4), .unset, .unset, .unset, .unset] [(.int 4), (.int 4)]))) (fun t k => X10.arraylength hx (by rw [e10]; exact Ar11.1) (State.isArrayOf_alike hZ.alike Ar11.2.1) (g := (mkF m 9 #[.val (.ref da), .val (.ref b2), .val (.int 4), .unset, .unset, .unset, .unset] [(.ref b2), (.int 4)])) rfl rfl (hb hby d1_9) _ (by rw [hl11]; exact k)) ?_
  refine OD.go (B := (T10.setTop (mkF m 23 #[.val (.ref da), .val (.ref b2), .val (.int 4), .unset, .unset, .unset, .unset] []))) (fun t k => XS.icmpYes X10.here hx rfl (pc0 := 10) (pc' := 23) rfl (hb hby d1_10) rfl (flt (by decide : ¬ (4 : Int32) < (4 : Int32))).2.1 (by decide) (by decide) k) ?_
  refine OD.go (B := (T10.setTop (mkF m 24 #[.val (.ref da), .val (.ref b2), .val (.int 4), .unset, .unset, .unset, .unset] [(.ref b2)]))) (fun t k => XS.aloadN X10.here hx rfl (hb hby d1_23) rfl rfl k) ?_
  obtain ⟨cl12, Ar12, hl12⟩ := own_len V10
  refine OD.go (B := (T10.setTop (mkF m 25 #[.val (.ref da), .val (.ref b2), .val (.int 4), .unset, .unset, .unset, .unset] [(.int 4)]))) (fun t k => X10.arraylength hx (by rw [e10]; exact Ar12.1) (State.isArrayOf_alike hZ.alike Ar12.2.1) (g := (mkF m 24 #[.val (.ref da), .val (.ref b2), .val (.int 4), .unset, .unset, .unset, .unset] [(.ref b2)])) rfl rfl (hb hby d1_24) _ (by rw [hl12]; exact k)) ?_
  obtain ⟨T13, h13, k13, X13, e13, E13, A13, st13⟩ := newP X10 hx hZ (aty := .int) (Wd5 hw) e10 (g := (mkF m 25 #[.val (.ref da), .val (.ref b2), .val (.int 4), .unset, .unset, .unset, .unset] [(.int 4)])) rfl (hb hby d1_25) rfl (by decide) (cap := 4) (by decide) (by decide) (Nat.le_of_ble_eq_true rfl) (Nat.le_of_ble_eq_true rfl)
  obtain ⟨b13, g13⟩ : ∃ z, z = h10.size := ⟨_, rfl⟩
  rw [← g13] at A13 st13
  have V13 : Arv Z h13 b13 k13 .int 4 [(.int 0), (.int 0), (.int 0), (.int 0)] (.int 0) := (Arv.new A13 (by decide)).pad (pad_rep [] (.int 0) 4)
  refine OD.go (B := (T13.setTop (mkF m 27 #[.val (.ref da), .val (.ref b2), .val (.int 4), .unset, .unset, .unset, .unset] [(.ref b13)]))) st13 ?_
  refine OD.go (B := (T13.setTop (mkF m 28 #[.val (.ref da), .val (.ref b2), .val (.ref b13), .unset, .unset, .unset, .unset] []))) (fun t k => XS.astoreN X13.here hx rfl (hb hby d1_27) rfl rfl (l' := #[.val (.ref da), .val (.ref b2), .val (.ref b13), .unset, .unset, .unset, .unset]) rfl k) ?_
  refine OD.go (B := (T13.setTop (mkF m 29 #[.val (.ref da), .val (.ref b2), .val (.ref b13), .unset, .unset, .unset, .unset] [(.int 1)]))) (fun t k => XS.iconst X13.here hx rfl (hb hby d1_28) k) ?_
  refine OD.go (B := (T13.setTop (mkF m 30 #[.val (.ref da), .val (.ref b2), .val (.ref b13), .val (.int 1), .unset, .unset, .unset] []))) (fun t k => XS.istoreN X13.here hx rfl (hb hby d1_29) rfl (l' := #[.val (.ref da), .val (.ref b2), .val (.ref b13), .val (.int 1), .unset, .unset, .unset]) rfl k) ?_
  refine OD.go (B := (T13.setTop (mkF m 31 #[.val (.ref da), .val (.ref b2), .val (.ref b13), .val (.int 1), .unset, .unset, .unset] [(.int 1)]))) (fun t k => XS.iloadN X13.here hx rfl (hb hby d1_30) rfl k) ?_
  refine OD.go (B := (T13.setTop (mkF m 32 #[.val (.ref da), .val (.ref b2), .val (.ref b13), .val (.int 1), .unset, .unset, .unset] [(.ref b2), (.int 1)]))) (fun t k => XS.aloadN X13.here hx rfl (hb hby d1_31) rfl rfl k) ?_
  have f14 := (V10.ext E13)
  obtain ⟨cl15, Ar15, hl15⟩ := own_len f14
  refine OD.go (B := (T13.setTop (mkF m 33 #[.val (.ref da), .val (.ref b2), .val (.ref b13), .val (.int 1), .unset, .unset, .unset] [(.int 4), (.int 1)]))) (fun t k => X13.arraylength hx (by rw [e13]; exact Ar15.1) (State.isArrayOf_alike hZ.alike Ar15.2.1) (g := (mkF m 32 #[.val (.ref da), .val (.ref b2), .val (.ref b13), .val (.int 1), .unset, .unset, .unset] [(.ref b2), (.int 1)])) rfl rfl (hb hby d1_32) _ (by rw [hl15]; exact k)) ?_
  refine OD.go (B := (T13.setTop (mkF m 36 #[.val (.ref da), .val (.ref b2), .val (.ref b13), .val (.int 1), .unset, .unset, .unset] []))) (fun t k => XS.icmpNo X13.here hx rfl (hb hby d1_33) rfl (tlt (by decide : (1 : Int32) < (4 : Int32))).2.1 k) ?_
  refine OD.go (B := (T13.setTop (mkF m 37 #[.val (.ref da), .val (.ref b2), .val (.ref b13), .val (.int 1), .unset, .unset, .unset] [(.int 0)]))) (fun t k => XS.iconst X13.here hx rfl (hb hby d1_36) k) ?_
  refine OD.go (B := (T13.setTop (mkF m 39 #[.val (.ref da), .val (.ref b2), .val (.ref b13), .val (.int 1), .val (.int 0), .unset, .unset] []))) (fun t k => XS.istore X13.here hx rfl (hb hby d1_37) rfl (l' := #[.val (.ref da), .val (.ref b2), .val (.ref b13), .val (.int 1), .val (.int 0), .unset, .unset]) rfl k) ?_
  refine OD.go (B := (T13.setTop (mkF m 41 #[.val (.ref da), .val (.ref b2), .val (.ref b13), .val (.int 1), .val (.int 0), .unset, .unset] [(.int 0)]))) (fun t k => XS.iload X13.here hx rfl (hb hby d1_39) rfl k) ?_
  refine OD.go (B := (T13.setTop (mkF m 42 #[.val (.ref da), .val (.ref b2), .val (.ref b13), .val (.int 1), .val (.int 0), .unset, .unset] [(.ref b2), (.int 0)]))) (fun t k => XS.aloadN X13.here hx rfl (hb hby d1_41) rfl rfl k) ?_
  obtain ⟨cl16, Ar16, hl16⟩ := own_len f14
  refine OD.go (B := (T13.setTop (mkF m 43 #[.val (.ref da), .val (.ref b2), .val (.ref b13), .val (.int 1), .val (.int 0), .unset, .unset] [(.int 4), (.int 0)]))) (fun t k => X13.arraylength hx (by rw [e13]; exact Ar16.1) (State.isArrayOf_alike hZ.alike Ar16.2.1) (g := (mkF m 42 #[.val (.ref da), .val (.ref b2), .val (.ref b13), .val (.int 1), .val (.int 0), .unset, .unset] [(.ref b2), (.int 0)])) rfl rfl (hb hby d1_42) _ (by rw [hl16]; exact k)) ?_
  refine OD.go (B := (T13.setTop (mkF m 46 #[.val (.ref da), .val (.ref b2), .val (.ref b13), .val (.int 1), .val (.int 0), .unset, .unset] []))) (fun t k => XS.icmpNo X13.here hx rfl (hb hby d1_43) rfl (tlt (by decide : (0 : Int32) < (4 : Int32))).2.1 k) ?_
  refine OD.go (B := (T13.setTop (mkF m 48 #[.val (.ref da), .val (.ref b2), .val (.ref b13), .val (.int 1), .val (.int 0), .unset, .unset] [(.int 0)]))) (fun t k => XS.iload X13.here hx rfl (hb hby d1_46) rfl k) ?_
  refine OD.go (B := (T13.setTop (mkF m 49 #[.val (.ref da), .val (.ref b2), .val (.ref b13), .val (.int 1), .val (.int 0), .unset, .unset] [(.int 1), (.int 0)]))) (fun t k => XS.iloadN X13.here hx rfl (hb hby d1_48) rfl k) ?_
  refine OD.go (B := (T13.setTop (mkF m 50 #[.val (.ref da), .val (.ref b2), .val (.ref b13), .val (.int 1), .val (.int 0), .unset, .unset] [(.int 1)]))) (fun t k => XS.iadd X13.here hx rfl (hb hby d1_49) rfl k) ?_
  refine OD.go (B := (T13.setTop (mkF m 51 #[.val (.ref da), .val (.ref b2), .val (.ref b13), .val (.int 1), .val (.int 0), .unset, .unset] [(.ref b2), (.int 1)]))) (fun t k => XS.aloadN X13.here hx rfl (hb hby d1_50) rfl rfl k) ?_
  obtain ⟨cl17, Ar17, hl17⟩ := own_len f14
  refine OD.go (B := (T13.setTop (mkF m 52 #[.val (.ref da), .val (.ref b2), .val (.ref b13), .val (.int 1), .val (.int 0), .unset, .unset] [(.int 4), (.int 1)]))) (fun t k => X13.arraylength hx (by rw [e13]; exact Ar17.1) (State.isArrayOf_alike hZ.alike Ar17.2.1) (g := (mkF m 51 #[.val (.ref da), .val (.ref b2), .val (.ref b13), .val (.int 1), .val (.int 0), .unset, .unset] [(.ref b2), (.int 1)])) rfl rfl (hb hby d1_51) _ (by rw [hl17]; exact k)) ?_
  obtain ⟨_, _, ⟨T18, L18, k18, n18⟩, -, X18, ⟨Lc18, hQ18, l18, y18, z18⟩, st18⟩ := Jvm.LawKit.callS X13 hx (y := (⟨"java/lang/Math", "min", "(II)I"⟩ : MethodName)) hown (mvT hZ (Wd13 hw)) (mvT hZ (Wd14 hw)) (mvT hZ (Wd15 hw)) (mvT hZ (Wd16 hw)) (by decide) (backOf (W := 0) (rmMn1_4 l Z a0 hw [] h13) hZ (Wd16 hw) (Wd15 hw) (by decide) (by decide)) (g := (mkF m 52 #[.val (.ref da), .val (.ref b2), .val (.ref b13), .val (.int 1), .val (.int 0), .unset, .unset] [(.int 4), (.int 1)])) rfl (by rw [hml]; rfl) (argsL := [(.int 1), (.int 4)]) (rest := []) (lenOf pd0 rfl) rfl (by show 2 * 0 + _ ≤ _; exact Nat.le_of_eq rfl) (hb hby d1_52) (fun _ _ => ⟨rfl, e13, (Nat.le_of_ble_eq_true rfl), (Nat.le_of_ble_eq_true rfl)⟩)
  dsimp only [Pt.U, Pt.locs, Pt.cells, Pt.slots] at X18 l18 y18 z18 st18 hQ18
  subst l18 y18 z18
  obtain ⟨rfl, rfl, e18⟩ := hQ18
  try rw [List.append_nil] at X18
  refine OD.go (B := (T18.setTop (mkF m 55 #[.val (.ref da), .val (.ref b2), .val (.ref b13), .val (.int 1), .val (.int 0), .unset, .unset] [(.int 1)]))) st18 ?_
  refine OD.go (B := (T18.setTop (mkF m 57 #[.val (.ref da), .val (.ref b2), .val (.ref b13), .val (.int 1), .val (.int 0), .val (.int 1), .unset] []))) (fun t k => XS.istore X18.here hx rfl (hb hby d1_55) rfl (l' := #[.val (.ref da), .val (.ref b2), .val (.ref b13), .val (.int 1), .val (.int 0), .val (.int 1), .unset]) rfl k) ?_
  refine OD.go (B := (T18.setTop (mkF m 59 #[.val (.ref da), .val (.ref b2), .val (.ref b13), .val (.int 1), .val (.int 0), .val (.int 1), .unset] [(.int 0)]))) (fun t k => XS.iload X18.here hx rfl (hb hby d1_57) rfl k) ?_
  refine OD.go (B := (T18.setTop (mkF m 60 #[.val (.ref da), .val (.ref b2), .val (.ref b13), .val (.int 1), .val (.int 0), .val (.int 1), .unset] [(.int 2), (.int 0)]))) (fun t k => XS.iconst X18.here hx rfl (hb hby d1_59) k) ?_
  refine OD.go (B := (T18.setTop (mkF m 61 #[.val (.ref da), .val (.ref b2), .val (.ref b13), .val (.int 1), .val (.int 0), .val (.int 1), .unset] [(.int 1), (.int 2), (.int 0)]))) (fun t k => XS.iloadN X18.here hx rfl (hb hby d1_60) rfl k) ?_
  refine OD.go (B := (T18.setTop (mkF m 62 #[.val (.ref da), .val (.ref b2), .val (.ref b13), .val (.int 1), .val (.int 0), .val (.int 1), .unset] [(.int 2), (.int 0)]))) (fun t k => XS.imul X18.here hx rfl (hb hby d1_61) rfl k) ?_
  refine OD.go (B := (T18.setTop (mkF m 63 #[.val (.ref da), .val (.ref b2), .val (.ref b13), .val (.int 1), .val (.int 0), .val (.int 1), .unset] [(.int 2)]))) (fun t k => XS.iadd X18.here hx rfl (hb hby d1_62) rfl k) ?_
  refine OD.go (B := (T18.setTop (mkF m 64 #[.val (.ref da), .val (.ref b2), .val (.ref b13), .val (.int 1), .val (.int 0), .val (.int 1), .unset] [(.ref b2), (.int 2)]))) (fun t k => XS.aloadN X18.here hx rfl (hb hby d1_63) rfl rfl k) ?_
  obtain ⟨cl19, Ar19, hl19⟩ := own_len f14
  refine OD.go (B := (T18.setTop (mkF m 65 #[.val (.ref da), .val (.ref b2), .val (.ref b13), .val (.int 1), .val (.int 0), .val (.int 1), .unset] [(.int 4), (.int 2)]))) (fun t k => X18.arraylength hx (by rw [e18]; exact Ar19.1) (State.isArrayOf_alike hZ.alike Ar19.2.1) (g := (mkF m 64 #[.val (.ref da), .val (.ref b2), .val (.ref b13), .val (.int 1), .val (.int 0), .val (.int 1), .unset] [(.ref b2), (.int 2)])) rfl rfl (hb hby d1_64) _ (by rw [hl19]; exact k)) ?_
  obtain ⟨_, _, ⟨T20, L20, k20, n20⟩, -, X20, ⟨Lc20, hQ20, l20, y20, z20⟩, st20⟩ := Jvm.LawKit.callS X18 hx (y := (⟨"java/lang/Math", "min", "(II)I"⟩ : MethodName)) hown (mvT hZ (Wd13 hw)) (mvT hZ (Wd14 hw)) (mvT hZ (Wd15 hw)) (mvT hZ (Wd16 hw)) (by decide) (backOf (W := 0) (rmMn2_4 l Z a0 hw [] h13) hZ (Wd16 hw) (Wd15 hw) (by decide) (by decide)) (g := (mkF m 65 #[.val (.ref da), .val (.ref b2), .val (.ref b13), .val (.int 1), .val (.int 0), .val (.int 1), .unset] [(.int 4), (.int 2)])) rfl (by rw [hml]; rfl) (argsL := [(.int 2), (.int 4)]) (rest := []) (lenOf pd0 rfl) rfl (by show 2 * 0 + _ ≤ _; exact Nat.le_of_eq rfl) (hb hby d1_65) (fun _ _ => ⟨rfl, e18, (Nat.le_of_ble_eq_true rfl), (Nat.le_of_ble_eq_true rfl)⟩)
  dsimp only [Pt.U, Pt.locs, Pt.cells, Pt.slots] at X20 l20 y20 z20 st20 hQ20
  subst l20 y20 z20
  obtain ⟨rfl, rfl, e20⟩ := hQ20
  try rw [List.append_nil] at X20
  refine OD.go (B := (T20.setTop (mkF m 68 #[.val (.ref da), .val (.ref b2), .val (.ref b13), .val (.int 1), .val (.int 0), .val (.int 1), .unset] [(.int 2)]))) st20 ?_
  refine OD.go (B := (T20.setTop (mkF m 70 #[.val (.ref da), .val (.ref b2), .val (.ref b13), .val (.int 1), .val (.int 0), .val (.int 1), .val (.int 2)] []))) (fun t k => XS.istore X20.here hx rfl (hb hby d1_68) rfl (l' := #[.val (.ref da), .val (.ref b2), .val (.ref b13), .val (.int 1), .val (.int 0), .val (.int 1), .val (.int 2)]) rfl k) ?_
  refine OD.go (B := (T20.setTop (mkF m 71 #[.val (.ref da), .val (.ref b2), .val (.ref b13), .val (.int 1), .val (.int 0), .val (.int 1), .val (.int 2)] [(.ref da)]))) (fun t k => XS.aloadN X20.here hx rfl (hb hby d1_70) rfl rfl k) ?_
  refine OD.go (B := (T20.setTop (mkF m 72 #[.val (.ref da), .val (.ref b2), .val (.ref b13), .val (.int 1), .val (.int 0), .val (.int 1), .val (.int 2)] [(.ref b2), (.ref da)]))) (fun t k => XS.aloadN X20.here hx rfl (hb hby d1_71) rfl rfl k) ?_
  refine OD.go (B := (T20.setTop (mkF m 73 #[.val (.ref da), .val (.ref b2), .val (.ref b13), .val (.int 1), .val (.int 0), .val (.int 1), .val (.int 2)] [(.ref b13), (.ref b2), (.ref da)]))) (fun t k => XS.aloadN X20.here hx rfl (hb hby d1_72) rfl rfl k) ?_
  refine OD.go (B := (T20.setTop (mkF m 75 #[.val (.ref da), .val (.ref b2), .val (.ref b13), .val (.int 1), .val (.int 0), .val (.int 1), .val (.int 2)] [(.int 0), (.ref b13), (.ref b2), (.ref da)]))) (fun t k => XS.iload X20.here hx rfl (hb hby d1_73) rfl k) ?_
  refine OD.go (B := (T20.setTop (mkF m 77 #[.val (.ref da), .val (.ref b2), .val (.ref b13), .val (.int 1), .val (.int 0), .val (.int 1), .val (.int 2)] [(.int 1), (.int 0), (.ref b13), (.ref b2), (.ref da)]))) (fun t k => XS.iload X20.here hx rfl (hb hby d1_75) rfl k) ?_
  refine OD.go (B := (T20.setTop (mkF m 79 #[.val (.ref da), .val (.ref b2), .val (.ref b13), .val (.int 1), .val (.int 0), .val (.int 1), .val (.int 2)] [(.int 2), (.int 1), (.int 0), (.ref b13), (.ref b2), (.ref da)]))) (fun t k => XS.iload X20.here hx rfl (hb hby d1_77) rfl k) ?_
  have Vf21 : Arv Z h13 b2 k2 .int 4 (own_rg (4 : Int32).toNatClampNeg (fun x => .int (own_id x))) (.int 0) := f14
  have Vf22 : Arv Z h13 b13 k13 .int 4 (own_rg (4 : Int32).toNatClampNeg (fun x => .int (own_zero x))) (.int 0) := V13
  have f23 := ((((((D1.ext E2).other W4 (Nat.ne_of_lt (Nat.lt_of_lt_of_le D1.lt (Nat.le_of_eq g2.symm)))).other W6 (Nat.ne_of_lt (Nat.lt_of_lt_of_le D1.lt (Nat.le_of_eq g2.symm)))).other W8 (Nat.ne_of_lt (Nat.lt_of_lt_of_le D1.lt (Nat.le_of_eq g2.symm)))).other W10 (Nat.ne_of_lt (Nat.lt_of_lt_of_le D1.lt (Nat.le_of_eq g2.symm)))).ext E13)
  obtain ⟨_, _, ⟨T24, L24, k24, n24⟩, -, X24, ⟨Lc24, hQ24, l24, y24, z24⟩, st24⟩ := Jvm.LawKit.callS X20 hx (y := (⟨"com/example/topside/topside/DescendingOrder", "merge", "([D[I[IIII)V"⟩ : MethodName)) hown (mvT hZ (Wd17 hw)) (mvT hZ (Wd18 hw)) (mvT hZ (Wd3 hw)) (mvT hZ (Wd19 hw)) (by decide) (backOf (W := 0) (rmM l Z a0 hw [] da b2 b13 (0 : Int32) (1 : Int32) (2 : Int32) h13 n0 (Nat.le_trans (Nat.le_trans (Nat.le_trans (Nat.le_trans (Nat.le_trans (Nat.le_trans Z0 E2.1) (Keep.of_wr W4).1) (Keep.of_wr W6).1) (Keep.of_wr W8).1) (Keep.of_wr W10).1) E13.1) k0 k2 k13 (4 : Int32) sv own_id own_zero f23 Vf21 Vf22 (Nat.ne_of_lt (Nat.lt_of_lt_of_le (Nat.lt_of_lt_of_le (Nat.lt_of_lt_of_le (Nat.lt_of_lt_of_le (Nat.lt_of_lt_of_le (Nat.lt_of_lt_of_le D1.lt E2.1) (Keep.of_wr W4).1) (Keep.of_wr W6).1) (Keep.of_wr W8).1) (Keep.of_wr W10).1) (Nat.le_of_eq g13.symm))) (Nat.ne_of_lt (Nat.lt_of_lt_of_le (Nat.lt_of_lt_of_le (Nat.lt_of_lt_of_le (Nat.lt_of_lt_of_le (Nat.lt_of_lt_of_le V2.lt (Keep.of_wr W4).1) (Keep.of_wr W6).1) (Keep.of_wr W8).1) (Keep.of_wr W10).1) (Nat.le_of_eq g13.symm))) (Nat.le_trans (Nat.le_trans (Nat.le_trans (Nat.le_trans (Nat.le_trans (Nat.le_trans Z0 E2.1) (Keep.of_wr W4).1) (Keep.of_wr W6).1) (Keep.of_wr W8).1) (Keep.of_wr W10).1) (Nat.le_of_eq g13.symm)) (by decide) (by decide) (by decide) (by decide) (own_idB _)) hZ (Wd19 hw) (Wd3 hw) (by decide) (by decide)) (g := (mkF m 79 #[.val (.ref da), .val (.ref b2), .val (.ref b13), .val (.int 1), .val (.int 0), .val (.int 1), .val (.int 2)] [(.int 2), (.int 1), (.int 0), (.ref b13), (.ref b2), (.ref da)])) rfl (by rw [hml]; rfl) (argsL := [(.ref da), (.ref b2), (.ref b13), (.int 0), (.int 1), (.int 2)]) (rest := []) (lenOf pd1 rfl) rfl (by show 2 * 0 + _ ≤ _; exact Nat.le_of_eq rfl) (hb hby d1_79) (fun _ _ => ⟨rfl, e20, (Nat.le_of_ble_eq_true rfl), (Nat.le_of_ble_eq_true rfl)⟩)
  dsimp only [Pt.U, Pt.locs, Pt.cells, Pt.slots] at X24 l24 y24 z24 st24 hQ24
  subst l24 y24 z24
  obtain ⟨rfl, Nq24, K24, A24⟩ := hQ24
  have N24 := Fr.app N10 Nq24
  have B24 : Arv Z T24.heap b13 k13 .int 4 (own_rg (4 : Int32).toNatClampNeg (fun x => .int ((own_m4_0 sv) x))) (.int 0) := A24
  refine OD.go (B := (T24.setTop (mkF m 82 #[.val (.ref da), .val (.ref b2), .val (.ref b13), .val (.int 1), .val (.int 0), .val (.int 1), .val (.int 2)] []))) st24 ?_
  refine OD.go (B := (T24.setTop (mkF m 84 #[.val (.ref da), .val (.ref b2), .val (.ref b13), .val (.int 1), .val (.int 0), .val (.int 1), .val (.int 2)] [(.int 0)]))) (fun t k => XS.iload X24.here hx rfl (hb hby d1_82) rfl k) ?_
  refine OD.go (B := (T24.setTop (mkF m 85 #[.val (.ref da), .val (.ref b2), .val (.ref b13), .val (.int 1), .val (.int 0), .val (.int 1), .val (.int 2)] [(.int 2), (.int 0)]))) (fun t k => XS.iconst X24.here hx rfl (hb hby d1_84) k) ?_
  refine OD.go (B := (T24.setTop (mkF m 86 #[.val (.ref da), .val (.ref b2), .val (.ref b13), .val (.int 1), .val (.int 0), .val (.int 1), .val (.int 2)] [(.int 1), (.int 2), (.int 0)]))) (fun t k => XS.iloadN X24.here hx rfl (hb hby d1_85) rfl k) ?_
  refine OD.go (B := (T24.setTop (mkF m 87 #[.val (.ref da), .val (.ref b2), .val (.ref b13), .val (.int 1), .val (.int 0), .val (.int 1), .val (.int 2)] [(.int 2), (.int 0)]))) (fun t k => XS.imul X24.here hx rfl (hb hby d1_86) rfl k) ?_
  refine OD.go (B := (T24.setTop (mkF m 88 #[.val (.ref da), .val (.ref b2), .val (.ref b13), .val (.int 1), .val (.int 0), .val (.int 1), .val (.int 2)] [(.int 2)]))) (fun t k => XS.iadd X24.here hx rfl (hb hby d1_87) rfl k) ?_
  refine OD.go (B := (T24.setTop (mkF m 90 #[.val (.ref da), .val (.ref b2), .val (.ref b13), .val (.int 1), .val (.int 2), .val (.int 1), .val (.int 2)] []))) (fun t k => XS.istore X24.here hx rfl (hb hby d1_88) rfl (l' := #[.val (.ref da), .val (.ref b2), .val (.ref b13), .val (.int 1), .val (.int 2), .val (.int 1), .val (.int 2)]) rfl k) ?_
  refine OD.go (B := (T24.setTop (mkF m 39 #[.val (.ref da), .val (.ref b2), .val (.ref b13), .val (.int 1), .val (.int 2), .val (.int 1), .val (.int 2)] []))) (fun t k => XS.goto X24.here hx rfl (pc0 := 90) (pc' := 39) rfl (hb hby d1_90) (by decide) (by decide) k) ?_
  refine OD.go (B := (T24.setTop (mkF m 41 #[.val (.ref da), .val (.ref b2), .val (.ref b13), .val (.int 1), .val (.int 2), .val (.int 1), .val (.int 2)] [(.int 2)]))) (fun t k => XS.iload X24.here hx rfl (hb hby d1_39) rfl k) ?_
  refine OD.go (B := (T24.setTop (mkF m 42 #[.val (.ref da), .val (.ref b2), .val (.ref b13), .val (.int 1), .val (.int 2), .val (.int 1), .val (.int 2)] [(.ref b2), (.int 2)]))) (fun t k => XS.aloadN X24.here hx rfl (hb hby d1_41) rfl rfl k) ?_
  have f25 := (Vf21.keep K24 (ninS (Nat.ne_of_lt (Nat.lt_of_lt_of_le (Nat.lt_of_lt_of_le (Nat.lt_of_lt_of_le (Nat.lt_of_lt_of_le (Nat.lt_of_lt_of_le V2.lt (Keep.of_wr W4).1) (Keep.of_wr W6).1) (Keep.of_wr W8).1) (Keep.of_wr W10).1) (Nat.le_of_eq g13.symm))) nin0))
  obtain ⟨cl26, Ar26, hl26⟩ := own_len f25
  refine OD.go (B := (T24.setTop (mkF m 43 #[.val (.ref da), .val (.ref b2), .val (.ref b13), .val (.int 1), .val (.int 2), .val (.int 1), .val (.int 2)] [(.int 4), (.int 2)]))) (fun t k => X24.arraylength hx (by exact Ar26.1) (State.isArrayOf_alike hZ.alike Ar26.2.1) (g := (mkF m 42 #[.val (.ref da), .val (.ref b2), .val (.ref b13), .val (.int 1), .val (.int 2), .val (.int 1), .val (.int 2)] [(.ref b2), (.int 2)])) rfl rfl (hb hby d1_42) _ (by rw [hl26]; exact k)) ?_
  refine OD.go (B := (T24.setTop (mkF m 46 #[.val (.ref da), .val (.ref b2), .val (.ref b13), .val (.int 1), .val (.int 2), .val (.int 1), .val (.int 2)] []))) (fun t k => XS.icmpNo X24.here hx rfl (hb hby d1_43) rfl (tlt (by decide : (2 : Int32) < (4 : Int32))).2.1 k) ?_
  refine OD.go (B := (T24.setTop (mkF m 48 #[.val (.ref da), .val (.ref b2), .val (.ref b13), .val (.int 1), .val (.int 2), .val (.int 1), .val (.int 2)] [(.int 2)]))) (fun t k => XS.iload X24.here hx rfl (hb hby d1_46) rfl k) ?_
  refine OD.go (B := (T24.setTop (mkF m 49 #[.val (.ref da), .val (.ref b2), .val (.ref b13), .val (.int 1), .val (.int 2), .val (.int 1), .val (.int 2)] [(.int 1), (.int 2)]))) (fun t k => XS.iloadN X24.here hx rfl (hb hby d1_48) rfl k) ?_
  refine OD.go (B := (T24.setTop (mkF m 50 #[.val (.ref da), .val (.ref b2), .val (.ref b13), .val (.int 1), .val (.int 2), .val (.int 1), .val (.int 2)] [(.int 3)]))) (fun t k => XS.iadd X24.here hx rfl (hb hby d1_49) rfl k) ?_
  refine OD.go (B := (T24.setTop (mkF m 51 #[.val (.ref da), .val (.ref b2), .val (.ref b13), .val (.int 1), .val (.int 2), .val (.int 1), .val (.int 2)] [(.ref b2), (.int 3)]))) (fun t k => XS.aloadN X24.here hx rfl (hb hby d1_50) rfl rfl k) ?_
  obtain ⟨cl27, Ar27, hl27⟩ := own_len f25
  refine OD.go (B := (T24.setTop (mkF m 52 #[.val (.ref da), .val (.ref b2), .val (.ref b13), .val (.int 1), .val (.int 2), .val (.int 1), .val (.int 2)] [(.int 4), (.int 3)]))) (fun t k => X24.arraylength hx (by exact Ar27.1) (State.isArrayOf_alike hZ.alike Ar27.2.1) (g := (mkF m 51 #[.val (.ref da), .val (.ref b2), .val (.ref b13), .val (.int 1), .val (.int 2), .val (.int 1), .val (.int 2)] [(.ref b2), (.int 3)])) rfl rfl (hb hby d1_51) _ (by rw [hl27]; exact k)) ?_
  obtain ⟨_, _, ⟨T28, L28, k28, n28⟩, -, X28, ⟨Lc28, hQ28, l28, y28, z28⟩, st28⟩ := Jvm.LawKit.callS X24 hx (y := (⟨"java/lang/Math", "min", "(II)I"⟩ : MethodName)) hown (mvT hZ (Wd13 hw)) (mvT hZ (Wd14 hw)) (mvT hZ (Wd15 hw)) (mvT hZ (Wd16 hw)) (by decide) (backOf (W := 0) (rmMn3_4 l Z a0 hw [] T24.heap) hZ (Wd16 hw) (Wd15 hw) (by decide) (by decide)) (g := (mkF m 52 #[.val (.ref da), .val (.ref b2), .val (.ref b13), .val (.int 1), .val (.int 2), .val (.int 1), .val (.int 2)] [(.int 4), (.int 3)])) rfl (by rw [hml]; rfl) (argsL := [(.int 3), (.int 4)]) (rest := []) (lenOf pd0 rfl) rfl (by show 2 * 0 + _ ≤ _; exact Nat.le_of_eq rfl) (hb hby d1_52) (fun _ _ => ⟨rfl, rfl, (Nat.le_of_ble_eq_true rfl), (Nat.le_of_ble_eq_true rfl)⟩)
  dsimp only [Pt.U, Pt.locs, Pt.cells, Pt.slots] at X28 l28 y28 z28 st28 hQ28
  subst l28 y28 z28
  obtain ⟨rfl, rfl, e28⟩ := hQ28
  try rw [List.append_nil] at X28
  refine OD.go (B := (T28.setTop (mkF m 55 #[.val (.ref da), .val (.ref b2), .val (.ref b13), .val (.int 1), .val (.int 2), .val (.int 1), .val (.int 2)] [(.int 3)]))) st28 ?_
  refine OD.go (B := (T28.setTop (mkF m 57 #[.val (.ref da), .val (.ref b2), .val (.ref b13), .val (.int 1), .val (.int 2), .val (.int 3), .val (.int 2)] []))) (fun t k => XS.istore X28.here hx rfl (hb hby d1_55) rfl (l' := #[.val (.ref da), .val (.ref b2), .val (.ref b13), .val (.int 1), .val (.int 2), .val (.int 3), .val (.int 2)]) rfl k) ?_
  refine OD.go (B := (T28.setTop (mkF m 59 #[.val (.ref da), .val (.ref b2), .val (.ref b13), .val (.int 1), .val (.int 2), .val (.int 3), .val (.int 2)] [(.int 2)]))) (fun t k => XS.iload X28.here hx rfl (hb hby d1_57) rfl k) ?_
  refine OD.go (B := (T28.setTop (mkF m 60 #[.val (.ref da), .val (.ref b2), .val (.ref b13), .val (.int 1), .val (.int 2), .val (.int 3), .val (.int 2)] [(.int 2), (.int 2)]))) (fun t k => XS.iconst X28.here hx rfl (hb hby d1_59) k) ?_
  refine OD.go (B := (T28.setTop (mkF m 61 #[.val (.ref da), .val (.ref b2), .val (.ref b13), .val (.int 1), .val (.int 2), .val (.int 3), .val (.int 2)] [(.int 1), (.int 2), (.int 2)]))) (fun t k => XS.iloadN X28.here hx rfl (hb hby d1_60) rfl k) ?_
  refine OD.go (B := (T28.setTop (mkF m 62 #[.val (.ref da), .val (.ref b2), .val (.ref b13), .val (.int 1), .val (.int 2), .val (.int 3), .val (.int 2)] [(.int 2), (.int 2)]))) (fun t k => XS.imul X28.here hx rfl (hb hby d1_61) rfl k) ?_
  refine OD.go (B := (T28.setTop (mkF m 63 #[.val (.ref da), .val (.ref b2), .val (.ref b13), .val (.int 1), .val (.int 2), .val (.int 3), .val (.int 2)] [(.int 4)]))) (fun t k => XS.iadd X28.here hx rfl (hb hby d1_62) rfl k) ?_
  refine OD.go (B := (T28.setTop (mkF m 64 #[.val (.ref da), .val (.ref b2), .val (.ref b13), .val (.int 1), .val (.int 2), .val (.int 3), .val (.int 2)] [(.ref b2), (.int 4)]))) (fun t k => XS.aloadN X28.here hx rfl (hb hby d1_63) rfl rfl k) ?_
  obtain ⟨cl29, Ar29, hl29⟩ := own_len f25
  refine OD.go (B := (T28.setTop (mkF m 65 #[.val (.ref da), .val (.ref b2), .val (.ref b13), .val (.int 1), .val (.int 2), .val (.int 3), .val (.int 2)] [(.int 4), (.int 4)]))) (fun t k => X28.arraylength hx (by rw [e28]; exact Ar29.1) (State.isArrayOf_alike hZ.alike Ar29.2.1) (g := (mkF m 64 #[.val (.ref da), .val (.ref b2), .val (.ref b13), .val (.int 1), .val (.int 2), .val (.int 3), .val (.int 2)] [(.ref b2), (.int 4)])) rfl rfl (hb hby d1_64) _ (by rw [hl29]; exact k)) ?_
  obtain ⟨_, _, ⟨T30, L30, k30, n30⟩, -, X30, ⟨Lc30, hQ30, l30, y30, z30⟩, st30⟩ := Jvm.LawKit.callS X28 hx (y := (⟨"java/lang/Math", "min", "(II)I"⟩ : MethodName)) hown (mvT hZ (Wd13 hw)) (mvT hZ (Wd14 hw)) (mvT hZ (Wd15 hw)) (mvT hZ (Wd16 hw)) (by decide) (backOf (W := 0) (rmMn4_4 l Z a0 hw [] T24.heap) hZ (Wd16 hw) (Wd15 hw) (by decide) (by decide)) (g := (mkF m 65 #[.val (.ref da), .val (.ref b2), .val (.ref b13), .val (.int 1), .val (.int 2), .val (.int 3), .val (.int 2)] [(.int 4), (.int 4)])) rfl (by rw [hml]; rfl) (argsL := [(.int 4), (.int 4)]) (rest := []) (lenOf pd0 rfl) rfl (by show 2 * 0 + _ ≤ _; exact Nat.le_of_eq rfl) (hb hby d1_65) (fun _ _ => ⟨rfl, e28, (Nat.le_of_ble_eq_true rfl), (Nat.le_of_ble_eq_true rfl)⟩)
  dsimp only [Pt.U, Pt.locs, Pt.cells, Pt.slots] at X30 l30 y30 z30 st30 hQ30
  subst l30 y30 z30
  obtain ⟨rfl, rfl, e30⟩ := hQ30
  try rw [List.append_nil] at X30
  refine OD.go (B := (T30.setTop (mkF m 68 #[.val (.ref da), .val (.ref b2), .val (.ref b13), .val (.int 1), .val (.int 2), .val (.int 3), .val (.int 2)] [(.int 4)]))) st30 ?_
  refine OD.go (B := (T30.setTop (mkF m 70 #[.val (.ref da), .val (.ref b2), .val (.ref b13), .val (.int 1), .val (.int 2), .val (.int 3), .val (.int 4)] []))) (fun t k => XS.istore X30.here hx rfl (hb hby d1_68) rfl (l' := #[.val (.ref da), .val (.ref b2), .val (.ref b13), .val (.int 1), .val (.int 2), .val (.int 3), .val (.int 4)]) rfl k) ?_
  refine OD.go (B := (T30.setTop (mkF m 71 #[.val (.ref da), .val (.ref b2), .val (.ref b13), .val (.int 1), .val (.int 2), .val (.int 3), .val (.int 4)] [(.ref da)]))) (fun t k => XS.aloadN X30.here hx rfl (hb hby d1_70) rfl rfl k) ?_
  refine OD.go (B := (T30.setTop (mkF m 72 #[.val (.ref da), .val (.ref b2), .val (.ref b13), .val (.int 1), .val (.int 2), .val (.int 3), .val (.int 4)] [(.ref b2), (.ref da)]))) (fun t k => XS.aloadN X30.here hx rfl (hb hby d1_71) rfl rfl k) ?_
  refine OD.go (B := (T30.setTop (mkF m 73 #[.val (.ref da), .val (.ref b2), .val (.ref b13), .val (.int 1), .val (.int 2), .val (.int 3), .val (.int 4)] [(.ref b13), (.ref b2), (.ref da)]))) (fun t k => XS.aloadN X30.here hx rfl (hb hby d1_72) rfl rfl k) ?_
  refine OD.go (B := (T30.setTop (mkF m 75 #[.val (.ref da), .val (.ref b2), .val (.ref b13), .val (.int 1), .val (.int 2), .val (.int 3), .val (.int 4)] [(.int 2), (.ref b13), (.ref b2), (.ref da)]))) (fun t k => XS.iload X30.here hx rfl (hb hby d1_73) rfl k) ?_
  refine OD.go (B := (T30.setTop (mkF m 77 #[.val (.ref da), .val (.ref b2), .val (.ref b13), .val (.int 1), .val (.int 2), .val (.int 3), .val (.int 4)] [(.int 3), (.int 2), (.ref b13), (.ref b2), (.ref da)]))) (fun t k => XS.iload X30.here hx rfl (hb hby d1_75) rfl k) ?_
  refine OD.go (B := (T30.setTop (mkF m 79 #[.val (.ref da), .val (.ref b2), .val (.ref b13), .val (.int 1), .val (.int 2), .val (.int 3), .val (.int 4)] [(.int 4), (.int 3), (.int 2), (.ref b13), (.ref b2), (.ref da)]))) (fun t k => XS.iload X30.here hx rfl (hb hby d1_77) rfl k) ?_
  have f31 := (f23.keep K24 (ninS (Nat.ne_of_lt (Nat.lt_of_lt_of_le (Nat.lt_of_lt_of_le (Nat.lt_of_lt_of_le (Nat.lt_of_lt_of_le (Nat.lt_of_lt_of_le (Nat.lt_of_lt_of_le D1.lt E2.1) (Keep.of_wr W4).1) (Keep.of_wr W6).1) (Keep.of_wr W8).1) (Keep.of_wr W10).1) (Nat.le_of_eq g13.symm))) nin0))
  obtain ⟨_, _, ⟨T32, L32, k32, n32⟩, -, X32, ⟨Lc32, hQ32, l32, y32, z32⟩, st32⟩ := Jvm.LawKit.callS X30 hx (y := (⟨"com/example/topside/topside/DescendingOrder", "merge", "([D[I[IIII)V"⟩ : MethodName)) hown (mvT hZ (Wd17 hw)) (mvT hZ (Wd18 hw)) (mvT hZ (Wd3 hw)) (mvT hZ (Wd19 hw)) (by decide) (backOf (W := 0) (rmM l Z a0 hw [] da b2 b13 (2 : Int32) (3 : Int32) (4 : Int32) T24.heap n0 (Nat.le_trans (Nat.le_trans (Nat.le_trans (Nat.le_trans (Nat.le_trans (Nat.le_trans (Nat.le_trans Z0 E2.1) (Keep.of_wr W4).1) (Keep.of_wr W6).1) (Keep.of_wr W8).1) (Keep.of_wr W10).1) E13.1) K24.1) k0 k2 k13 (4 : Int32) sv own_id (own_m4_0 sv) f31 f25 B24 (Nat.ne_of_lt (Nat.lt_of_lt_of_le (Nat.lt_of_lt_of_le (Nat.lt_of_lt_of_le (Nat.lt_of_lt_of_le (Nat.lt_of_lt_of_le (Nat.lt_of_lt_of_le D1.lt E2.1) (Keep.of_wr W4).1) (Keep.of_wr W6).1) (Keep.of_wr W8).1) (Keep.of_wr W10).1) (Nat.le_of_eq g13.symm))) (Nat.ne_of_lt (Nat.lt_of_lt_of_le (Nat.lt_of_lt_of_le (Nat.lt_of_lt_of_le (Nat.lt_of_lt_of_le (Nat.lt_of_lt_of_le V2.lt (Keep.of_wr W4).1) (Keep.of_wr W6).1) (Keep.of_wr W8).1) (Keep.of_wr W10).1) (Nat.le_of_eq g13.symm))) (Nat.le_trans (Nat.le_trans (Nat.le_trans (Nat.le_trans (Nat.le_trans (Nat.le_trans Z0 E2.1) (Keep.of_wr W4).1) (Keep.of_wr W6).1) (Keep.of_wr W8).1) (Keep.of_wr W10).1) (Nat.le_of_eq g13.symm)) (by decide) (by decide) (by decide) (by decide) (own_idB _)) hZ (Wd19 hw) (Wd3 hw) (by decide) (by decide)) (g := (mkF m 79 #[.val (.ref da), .val (.ref b2), .val (.ref b13), .val (.int 1), .val (.int 2), .val (.int 3), .val (.int 4)] [(.int 4), (.int 3), (.int 2), (.ref b13), (.ref b2), (.ref da)])) rfl (by rw [hml]; rfl) (argsL := [(.ref da), (.ref b2), (.ref b13), (.int 2), (.int 3), (.int 4)]) (rest := []) (lenOf pd1 rfl) rfl (by show 2 * 0 + _ ≤ _; exact Nat.le_of_eq rfl) (hb hby d1_79) (fun _ _ => ⟨rfl, e30, (Nat.le_of_ble_eq_true rfl), (Nat.le_of_ble_eq_true rfl)⟩)
  dsimp only [Pt.U, Pt.locs, Pt.cells, Pt.slots] at X32 l32 y32 z32 st32 hQ32
  subst l32 y32 z32
  obtain ⟨rfl, Nq32, K32, A32⟩ := hQ32
  have N32 := Fr.app N24 Nq32
  have B32 : Arv Z T32.heap b13 k13 .int 4 (own_rg (4 : Int32).toNatClampNeg (fun x => .int ((own_m4_1 sv) x))) (.int 0) := A32
  refine OD.go (B := (T32.setTop (mkF m 82 #[.val (.ref da), .val (.ref b2), .val (.ref b13), .val (.int 1), .val (.int 2), .val (.int 3), .val (.int 4)] []))) st32 ?_
  refine OD.go (B := (T32.setTop (mkF m 84 #[.val (.ref da), .val (.ref b2), .val (.ref b13), .val (.int 1), .val (.int 2), .val (.int 3), .val (.int 4)] [(.int 2)]))) (fun t k => XS.iload X32.here hx rfl (hb hby d1_82) rfl k) ?_
  refine OD.go (B := (T32.setTop (mkF m 85 #[.val (.ref da), .val (.ref b2), .val (.ref b13), .val (.int 1), .val (.int 2), .val (.int 3), .val (.int 4)] [(.int 2), (.int 2)]))) (fun t k => XS.iconst X32.here hx rfl (hb hby d1_84) k) ?_
  refine OD.go (B := (T32.setTop (mkF m 86 #[.val (.ref da), .val (.ref b2), .val (.ref b13), .val (.int 1), .val (.int 2), .val (.int 3), .val (.int 4)] [(.int 1), (.int 2), (.int 2)]))) (fun t k => XS.iloadN X32.here hx rfl (hb hby d1_85) rfl k) ?_
  refine OD.go (B := (T32.setTop (mkF m 87 #[.val (.ref da), .val (.ref b2), .val (.ref b13), .val (.int 1), .val (.int 2), .val (.int 3), .val (.int 4)] [(.int 2), (.int 2)]))) (fun t k => XS.imul X32.here hx rfl (hb hby d1_86) rfl k) ?_
  refine OD.go (B := (T32.setTop (mkF m 88 #[.val (.ref da), .val (.ref b2), .val (.ref b13), .val (.int 1), .val (.int 2), .val (.int 3), .val (.int 4)] [(.int 4)]))) (fun t k => XS.iadd X32.here hx rfl (hb hby d1_87) rfl k) ?_
  refine OD.go (B := (T32.setTop (mkF m 90 #[.val (.ref da), .val (.ref b2), .val (.ref b13), .val (.int 1), .val (.int 4), .val (.int 3), .val (.int 4)] []))) (fun t k => XS.istore X32.here hx rfl (hb hby d1_88) rfl (l' := #[.val (.ref da), .val (.ref b2), .val (.ref b13), .val (.int 1), .val (.int 4), .val (.int 3), .val (.int 4)]) rfl k) ?_
  refine OD.go (B := (T32.setTop (mkF m 39 #[.val (.ref da), .val (.ref b2), .val (.ref b13), .val (.int 1), .val (.int 4), .val (.int 3), .val (.int 4)] []))) (fun t k => XS.goto X32.here hx rfl (pc0 := 90) (pc' := 39) rfl (hb hby d1_90) (by decide) (by decide) k) ?_
  refine OD.go (B := (T32.setTop (mkF m 41 #[.val (.ref da), .val (.ref b2), .val (.ref b13), .val (.int 1), .val (.int 4), .val (.int 3), .val (.int 4)] [(.int 4)]))) (fun t k => XS.iload X32.here hx rfl (hb hby d1_39) rfl k) ?_
  refine OD.go (B := (T32.setTop (mkF m 42 #[.val (.ref da), .val (.ref b2), .val (.ref b13), .val (.int 1), .val (.int 4), .val (.int 3), .val (.int 4)] [(.ref b2), (.int 4)]))) (fun t k => XS.aloadN X32.here hx rfl (hb hby d1_41) rfl rfl k) ?_
  have f33 := (f25.keep K32 (ninS (Nat.ne_of_lt (Nat.lt_of_lt_of_le (Nat.lt_of_lt_of_le (Nat.lt_of_lt_of_le (Nat.lt_of_lt_of_le (Nat.lt_of_lt_of_le V2.lt (Keep.of_wr W4).1) (Keep.of_wr W6).1) (Keep.of_wr W8).1) (Keep.of_wr W10).1) (Nat.le_of_eq g13.symm))) nin0))
  obtain ⟨cl34, Ar34, hl34⟩ := own_len f33
  refine OD.go (B := (T32.setTop (mkF m 43 #[.val (.ref da), .val (.ref b2), .val (.ref b13), .val (.int 1), .val (.int 4), .val (.int 3), .val (.int 4)] [(.int 4), (.int 4)]))) (fun t k => X32.arraylength hx (by exact Ar34.1) (State.isArrayOf_alike hZ.alike Ar34.2.1) (g := (mkF m 42 #[.val (.ref da), .val (.ref b2), .val (.ref b13), .val (.int 1), .val (.int 4), .val (.int 3), .val (.int 4)] [(.ref b2), (.int 4)])) rfl rfl (hb hby d1_42) _ (by rw [hl34]; exact k)) ?_
  refine OD.go (B := (T32.setTop (mkF m 93 #[.val (.ref da), .val (.ref b2), .val (.ref b13), .val (.int 1), .val (.int 4), .val (.int 3), .val (.int 4)] []))) (fun t k => XS.icmpYes X32.here hx rfl (pc0 := 43) (pc' := 93) rfl (hb hby d1_43) rfl (flt (by decide : ¬ (4 : Int32) < (4 : Int32))).2.1 (by decide) (by decide) k) ?_
  refine OD.go (B := (T32.setTop (mkF m 94 #[.val (.ref da), .val (.ref b2), .val (.ref b13), .val (.int 1), .val (.int 4), .val (.int 3), .val (.int 4)] [(.ref b2)]))) (fun t k => XS.aloadN X32.here hx rfl (hb hby d1_93) rfl rfl k) ?_
  refine OD.go (B := (T32.setTop (mkF m 96 #[.val (.ref da), .val (.ref b2), .val (.ref b13), .val (.int 1), .val (.ref b2), .val (.int 3), .val (.int 4)] []))) (fun t k => XS.astore X32.here hx rfl (hb hby d1_94) rfl rfl (l' := #[.val (.ref da), .val (.ref b2), .val (.ref b13), .val (.int 1), .val (.ref b2), .val (.int 3), .val (.int 4)]) rfl k) ?_
  refine OD.go (B := (T32.setTop (mkF m 97 #[.val (.ref da), .val (.ref b2), .val (.ref b13), .val (.int 1), .val (.ref b2), .val (.int 3), .val (.int 4)] [(.ref b13)]))) (fun t k => XS.aloadN X32.here hx rfl (hb hby d1_96) rfl rfl k) ?_
  refine OD.go (B := (T32.setTop (mkF m 98 #[.val (.ref da), .val (.ref b13), .val (.ref b13), .val (.int 1), .val (.ref b2), .val (.int 3), .val (.int 4)] []))) (fun t k => XS.astoreN X32.here hx rfl (hb hby d1_97) rfl rfl (l' := #[.val (.ref da), .val (.ref b13), .val (.ref b13), .val (.int 1), .val (.ref b2), .val (.int 3), .val (.int 4)]) rfl k) ?_
  refine OD.go (B := (T32.setTop (mkF m 100 #[.val (.ref da), .val (.ref b13), .val (.ref b13), .val (.int 1), .val (.ref b2), .val (.int 3), .val (.int 4)] [(.ref b2)]))) (fun t k => XS.aload X32.here hx rfl (hb hby d1_98) rfl rfl k) ?_
  refine OD.go (B := (T32.setTop (mkF m 101 #[.val (.ref da), .val (.ref b13), .val (.ref b2), .val (.int 1), .val (.ref b2), .val (.int 3), .val (.int 4)] []))) (fun t k => XS.astoreN X32.here hx rfl (hb hby d1_100) rfl rfl (l' := #[.val (.ref da), .val (.ref b13), .val (.ref b2), .val (.int 1), .val (.ref b2), .val (.int 3), .val (.int 4)]) rfl k) ?_
  refine OD.go (B := (T32.setTop (mkF m 102 #[.val (.ref da), .val (.ref b13), .val (.ref b2), .val (.int 1), .val (.ref b2), .val (.int 3), .val (.int 4)] [(.int 1)]))) (fun t k => XS.iloadN X32.here hx rfl (hb hby d1_101) rfl k) ?_
  refine OD.go (B := (T32.setTop (mkF m 103 #[.val (.ref da), .val (.ref b13), .val (.ref b2), .val (.int 1), .val (.ref b2), .val (.int 3), .val (.int 4)] [(.int 2), (.int 1)]))) (fun t k => XS.iconst X32.here hx rfl (hb hby d1_102) k) ?_
  refine OD.go (B := (T32.setTop (mkF m 104 #[.val (.ref da), .val (.ref b13), .val (.ref b2), .val (.int 1), .val (.ref b2), .val (.int 3), .val (.int 4)] [(.int 2)]))) (fun t k => XS.imul X32.here hx rfl (hb hby d1_103) rfl k) ?_
  refine OD.go (B := (T32.setTop (mkF m 105 #[.val (.ref da), .val (.ref b13), .val (.ref b2), .val (.int 2), .val (.ref b2), .val (.int 3), .val (.int 4)] []))) (fun t k => XS.istoreN X32.here hx rfl (hb hby d1_104) rfl (l' := #[.val (.ref da), .val (.ref b13), .val (.ref b2), .val (.int 2), .val (.ref b2), .val (.int 3), .val (.int 4)]) rfl k) ?_
  refine OD.go (B := (T32.setTop (mkF m 30 #[.val (.ref da), .val (.ref b13), .val (.ref b2), .val (.int 2), .val (.ref b2), .val (.int 3), .val (.int 4)] []))) (fun t k => XS.goto X32.here hx rfl (pc0 := 105) (pc' := 30) rfl (hb hby d1_105) (by decide) (by decide) k) ?_
  refine OD.go (B := (T32.setTop (mkF m 31 #[.val (.ref da), .val (.ref b13), .val (.ref b2), .val (.int 2), .val (.ref b2), .val (.int 3), .val (.int 4)] [(.int 2)]))) (fun t k => XS.iloadN X32.here hx rfl (hb hby d1_30) rfl k) ?_
  refine OD.go (B := (T32.setTop (mkF m 32 #[.val (.ref da), .val (.ref b13), .val (.ref b2), .val (.int 2), .val (.ref b2), .val (.int 3), .val (.int 4)] [(.ref b13), (.int 2)]))) (fun t k => XS.aloadN X32.here hx rfl (hb hby d1_31) rfl rfl k) ?_
  obtain ⟨cl35, Ar35, hl35⟩ := own_len B32
  refine OD.go (B := (T32.setTop (mkF m 33 #[.val (.ref da), .val (.ref b13), .val (.ref b2), .val (.int 2), .val (.ref b2), .val (.int 3), .val (.int 4)] [(.int 4), (.int 2)]))) (fun t k => X32.arraylength hx (by exact Ar35.1) (State.isArrayOf_alike hZ.alike Ar35.2.1) (g := (mkF m 32 #[.val (.ref da), .val (.ref b13), .val (.ref b2), .val (.int 2), .val (.ref b2), .val (.int 3), .val (.int 4)] [(.ref b13), (.int 2)])) rfl rfl (hb hby d1_32) _ (by rw [hl35]; exact k)) ?_
  refine OD.go (B := (T32.setTop (mkF m 36 #[.val (.ref da), .val (.ref b13), .val (.ref b2), .val (.int 2), .val (.ref b2), .val (.int 3), .val (.int 4)] []))) (fun t k => XS.icmpNo X32.here hx rfl (hb hby d1_33) rfl (tlt (by decide : (2 : Int32) < (4 : Int32))).2.1 k) ?_
  refine OD.go (B := (T32.setTop (mkF m 37 #[.val (.ref da), .val (.ref b13), .val (.ref b2), .val (.int 2), .val (.ref b2), .val (.int 3), .val (.int 4)] [(.int 0)]))) (fun t k => XS.iconst X32.here hx rfl (hb hby d1_36) k) ?_
  refine OD.go (B := (T32.setTop (mkF m 39 #[.val (.ref da), .val (.ref b13), .val (.ref b2), .val (.int 2), .val (.int 0), .val (.int 3), .val (.int 4)] []))) (fun t k => XS.istore X32.here hx rfl (hb hby d1_37) rfl (l' := #[.val (.ref da), .val (.ref b13), .val (.ref b2), .val (.int 2), .val (.int 0), .val (.int 3), .val (.int 4)]) rfl k) ?_
  refine OD.go (B := (T32.setTop (mkF m 41 #[.val (.ref da), .val (.ref b13), .val (.ref b2), .val (.int 2), .val (.int 0), .val (.int 3), .val (.int 4)] [(.int 0)]))) (fun t k => XS.iload X32.here hx rfl (hb hby d1_39) rfl k) ?_
  refine OD.go (B := (T32.setTop (mkF m 42 #[.val (.ref da), .val (.ref b13), .val (.ref b2), .val (.int 2), .val (.int 0), .val (.int 3), .val (.int 4)] [(.ref b13), (.int 0)]))) (fun t k => XS.aloadN X32.here hx rfl (hb hby d1_41) rfl rfl k) ?_
  obtain ⟨cl36, Ar36, hl36⟩ := own_len B32
  refine OD.go (B := (T32.setTop (mkF m 43 #[.val (.ref da), .val (.ref b13), .val (.ref b2), .val (.int 2), .val (.int 0), .val (.int 3), .val (.int 4)] [(.int 4), (.int 0)]))) (fun t k => X32.arraylength hx (by exact Ar36.1) (State.isArrayOf_alike hZ.alike Ar36.2.1) (g := (mkF m 42 #[.val (.ref da), .val (.ref b13), .val (.ref b2), .val (.int 2), .val (.int 0), .val (.int 3), .val (.int 4)] [(.ref b13), (.int 0)])) rfl rfl (hb hby d1_42) _ (by rw [hl36]; exact k)) ?_
  refine OD.go (B := (T32.setTop (mkF m 46 #[.val (.ref da), .val (.ref b13), .val (.ref b2), .val (.int 2), .val (.int 0), .val (.int 3), .val (.int 4)] []))) (fun t k => XS.icmpNo X32.here hx rfl (hb hby d1_43) rfl (tlt (by decide : (0 : Int32) < (4 : Int32))).2.1 k) ?_
  refine OD.go (B := (T32.setTop (mkF m 48 #[.val (.ref da), .val (.ref b13), .val (.ref b2), .val (.int 2), .val (.int 0), .val (.int 3), .val (.int 4)] [(.int 0)]))) (fun t k => XS.iload X32.here hx rfl (hb hby d1_46) rfl k) ?_
  refine OD.go (B := (T32.setTop (mkF m 49 #[.val (.ref da), .val (.ref b13), .val (.ref b2), .val (.int 2), .val (.int 0), .val (.int 3), .val (.int 4)] [(.int 2), (.int 0)]))) (fun t k => XS.iloadN X32.here hx rfl (hb hby d1_48) rfl k) ?_
  refine OD.go (B := (T32.setTop (mkF m 50 #[.val (.ref da), .val (.ref b13), .val (.ref b2), .val (.int 2), .val (.int 0), .val (.int 3), .val (.int 4)] [(.int 2)]))) (fun t k => XS.iadd X32.here hx rfl (hb hby d1_49) rfl k) ?_
  refine OD.go (B := (T32.setTop (mkF m 51 #[.val (.ref da), .val (.ref b13), .val (.ref b2), .val (.int 2), .val (.int 0), .val (.int 3), .val (.int 4)] [(.ref b13), (.int 2)]))) (fun t k => XS.aloadN X32.here hx rfl (hb hby d1_50) rfl rfl k) ?_
  obtain ⟨cl37, Ar37, hl37⟩ := own_len B32
  refine OD.go (B := (T32.setTop (mkF m 52 #[.val (.ref da), .val (.ref b13), .val (.ref b2), .val (.int 2), .val (.int 0), .val (.int 3), .val (.int 4)] [(.int 4), (.int 2)]))) (fun t k => X32.arraylength hx (by exact Ar37.1) (State.isArrayOf_alike hZ.alike Ar37.2.1) (g := (mkF m 51 #[.val (.ref da), .val (.ref b13), .val (.ref b2), .val (.int 2), .val (.int 0), .val (.int 3), .val (.int 4)] [(.ref b13), (.int 2)])) rfl rfl (hb hby d1_51) _ (by rw [hl37]; exact k)) ?_
  obtain ⟨_, _, ⟨T38, L38, k38, n38⟩, -, X38, ⟨Lc38, hQ38, l38, y38, z38⟩, st38⟩ := Jvm.LawKit.callS X32 hx (y := (⟨"java/lang/Math", "min", "(II)I"⟩ : MethodName)) hown (mvT hZ (Wd13 hw)) (mvT hZ (Wd14 hw)) (mvT hZ (Wd15 hw)) (mvT hZ (Wd16 hw)) (by decide) (backOf (W := 0) (rmMn2_4 l Z a0 hw [] T32.heap) hZ (Wd16 hw) (Wd15 hw) (by decide) (by decide)) (g := (mkF m 52 #[.val (.ref da), .val (.ref b13), .val (.ref b2), .val (.int 2), .val (.int 0), .val (.int 3), .val (.int 4)] [(.int 4), (.int 2)])) rfl (by rw [hml]; rfl) (argsL := [(.int 2), (.int 4)]) (rest := []) (lenOf pd0 rfl) rfl (by show 2 * 0 + _ ≤ _; exact Nat.le_of_eq rfl) (hb hby d1_52) (fun _ _ => ⟨rfl, rfl, (Nat.le_of_ble_eq_true rfl), (Nat.le_of_ble_eq_true rfl)⟩)
  dsimp only [Pt.U, Pt.locs, Pt.cells, Pt.slots] at X38 l38 y38 z38 st38 hQ38
  subst l38 y38 z38
  obtain ⟨rfl, rfl, e38⟩ := hQ38
  try rw [List.append_nil] at X38
  refine OD.go (B := (T38.setTop (mkF m 55 #[.val (.ref da), .val (.ref b13), .val (.ref b2), .val (.int 2), .val (.int 0), .val (.int 3), .val (.int 4)] [(.int 2)]))) st38 ?_
  refine OD.go (B := (T38.setTop (mkF m 57 #[.val (.ref da), .val (.ref b13), .val (.ref b2), .val (.int 2), .val (.int 0), .val (.int 2), .val (.int 4)] []))) (fun t k => XS.istore X38.here hx rfl (hb hby d1_55) rfl (l' := #[.val (.ref da), .val (.ref b13), .val (.ref b2), .val (.int 2), .val (.int 0), .val (.int 2), .val (.int 4)]) rfl k) ?_
  refine OD.go (B := (T38.setTop (mkF m 59 #[.val (.ref da), .val (.ref b13), .val (.ref b2), .val (.int 2), .val (.int 0), .val (.int 2), .val (.int 4)] [(.int 0)]))) (fun t k => XS.iload X38.here hx rfl (hb hby d1_57) rfl k) ?_
  refine OD.go (B := (T38.setTop (mkF m 60 #[.val (.ref da), .val (.ref b13), .val (.ref b2), .val (.int 2), .val (.int 0), .val (.int 2), .val (.int 4)] [(.int 2), (.int 0)]))) (fun t k => XS.iconst X38.here hx rfl (hb hby d1_59) k) ?_
  refine OD.go (B := (T38.setTop (mkF m 61 #[.val (.ref da), .val (.ref b13), .val (.ref b2), .val (.int 2), .val (.int 0), .val (.int 2), .val (.int 4)] [(.int 2), (.int 2), (.int 0)]))) (fun t k => XS.iloadN X38.here hx rfl (hb hby d1_60) rfl k) ?_
  refine OD.go (B := (T38.setTop (mkF m 62 #[.val (.ref da), .val (.ref b13), .val (.ref b2), .val (.int 2), .val (.int 0), .val (.int 2), .val (.int 4)] [(.int 4), (.int 0)]))) (fun t k => XS.imul X38.here hx rfl (hb hby d1_61) rfl k) ?_
  refine OD.go (B := (T38.setTop (mkF m 63 #[.val (.ref da), .val (.ref b13), .val (.ref b2), .val (.int 2), .val (.int 0), .val (.int 2), .val (.int 4)] [(.int 4)]))) (fun t k => XS.iadd X38.here hx rfl (hb hby d1_62) rfl k) ?_
  refine OD.go (B := (T38.setTop (mkF m 64 #[.val (.ref da), .val (.ref b13), .val (.ref b2), .val (.int 2), .val (.int 0), .val (.int 2), .val (.int 4)] [(.ref b13), (.int 4)]))) (fun t k => XS.aloadN X38.here hx rfl (hb hby d1_63) rfl rfl k) ?_
  obtain ⟨cl39, Ar39, hl39⟩ := own_len B32
  refine OD.go (B := (T38.setTop (mkF m 65 #[.val (.ref da), .val (.ref b13), .val (.ref b2), .val (.int 2), .val (.int 0), .val (.int 2), .val (.int 4)] [(.int 4), (.int 4)]))) (fun t k => X38.arraylength hx (by rw [e38]; exact Ar39.1) (State.isArrayOf_alike hZ.alike Ar39.2.1) (g := (mkF m 64 #[.val (.ref da), .val (.ref b13), .val (.ref b2), .val (.int 2), .val (.int 0), .val (.int 2), .val (.int 4)] [(.ref b13), (.int 4)])) rfl rfl (hb hby d1_64) _ (by rw [hl39]; exact k)) ?_
  obtain ⟨_, _, ⟨T40, L40, k40, n40⟩, -, X40, ⟨Lc40, hQ40, l40, y40, z40⟩, st40⟩ := Jvm.LawKit.callS X38 hx (y := (⟨"java/lang/Math", "min", "(II)I"⟩ : MethodName)) hown (mvT hZ (Wd13 hw)) (mvT hZ (Wd14 hw)) (mvT hZ (Wd15 hw)) (mvT hZ (Wd16 hw)) (by decide) (backOf (W := 0) (rmMn4_4 l Z a0 hw [] T32.heap) hZ (Wd16 hw) (Wd15 hw) (by decide) (by decide)) (g := (mkF m 65 #[.val (.ref da), .val (.ref b13), .val (.ref b2), .val (.int 2), .val (.int 0), .val (.int 2), .val (.int 4)] [(.int 4), (.int 4)])) rfl (by rw [hml]; rfl) (argsL := [(.int 4), (.int 4)]) (rest := []) (lenOf pd0 rfl) rfl (by show 2 * 0 + _ ≤ _; exact Nat.le_of_eq rfl) (hb hby d1_65) (fun _ _ => ⟨rfl, e38, (Nat.le_of_ble_eq_true rfl), (Nat.le_of_ble_eq_true rfl)⟩)
  dsimp only [Pt.U, Pt.locs, Pt.cells, Pt.slots] at X40 l40 y40 z40 st40 hQ40
  subst l40 y40 z40
  obtain ⟨rfl, rfl, e40⟩ := hQ40
  try rw [List.append_nil] at X40
  refine OD.go (B := (T40.setTop (mkF m 68 #[.val (.ref da), .val (.ref b13), .val (.ref b2), .val (.int 2), .val (.int 0), .val (.int 2), .val (.int 4)] [(.int 4)]))) st40 ?_
  refine OD.go (B := (T40.setTop (mkF m 70 #[.val (.ref da), .val (.ref b13), .val (.ref b2), .val (.int 2), .val (.int 0), .val (.int 2), .val (.int 4)] []))) (fun t k => XS.istore X40.here hx rfl (hb hby d1_68) rfl (l' := #[.val (.ref da), .val (.ref b13), .val (.ref b2), .val (.int 2), .val (.int 0), .val (.int 2), .val (.int 4)]) rfl k) ?_
  refine OD.go (B := (T40.setTop (mkF m 71 #[.val (.ref da), .val (.ref b13), .val (.ref b2), .val (.int 2), .val (.int 0), .val (.int 2), .val (.int 4)] [(.ref da)]))) (fun t k => XS.aloadN X40.here hx rfl (hb hby d1_70) rfl rfl k) ?_
  refine OD.go (B := (T40.setTop (mkF m 72 #[.val (.ref da), .val (.ref b13), .val (.ref b2), .val (.int 2), .val (.int 0), .val (.int 2), .val (.int 4)] [(.ref b13), (.ref da)]))) (fun t k => XS.aloadN X40.here hx rfl (hb hby d1_71) rfl rfl k) ?_
  refine OD.go (B := (T40.setTop (mkF m 73 #[.val (.ref da), .val (.ref b13), .val (.ref b2), .val (.int 2), .val (.int 0), .val (.int 2), .val (.int 4)] [(.ref b2), (.ref b13), (.ref da)]))) (fun t k => XS.aloadN X40.here hx rfl (hb hby d1_72) rfl rfl k) ?_
  refine OD.go (B := (T40.setTop (mkF m 75 #[.val (.ref da), .val (.ref b13), .val (.ref b2), .val (.int 2), .val (.int 0), .val (.int 2), .val (.int 4)] [(.int 0), (.ref b2), (.ref b13), (.ref da)]))) (fun t k => XS.iload X40.here hx rfl (hb hby d1_73) rfl k) ?_
  refine OD.go (B := (T40.setTop (mkF m 77 #[.val (.ref da), .val (.ref b13), .val (.ref b2), .val (.int 2), .val (.int 0), .val (.int 2), .val (.int 4)] [(.int 2), (.int 0), (.ref b2), (.ref b13), (.ref da)]))) (fun t k => XS.iload X40.here hx rfl (hb hby d1_75) rfl k) ?_
  refine OD.go (B := (T40.setTop (mkF m 79 #[.val (.ref da), .val (.ref b13), .val (.ref b2), .val (.int 2), .val (.int 0), .val (.int 2), .val (.int 4)] [(.int 4), (.int 2), (.int 0), (.ref b2), (.ref b13), (.ref da)]))) (fun t k => XS.iload X40.here hx rfl (hb hby d1_77) rfl k) ?_
  have f41 := (f31.keep K32 (ninS (Nat.ne_of_lt (Nat.lt_of_lt_of_le (Nat.lt_of_lt_of_le (Nat.lt_of_lt_of_le (Nat.lt_of_lt_of_le (Nat.lt_of_lt_of_le (Nat.lt_of_lt_of_le D1.lt E2.1) (Keep.of_wr W4).1) (Keep.of_wr W6).1) (Keep.of_wr W8).1) (Keep.of_wr W10).1) (Nat.le_of_eq g13.symm))) nin0))
  obtain ⟨_, _, ⟨T42, L42, k42, n42⟩, -, X42, ⟨Lc42, hQ42, l42, y42, z42⟩, st42⟩ := Jvm.LawKit.callS X40 hx (y := (⟨"com/example/topside/topside/DescendingOrder", "merge", "([D[I[IIII)V"⟩ : MethodName)) hown (mvT hZ (Wd17 hw)) (mvT hZ (Wd18 hw)) (mvT hZ (Wd3 hw)) (mvT hZ (Wd19 hw)) (by decide) (backOf (W := 0) (rmM l Z a0 hw [] da b13 b2 (0 : Int32) (2 : Int32) (4 : Int32) T32.heap n0 (Nat.le_trans (Nat.le_trans (Nat.le_trans (Nat.le_trans (Nat.le_trans (Nat.le_trans (Nat.le_trans (Nat.le_trans Z0 E2.1) (Keep.of_wr W4).1) (Keep.of_wr W6).1) (Keep.of_wr W8).1) (Keep.of_wr W10).1) E13.1) K24.1) K32.1) k0 k13 k2 (4 : Int32) sv (own_m4_1 sv) own_id f41 B32 f33 (Nat.ne_of_lt (Nat.lt_of_lt_of_le D1.lt (Nat.le_of_eq g2.symm))) (Ne.symm (Nat.ne_of_lt (Nat.lt_of_lt_of_le (Nat.lt_of_lt_of_le (Nat.lt_of_lt_of_le (Nat.lt_of_lt_of_le (Nat.lt_of_lt_of_le V2.lt (Keep.of_wr W4).1) (Keep.of_wr W6).1) (Keep.of_wr W8).1) (Keep.of_wr W10).1) (Nat.le_of_eq g13.symm)))) (Nat.le_trans Z0 (Nat.le_of_eq g2.symm)) (by decide) (by decide) (by decide) (by decide) (own_m4_1_b sv)) hZ (Wd19 hw) (Wd3 hw) (by decide) (by decide)) (g := (mkF m 79 #[.val (.ref da), .val (.ref b13), .val (.ref b2), .val (.int 2), .val (.int 0), .val (.int 2), .val (.int 4)] [(.int 4), (.int 2), (.int 0), (.ref b2), (.ref b13), (.ref da)])) rfl (by rw [hml]; rfl) (argsL := [(.ref da), (.ref b13), (.ref b2), (.int 0), (.int 2), (.int 4)]) (rest := []) (lenOf pd1 rfl) rfl (by show 2 * 0 + _ ≤ _; exact Nat.le_of_eq rfl) (hb hby d1_79) (fun _ _ => ⟨rfl, e40, (Nat.le_of_ble_eq_true rfl), (Nat.le_of_ble_eq_true rfl)⟩)
  dsimp only [Pt.U, Pt.locs, Pt.cells, Pt.slots] at X42 l42 y42 z42 st42 hQ42
  subst l42 y42 z42
  obtain ⟨rfl, Nq42, K42, A42⟩ := hQ42
  have N42 := Fr.app N32 Nq42
  have B42 : Arv Z T42.heap b2 k2 .int 4 (own_rg (4 : Int32).toNatClampNeg (fun x => .int ((own_m4_2 sv) x))) (.int 0) := A42
  refine OD.go (B := (T42.setTop (mkF m 82 #[.val (.ref da), .val (.ref b13), .val (.ref b2), .val (.int 2), .val (.int 0), .val (.int 2), .val (.int 4)] []))) st42 ?_
  refine OD.go (B := (T42.setTop (mkF m 84 #[.val (.ref da), .val (.ref b13), .val (.ref b2), .val (.int 2), .val (.int 0), .val (.int 2), .val (.int 4)] [(.int 0)]))) (fun t k => XS.iload X42.here hx rfl (hb hby d1_82) rfl k) ?_
  refine OD.go (B := (T42.setTop (mkF m 85 #[.val (.ref da), .val (.ref b13), .val (.ref b2), .val (.int 2), .val (.int 0), .val (.int 2), .val (.int 4)] [(.int 2), (.int 0)]))) (fun t k => XS.iconst X42.here hx rfl (hb hby d1_84) k) ?_
  refine OD.go (B := (T42.setTop (mkF m 86 #[.val (.ref da), .val (.ref b13), .val (.ref b2), .val (.int 2), .val (.int 0), .val (.int 2), .val (.int 4)] [(.int 2), (.int 2), (.int 0)]))) (fun t k => XS.iloadN X42.here hx rfl (hb hby d1_85) rfl k) ?_
  refine OD.go (B := (T42.setTop (mkF m 87 #[.val (.ref da), .val (.ref b13), .val (.ref b2), .val (.int 2), .val (.int 0), .val (.int 2), .val (.int 4)] [(.int 4), (.int 0)]))) (fun t k => XS.imul X42.here hx rfl (hb hby d1_86) rfl k) ?_
  refine OD.go (B := (T42.setTop (mkF m 88 #[.val (.ref da), .val (.ref b13), .val (.ref b2), .val (.int 2), .val (.int 0), .val (.int 2), .val (.int 4)] [(.int 4)]))) (fun t k => XS.iadd X42.here hx rfl (hb hby d1_87) rfl k) ?_
  refine OD.go (B := (T42.setTop (mkF m 90 #[.val (.ref da), .val (.ref b13), .val (.ref b2), .val (.int 2), .val (.int 4), .val (.int 2), .val (.int 4)] []))) (fun t k => XS.istore X42.here hx rfl (hb hby d1_88) rfl (l' := #[.val (.ref da), .val (.ref b13), .val (.ref b2), .val (.int 2), .val (.int 4), .val (.int 2), .val (.int 4)]) rfl k) ?_
  refine OD.go (B := (T42.setTop (mkF m 39 #[.val (.ref da), .val (.ref b13), .val (.ref b2), .val (.int 2), .val (.int 4), .val (.int 2), .val (.int 4)] []))) (fun t k => XS.goto X42.here hx rfl (pc0 := 90) (pc' := 39) rfl (hb hby d1_90) (by decide) (by decide) k) ?_
  refine OD.go (B := (T42.setTop (mkF m 41 #[.val (.ref da), .val (.ref b13), .val (.ref b2), .val (.int 2), .val (.int 4), .val (.int 2), .val (.int 4)] [(.int 4)]))) (fun t k => XS.iload X42.here hx rfl (hb hby d1_39) rfl k) ?_
  refine OD.go (B := (T42.setTop (mkF m 42 #[.val (.ref da), .val (.ref b13), .val (.ref b2), .val (.int 2), .val (.int 4), .val (.int 2), .val (.int 4)] [(.ref b13), (.int 4)]))) (fun t k => XS.aloadN X42.here hx rfl (hb hby d1_41) rfl rfl k) ?_
  have f43 := (B32.keep K42 (ninS (Ne.symm (Nat.ne_of_lt (Nat.lt_of_lt_of_le (Nat.lt_of_lt_of_le (Nat.lt_of_lt_of_le (Nat.lt_of_lt_of_le (Nat.lt_of_lt_of_le V2.lt (Keep.of_wr W4).1) (Keep.of_wr W6).1) (Keep.of_wr W8).1) (Keep.of_wr W10).1) (Nat.le_of_eq g13.symm)))) nin0))
  obtain ⟨cl44, Ar44, hl44⟩ := own_len f43
  refine OD.go (B := (T42.setTop (mkF m 43 #[.val (.ref da), .val (.ref b13), .val (.ref b2), .val (.int 2), .val (.int 4), .val (.int 2), .val (.int 4)] [(.int 4), (.int 4)]))) (fun t k => X42.arraylength hx (by exact Ar44.1) (State.isArrayOf_alike hZ.alike Ar44.2.1) (g := (mkF m 42 #[.val (.ref da), .val (.ref b13), .val (.ref b2), .val (.int 2), .val (.int 4), .val (.int 2), .val (.int 4)] [(.ref b13), (.int 4)])) rfl rfl (hb hby d1_42) _ (by rw [hl44]; exact k)) ?_
  refine OD.go (B := (T42.setTop (mkF m 93 #[.val (.ref da), .val (.ref b13), .val (.ref b2), .val (.int 2), .val (.int 4), .val (.int 2), .val (.int 4)] []))) (fun t k => XS.icmpYes X42.here hx rfl (pc0 := 43) (pc' := 93) rfl (hb hby d1_43) rfl (flt (by decide : ¬ (4 : Int32) < (4 : Int32))).2.1 (by decide) (by decide) k) ?_
  refine OD.go (B := (T42.setTop (mkF m 94 #[.val (.ref da), .val (.ref b13), .val (.ref b2), .val (.int 2), .val (.int 4), .val (.int 2), .val (.int 4)] [(.ref b13)]))) (fun t k => XS.aloadN X42.here hx rfl (hb hby d1_93) rfl rfl k) ?_
  refine OD.go (B := (T42.setTop (mkF m 96 #[.val (.ref da), .val (.ref b13), .val (.ref b2), .val (.int 2), .val (.ref b13), .val (.int 2), .val (.int 4)] []))) (fun t k => XS.astore X42.here hx rfl (hb hby d1_94) rfl rfl (l' := #[.val (.ref da), .val (.ref b13), .val (.ref b2), .val (.int 2), .val (.ref b13), .val (.int 2), .val (.int 4)]) rfl k) ?_
  refine OD.go (B := (T42.setTop (mkF m 97 #[.val (.ref da), .val (.ref b13), .val (.ref b2), .val (.int 2), .val (.ref b13), .val (.int 2), .val (.int 4)] [(.ref b2)]))) (fun t k => XS.aloadN X42.here hx rfl (hb hby d1_96) rfl rfl k) ?_
  refine OD.go (B := (T42.setTop (mkF m 98 #[.val (.ref da), .val (.ref b2), .val (.ref b2), .val (.int 2), .val (.ref b13), .val (.int 2), .val (.int 4)] []))) (fun t k => XS.astoreN X42.here hx rfl (hb hby d1_97) rfl rfl (l' := #[.val (.ref da), .val (.ref b2), .val (.ref b2), .val (.int 2), .val (.ref b13), .val (.int 2), .val (.int 4)]) rfl k) ?_
  refine OD.go (B := (T42.setTop (mkF m 100 #[.val (.ref da), .val (.ref b2), .val (.ref b2), .val (.int 2), .val (.ref b13), .val (.int 2), .val (.int 4)] [(.ref b13)]))) (fun t k => XS.aload X42.here hx rfl (hb hby d1_98) rfl rfl k) ?_
  refine OD.go (B := (T42.setTop (mkF m 101 #[.val (.ref da), .val (.ref b2), .val (.ref b13), .val (.int 2), .val (.ref b13), .val (.int 2), .val (.int 4)] []))) (fun t k => XS.astoreN X42.here hx rfl (hb hby d1_100) rfl rfl (l' := #[.val (.ref da), .val (.ref b2), .val (.ref b13), .val (.int 2), .val (.ref b13), .val (.int 2), .val (.int 4)]) rfl k) ?_
  refine OD.go (B := (T42.setTop (mkF m 102 #[.val (.ref da), .val (.ref b2), .val (.ref b13), .val (.int 2), .val (.ref b13), .val (.int 2), .val (.int 4)] [(.int 2)]))) (fun t k => XS.iloadN X42.here hx rfl (hb hby d1_101) rfl k) ?_
  refine OD.go (B := (T42.setTop (mkF m 103 #[.val (.ref da), .val (.ref b2), .val (.ref b13), .val (.int 2), .val (.ref b13), .val (.int 2), .val (.int 4)] [(.int 2), (.int 2)]))) (fun t k => XS.iconst X42.here hx rfl (hb hby d1_102) k) ?_
  refine OD.go (B := (T42.setTop (mkF m 104 #[.val (.ref da), .val (.ref b2), .val (.ref b13), .val (.int 2), .val (.ref b13), .val (.int 2), .val (.int 4)] [(.int 4)]))) (fun t k => XS.imul X42.here hx rfl (hb hby d1_103) rfl k) ?_
  refine OD.go (B := (T42.setTop (mkF m 105 #[.val (.ref da), .val (.ref b2), .val (.ref b13), .val (.int 4), .val (.ref b13), .val (.int 2), .val (.int 4)] []))) (fun t k => XS.istoreN X42.here hx rfl (hb hby d1_104) rfl (l' := #[.val (.ref da), .val (.ref b2), .val (.ref b13), .val (.int 4), .val (.ref b13), .val (.int 2), .val (.int 4)]) rfl k) ?_
  refine OD.go (B := (T42.setTop (mkF m 30 #[.val (.ref da), .val (.ref b2), .val (.ref b13), .val (.int 4), .val (.ref b13), .val (.int 2), .val (.int 4)] []))) (fun t k => XS.goto X42.here hx rfl (pc0 := 105) (pc' := 30) rfl (hb hby d1_105) (by decide) (by decide) k) ?_
  refine OD.go (B := (T42.setTop (mkF m 31 #[.val (.ref da), .val (.ref b2), .val (.ref b13), .val (.int 4), .val (.ref b13), .val (.int 2), .val (.int 4)] [(.int 4)]))) (fun t k => XS.iloadN X42.here hx rfl (hb hby d1_30) rfl k) ?_
  refine OD.go (B := (T42.setTop (mkF m 32 #[.val (.ref da), .val (.ref b2), .val (.ref b13), .val (.int 4), .val (.ref b13), .val (.int 2), .val (.int 4)] [(.ref b2), (.int 4)]))) (fun t k => XS.aloadN X42.here hx rfl (hb hby d1_31) rfl rfl k) ?_
  obtain ⟨cl45, Ar45, hl45⟩ := own_len B42
  refine OD.go (B := (T42.setTop (mkF m 33 #[.val (.ref da), .val (.ref b2), .val (.ref b13), .val (.int 4), .val (.ref b13), .val (.int 2), .val (.int 4)] [(.int 4), (.int 4)]))) (fun t k => X42.arraylength hx (by exact Ar45.1) (State.isArrayOf_alike hZ.alike Ar45.2.1) (g := (mkF m 32 #[.val (.ref da), .val (.ref b2), .val (.ref b13), .val (.int 4), .val (.ref b13), .val (.int 2), .val (.int 4)] [(.ref b2), (.int 4)])) rfl rfl (hb hby d1_32) _ (by rw [hl45]; exact k)) ?_
  refine OD.go (B := (T42.setTop (mkF m 108 #[.val (.ref da), .val (.ref b2), .val (.ref b13), .val (.int 4), .val (.ref b13), .val (.int 2), .val (.int 4)] []))) (fun t k => XS.icmpYes X42.here hx rfl (pc0 := 33) (pc' := 108) rfl (hb hby d1_33) rfl (flt (by decide : ¬ (4 : Int32) < (4 : Int32))).2.1 (by decide) (by decide) k) ?_
  refine OD.go (B := (T42.setTop (mkF m 109 #[.val (.ref da), .val (.ref b2), .val (.ref b13), .val (.int 4), .val (.ref b13), .val (.int 2), .val (.int 4)] [(.ref b2)]))) (fun t k => XS.aloadN X42.here hx rfl (hb hby d1_108) rfl rfl k) ?_
  exact OD.ret X42 hx hlk (t := (.array .int)) Bd.returns rfl (Or.inr (Or.inr (Or.inr (Or.inr ⟨rfl, rfl, rfl⟩)))) (hb hby d1_109) (Nat.le_of_ble_eq_true rfl) (Nat.le_of_ble_eq_true rfl) ⟨_, _, rfl, N42, by exact ((((((((((Keep.refl h0 []).ext E2).wr W4 (Or.inr (Nat.le_trans (Nat.le_refl _) (Nat.le_of_eq g2.symm)))).wr W6 (Or.inr (Nat.le_trans (Nat.le_refl _) (Nat.le_of_eq g2.symm)))).wr W8 (Or.inr (Nat.le_trans (Nat.le_refl _) (Nat.le_of_eq g2.symm)))).wr W10 (Or.inr (Nat.le_trans (Nat.le_refl _) (Nat.le_of_eq g2.symm)))).ext E13).trans K24 (allS (Or.inr (Nat.le_trans (Nat.le_trans (Nat.le_trans (Nat.le_trans (Nat.le_trans (Nat.le_trans (Nat.le_refl _) E2.1) (Keep.of_wr W4).1) (Keep.of_wr W6).1) (Keep.of_wr W8).1) (Keep.of_wr W10).1) (Nat.le_of_eq g13.symm))) all0)).trans K32 (allS (Or.inr (Nat.le_trans (Nat.le_trans (Nat.le_trans (Nat.le_trans (Nat.le_trans (Nat.le_trans (Nat.le_refl _) E2.1) (Keep.of_wr W4).1) (Keep.of_wr W6).1) (Keep.of_wr W8).1) (Keep.of_wr W10).1) (Nat.le_of_eq g13.symm))) all0)).trans K42 (allS (Or.inr (Nat.le_trans (Nat.le_refl _) (Nat.le_of_eq g2.symm))) all0)), (Nat.le_trans (Nat.le_refl _) (Nat.le_of_eq g2.symm)), by exact B42⟩
def Q_rmO5 (Z : State) (da : Addr) (h0 : Heap) (n0 : Nat) (sv : Int32 → UInt64) (v : Option Value) (h : Heap) (L : List Loc) : Prop := ∃ (b : Addr) (k : ClassId), v = some (.ref b) ∧ Fr n0 L ∧ Keep h0 h [] ∧ h0.size ≤ b ∧ Arv Z h b k .int 5 (own_rg (5 : Int32).toNatClampNeg (fun x => .int ((own_m5_5 sv) x))) (.int 0)
set_option maxRecDepth 65536 in
set_option maxHeartbeats 40000000 in
theorem rmO5 (l : Launch) (Z : State) (a0 : Array Value) (hw : ∀ d ∈ tables_1, d.before a0 Z = true) (ws : List Jvm.Cond) (da : Addr) (h0 : Heap) (n0 : Nat) (Z0 : n0 ≤ h0.size) (k0 : ClassId) (sv : Int32 → UInt64) (D1 : Arv Z h0 da k0 .double (5 : Int32) (own_rg (5 : Int32).toNatClampNeg (fun x => .double (sv x))) (.double 0)) :
    MetFree l (⟨"com/example/topside/topside/DescendingOrder", "of", "([D)[I"⟩ : MethodName) (head1 (Jvm.Cond.code (⟨"com/example/topside/topside/DescendingOrder", "of", "([D)[I"⟩ : MethodName) prog_5_method_2_code 7 (some (.array .int)) :: ws) ({ frames := 1, cells := 2, slots := 12, locals := 24 } : Room)) (fun a U => a = #[(.ref da)] ∧ Z.Warmed39 U.vm ∧ U.heap = h0) (fun _ _ _ _ _ => True) (fun _ U o U' => ∃ v L, o = .returned v ∧ Q_rmO5 Z da h0 n0 sv v U'.heap L ∧ FrameEnd U o U' L ({ frames := 1, cells := 2, slots := 12, locals := 24 } : Room).cells ({ frames := 1, cells := 2, slots := 12, locals := 24 } : Room).slots) := by
  refine MetFree.of_bodySF (plainFor_of_name pn0) hisR ?_
  intro p e s m args below meth c s₁ Bd hml0 hP hK
  obtain ⟨rfl, hZ, hh⟩ := hP
  have hx := Bd.exec
  have hby := Bd.bytes
  have hlk : meth.locks = false := Bd.notSynchronized
  have hml : c.maxLocals = 7 := hml0
  have hown : s.vm.findClass "com/example/topside/topside/DescendingOrder" = some m.cls := findClass_of_methodNamed Bd.named
  have hnm := (name_of_methodNamed Bd.named Bd.method).1
  have X0 : Stand p l e ({ frames := 1, cells := 2, slots := 12, locals := 24 } : Room) s m #[(.ref da)] below meth c s₁ [] 0 0 := Stand.of_body Bd
  have e0 : s₁.heap = h0 := by rw [← hh, Bd.state]; rfl
  have N0 := Fr.nil n0
  suffices hgo : OD p e s below (Q_rmO5 Z da h0 n0 sv) ({ frames := 1, cells := 2, slots := 12, locals := 24 } : Room).cells ({ frames := 1, cells := 2, slots := 12, locals := 24 } : Room).slots (s₁.setTop (mkF m 0 #[.val (.ref da), .unset, .unset, .unset, .unset, .unset, .unset] [])) by
    obtain ⟨s₂, o, hgo1, hgo2⟩ := hgo
    exact ⟨s₂, o, castTop (ef2 m da) hgo1, hgo2⟩
  refine OD.go (B := (s₁.setTop (mkF m 1 #[.val (.ref da), .unset, .unset, .unset, .unset, .unset, .unset] [(.ref da)]))) (fun t k => XS.aloadN X0.here hx rfl (hb hby d1_0) rfl rfl k) ?_
  obtain ⟨cl1, Ar1, hl1⟩ := own_len D1
  refine OD.go (B := (s₁.setTop (mkF m 2 #[.val (.ref da), .unset, .unset, .unset, .unset, .unset, .unset] [(.int 5)]))) (fun t k => X0.arraylength hx (by rw [e0]; exact Ar1.1) (State.isArrayOf_alike hZ.alike Ar1.2.1) (g := (mkF m 1 #[.val (.ref da), .unset, .unset, .unset, .unset, .unset, .unset] [(.ref da)])) rfl rfl (hb hby d1_1) _ (by rw [hl1]; exact k)) ?_
  obtain ⟨T2, h2, k2, X2, e2, E2, A2, st2⟩ := newP X0 hx hZ (aty := .int) (Wd5 hw) e0 (g := (mkF m 2 #[.val (.ref da), .unset, .unset, .unset, .unset, .unset, .unset] [(.int 5)])) rfl (hb hby d1_2) rfl (by decide) (cap := 5) (by decide) (by decide) (Nat.le_of_ble_eq_true rfl) (Nat.le_of_ble_eq_true rfl)
  obtain ⟨b2, g2⟩ : ∃ z, z = h0.size := ⟨_, rfl⟩
  rw [← g2] at A2 st2
  have V2 : Arv Z h2 b2 k2 .int 5 [(.int 0), (.int 0), (.int 0), (.int 0), (.int 0)] (.int 0) := (Arv.new A2 (by decide)).pad (pad_rep [] (.int 0) 5)
  refine OD.go (B := (T2.setTop (mkF m 4 #[.val (.ref da), .unset, .unset, .unset, .unset, .unset, .unset] [(.ref b2)]))) st2 ?_
  refine OD.go (B := (T2.setTop (mkF m 5 #[.val (.ref da), .val (.ref b2), .unset, .unset, .unset, .unset, .unset] []))) (fun t k => XS.astoreN X2.here hx rfl (hb hby d1_4) rfl rfl (l' := #[.val (.ref da), .val (.ref b2), .unset, .unset, .unset, .unset, .unset]) rfl k) ?_
  refine OD.go (B := (T2.setTop (mkF m 6 #[.val (.ref da), .val (.ref b2), .unset, .unset, .unset, .unset, .unset] [(.int 0)]))) (fun t k => XS.iconst X2.here hx rfl (hb hby d1_5) k) ?_
  refine OD.go (B := (T2.setTop (mkF m 7 #[.val (.ref da), .val (.ref b2), .val (.int 0), .unset, .unset, .unset, .unset] []))) (fun t k => XS.istoreN X2.here hx rfl (hb hby d1_6) rfl (l' := #[.val (.ref da), .val (.ref b2), .val (.int 0), .unset, .unset, .unset, .unset]) rfl k) ?_
  refine OD.go (B := (T2.setTop (mkF m 8 #[.val (.ref da), .val (.ref b2), .val (.int 0), .unset, .unset, .unset, .unset] [(.int 0)]))) (fun t k => XS.iloadN X2.here hx rfl (hb hby d1_7) rfl k) ?_
  refine OD.go (B := (T2.setTop (mkF m 9 #[.val (.ref da), .val (.ref b2), .val (.int 0), .unset, .unset, .unset, .unset] [(.ref b2), (.int 0)]))) (fun t k => XS.aloadN X2.here hx rfl (hb hby d1_8) rfl rfl k) ?_
  obtain ⟨cl3, Ar3, hl3⟩ := own_len V2
  refine OD.go (B := (T2.setTop (mkF m 10 #[.val (.ref da), .val (.ref b2), .val (.int 0), .unset, .unset, .unset, .unset] [(.int 5), (.int 0)]))) (fun t k => X2.arraylength hx (by rw [e2]; exact Ar3.1) (State.isArrayOf_alike hZ.alike Ar3.2.1) (g := (mkF m 9 #[.val (.ref da), .val (.ref b2), .val (.int 0), .unset, .unset, .unset, .unset] [(.ref b2), (.int 0)])) rfl rfl (hb hby d1_9) _ (by rw [hl3]; exact k)) ?_
  refine OD.go (B := (T2.setTop (mkF m 13 #[.val (.ref da), .val (.ref b2), .val (.int 0), .unset, .unset, .unset, .unset] []))) (fun t k => XS.icmpNo X2.here hx rfl (hb hby d1_10) rfl (tlt (by decide : (0 : Int32) < (5 : Int32))).2.1 k) ?_
  refine OD.go (B := (T2.setTop (mkF m 14 #[.val (.ref da), .val (.ref b2), .val (.int 0), .unset, .unset, .unset, .unset] [(.ref b2)]))) (fun t k => XS.aloadN X2.here hx rfl (hb hby d1_13) rfl rfl k) ?_
  refine OD.go (B := (T2.setTop (mkF m 15 #[.val (.ref da), .val (.ref b2), .val (.int 0), .unset, .unset, .unset, .unset] [(.int 0), (.ref b2)]))) (fun t k => XS.iloadN X2.here hx rfl (hb hby d1_14) rfl k) ?_
  refine OD.go (B := (T2.setTop (mkF m 16 #[.val (.ref da), .val (.ref b2), .val (.int 0), .unset, .unset, .unset, .unset] [(.int 0), (.int 0), (.ref b2)]))) (fun t k => XS.iloadN X2.here hx rfl (hb hby d1_15) rfl k) ?_
  obtain ⟨cl4, Ar4, q4, S4, M4, H4, G4⟩ := id V2
  obtain ⟨T4, h4, X4, e4, W4, st4⟩ := stI X2 hx hZ e2 Ar4 (j := (0 : Int32)) (inb_of S4 ⟨by decide, by decide⟩) (g := (mkF m 16 #[.val (.ref da), .val (.ref b2), .val (.int 0), .unset, .unset, .unset, .unset] [(.int 0), (.int 0), (.ref b2)])) rfl rfl (hb hby d1_16)
  have V4 : Arv Z h4 b2 k2 .int 5 [(.int 0), (.int 0), (.int 0), (.int 0), (.int 0)] (.int 0) := Arv.set Ar4 q4 S4 M4 H4 G4 rfl W4 0 rfl (Nat.le_of_ble_eq_true rfl)
  have N4 := Fr.snoc X4 N0 (Nat.le_trans Z0 (Nat.le_of_eq g2.symm))
  refine OD.go (B := (T4.setTop (mkF m 17 #[.val (.ref da), .val (.ref b2), .val (.int 0), .unset, .unset, .unset, .unset] []))) st4 ?_
  refine OD.go (B := (T4.setTop (mkF m 20 #[.val (.ref da), .val (.ref b2), .val (.int 1), .unset, .unset, .unset, .unset] []))) (fun t k => XS.iinc X4.here hx rfl (hb hby d1_17) rfl (l' := #[.val (.ref da), .val (.ref b2), .val (.int 1), .unset, .unset, .unset, .unset]) rfl k) ?_
  refine OD.go (B := (T4.setTop (mkF m 7 #[.val (.ref da), .val (.ref b2), .val (.int 1), .unset, .unset, .unset, .unset] []))) (fun t k => XS.goto X4.here hx rfl (pc0 := 20) (pc' := 7) rfl (hb hby d1_20) (by decide) (by decide) k) ?_
  refine OD.go (B := (T4.setTop (mkF m 8 #[.val (.ref da), .val (.ref b2), .val (.int 1), .unset, .unset, .unset, .unset] [(.int 1)]))) (fun t k => XS.iloadN X4.here hx rfl (hb hby d1_7) rfl k) ?_
  refine OD.go (B := (T4.setTop (mkF m 9 #[.val (.ref da), .val (.ref b2), .val (.int 1), .unset, .unset, .unset, .unset] [(.ref b2), (.int 1)]))) (fun t k => XS.aloadN X4.here hx rfl (hb hby d1_8) rfl rfl k) ?_
  obtain ⟨cl5, Ar5, hl5⟩ := own_len V4
  refine OD.go (B := (T4.setTop (mkF m 10 #[.val (.ref da), .val (.ref b2), .val (.int 1), .unset, .unset, .unset, .unset] [(.int 5), (.int 1)]))) (fun t k => X4.arraylength hx (by rw [e4]; exact Ar5.1) (State.isArrayOf_alike hZ.alike Ar5.2.1) (g := (mkF m 9 #[.val (.ref da), .val (.ref b2), .val (.int 1), .unset, .unset, .unset, .unset] [(.ref b2), (.int 1)])) rfl rfl (hb hby d1_9) _ (by rw [hl5]; exact k)) ?_
  refine OD.go (B := (T4.setTop (mkF m 13 #[.val (.ref da), .val (.ref b2), .val (.int 1), .unset, .unset, .unset, .unset] []))) (fun t k => XS.icmpNo X4.here hx rfl (hb hby d1_10) rfl (tlt (by decide : (1 : Int32) < (5 : Int32))).2.1 k) ?_
  refine OD.go (B := (T4.setTop (mkF m 14 #[.val (.ref da), .val (.ref b2), .val (.int 1), .unset, .unset, .unset, .unset] [(.ref b2)]))) (fun t k => XS.aloadN X4.here hx rfl (hb hby d1_13) rfl rfl k) ?_
  refine OD.go (B := (T4.setTop (mkF m 15 #[.val (.ref da), .val (.ref b2), .val (.int 1), .unset, .unset, .unset, .unset] [(.int 1), (.ref b2)]))) (fun t k => XS.iloadN X4.here hx rfl (hb hby d1_14) rfl k) ?_
  refine OD.go (B := (T4.setTop (mkF m 16 #[.val (.ref da), .val (.ref b2), .val (.int 1), .unset, .unset, .unset, .unset] [(.int 1), (.int 1), (.ref b2)]))) (fun t k => XS.iloadN X4.here hx rfl (hb hby d1_15) rfl k) ?_
  obtain ⟨cl6, Ar6, q6, S6, M6, H6, G6⟩ := id V4
  obtain ⟨T6, h6, X6, e6, W6, st6⟩ := stI X4 hx hZ e4 Ar6 (j := (1 : Int32)) (inb_of S6 ⟨by decide, by decide⟩) (g := (mkF m 16 #[.val (.ref da), .val (.ref b2), .val (.int 1), .unset, .unset, .unset, .unset] [(.int 1), (.int 1), (.ref b2)])) rfl rfl (hb hby d1_16)
  have V6 : Arv Z h6 b2 k2 .int 5 [(.int 0), (.int 1), (.int 0), (.int 0), (.int 0)] (.int 0) := Arv.set Ar6 q6 S6 M6 H6 G6 rfl W6 1 rfl (Nat.le_of_ble_eq_true rfl)
  have N6 := Fr.snoc X6 N4 (Nat.le_trans Z0 (Nat.le_of_eq g2.symm))
  refine OD.go (B := (T6.setTop (mkF m 17 #[.val (.ref da), .val (.ref b2), .val (.int 1), .unset, .unset, .unset, .unset] []))) st6 ?_
  refine OD.go (B := (T6.setTop (mkF m 20 #[.val (.ref da), .val (.ref b2), .val (.int 2), .unset, .unset, .unset, .unset] []))) (fun t k => XS.iinc X6.here hx rfl (hb hby d1_17) rfl (l' := #[.val (.ref da), .val (.ref b2), .val (.int 2), .unset, .unset, .unset, .unset]) rfl k) ?_
  refine OD.go (B := (T6.setTop (mkF m 7 #[.val (.ref da), .val (.ref b2), .val (.int 2), .unset, .unset, .unset, .unset] []))) (fun t k => XS.goto X6.here hx rfl (pc0 := 20) (pc' := 7) rfl (hb hby d1_20) (by decide) (by decide) k) ?_
  refine OD.go (B := (T6.setTop (mkF m 8 #[.val (.ref da), .val (.ref b2), .val (.int 2), .unset, .unset, .unset, .unset] [(.int 2)]))) (fun t k => XS.iloadN X6.here hx rfl (hb hby d1_7) rfl k) ?_
  refine OD.go (B := (T6.setTop (mkF m 9 #[.val (.ref da), .val (.ref b2), .val (.int 2), .unset, .unset, .unset, .unset] [(.ref b2), (.int 2)]))) (fun t k => XS.aloadN X6.here hx rfl (hb hby d1_8) rfl rfl k) ?_
  obtain ⟨cl7, Ar7, hl7⟩ := own_len V6
  refine OD.go (B := (T6.setTop (mkF m 10 #[.val (.ref da), .val (.ref b2), .val (.int 2), .unset, .unset, .unset, .unset] [(.int 5), (.int 2)]))) (fun t k => X6.arraylength hx (by rw [e6]; exact Ar7.1) (State.isArrayOf_alike hZ.alike Ar7.2.1) (g := (mkF m 9 #[.val (.ref da), .val (.ref b2), .val (.int 2), .unset, .unset, .unset, .unset] [(.ref b2), (.int 2)])) rfl rfl (hb hby d1_9) _ (by rw [hl7]; exact k)) ?_
  refine OD.go (B := (T6.setTop (mkF m 13 #[.val (.ref da), .val (.ref b2), .val (.int 2), .unset, .unset, .unset, .unset] []))) (fun t k => XS.icmpNo X6.here hx rfl (hb hby d1_10) rfl (tlt (by decide : (2 : Int32) < (5 : Int32))).2.1 k) ?_
  refine OD.go (B := (T6.setTop (mkF m 14 #[.val (.ref da), .val (.ref b2), .val (.int 2), .unset, .unset, .unset, .unset] [(.ref b2)]))) (fun t k => XS.aloadN X6.here hx rfl (hb hby d1_13) rfl rfl k) ?_
  refine OD.go (B := (T6.setTop (mkF m 15 #[.val (.ref da), .val (.ref b2), .val (.int 2), .unset, .unset, .unset, .unset] [(.int 2), (.ref b2)]))) (fun t k => XS.iloadN X6.here hx rfl (hb hby d1_14) rfl k) ?_
  refine OD.go (B := (T6.setTop (mkF m 16 #[.val (.ref da), .val (.ref b2), .val (.int 2), .unset, .unset, .unset, .unset] [(.int 2), (.int 2), (.ref b2)]))) (fun t k => XS.iloadN X6.here hx rfl (hb hby d1_15) rfl k) ?_
  obtain ⟨cl8, Ar8, q8, S8, M8, H8, G8⟩ := id V6
  obtain ⟨T8, h8, X8, e8, W8, st8⟩ := stI X6 hx hZ e6 Ar8 (j := (2 : Int32)) (inb_of S8 ⟨by decide, by decide⟩) (g := (mkF m 16 #[.val (.ref da), .val (.ref b2), .val (.int 2), .unset, .unset, .unset, .unset] [(.int 2), (.int 2), (.ref b2)])) rfl rfl (hb hby d1_16)
  have V8 : Arv Z h8 b2 k2 .int 5 [(.int 0), (.int 1), (.int 2), (.int 0), (.int 0)] (.int 0) := Arv.set Ar8 q8 S8 M8 H8 G8 rfl W8 2 rfl (Nat.le_of_ble_eq_true rfl)
  have N8 := Fr.snoc X8 N6 (Nat.le_trans Z0 (Nat.le_of_eq g2.symm))
  refine OD.go (B := (T8.setTop (mkF m 17 #[.val (.ref da), .val (.ref b2), .val (.int 2), .unset, .unset, .unset, .unset] []))) st8 ?_
  refine OD.go (B := (T8.setTop (mkF m 20 #[.val (.ref da), .val (.ref b2), .val (.int 3), .unset, .unset, .unset, .unset] []))) (fun t k => XS.iinc X8.here hx rfl (hb hby d1_17) rfl (l' := #[.val (.ref da), .val (.ref b2), .val (.int 3), .unset, .unset, .unset, .unset]) rfl k) ?_
  refine OD.go (B := (T8.setTop (mkF m 7 #[.val (.ref da), .val (.ref b2), .val (.int 3), .unset, .unset, .unset, .unset] []))) (fun t k => XS.goto X8.here hx rfl (pc0 := 20) (pc' := 7) rfl (hb hby d1_20) (by decide) (by decide) k) ?_
  refine OD.go (B := (T8.setTop (mkF m 8 #[.val (.ref da), .val (.ref b2), .val (.int 3), .unset, .unset, .unset, .unset] [(.int 3)]))) (fun t k => XS.iloadN X8.here hx rfl (hb hby d1_7) rfl k) ?_
  refine OD.go (B := (T8.setTop (mkF m 9 #[.val (.ref da), .val (.ref b2), .val (.int 3), .unset, .unset, .unset, .unset] [(.ref b2), (.int 3)]))) (fun t k => XS.aloadN X8.here hx rfl (hb hby d1_8) rfl rfl k) ?_
  obtain ⟨cl9, Ar9, hl9⟩ := own_len V8
  refine OD.go (B := (T8.setTop (mkF m 10 #[.val (.ref da), .val (.ref b2), .val (.int 3), .unset, .unset, .unset, .unset] [(.int 5), (.int 3)]))) (fun t k => X8.arraylength hx (by rw [e8]; exact Ar9.1) (State.isArrayOf_alike hZ.alike Ar9.2.1) (g := (mkF m 9 #[.val (.ref da), .val (.ref b2), .val (.int 3), .unset, .unset, .unset, .unset] [(.ref b2), (.int 3)])) rfl rfl (hb hby d1_9) _ (by rw [hl9]; exact k)) ?_
  refine OD.go (B := (T8.setTop (mkF m 13 #[.val (.ref da), .val (.ref b2), .val (.int 3), .unset, .unset, .unset, .unset] []))) (fun t k => XS.icmpNo X8.here hx rfl (hb hby d1_10) rfl (tlt (by decide : (3 : Int32) < (5 : Int32))).2.1 k) ?_
  refine OD.go (B := (T8.setTop (mkF m 14 #[.val (.ref da), .val (.ref b2), .val (.int 3), .unset, .unset, .unset, .unset] [(.ref b2)]))) (fun t k => XS.aloadN X8.here hx rfl (hb hby d1_13) rfl rfl k) ?_
  refine OD.go (B := (T8.setTop (mkF m 15 #[.val (.ref da), .val (.ref b2), .val (.int 3), .unset, .unset, .unset, .unset] [(.int 3), (.ref b2)]))) (fun t k => XS.iloadN X8.here hx rfl (hb hby d1_14) rfl k) ?_
  refine OD.go (B := (T8.setTop (mkF m 16 #[.val (.ref da), .val (.ref b2), .val (.int 3), .unset, .unset, .unset, .unset] [(.int 3), (.int 3), (.ref b2)]))) (fun t k => XS.iloadN X8.here hx rfl (hb hby d1_15) rfl k) ?_
  obtain ⟨cl10, Ar10, q10, S10, M10, H10, G10⟩ := id V8
  obtain ⟨T10, h10, X10, e10, W10, st10⟩ := stI X8 hx hZ e8 Ar10 (j := (3 : Int32)) (inb_of S10 ⟨by decide, by decide⟩) (g := (mkF m 16 #[.val (.ref da), .val (.ref b2), .val (.int 3), .unset, .unset, .unset, .unset] [(.int 3), (.int 3), (.ref b2)])) rfl rfl (hb hby d1_16)
  have V10 : Arv Z h10 b2 k2 .int 5 [(.int 0), (.int 1), (.int 2), (.int 3), (.int 0)] (.int 0) := Arv.set Ar10 q10 S10 M10 H10 G10 rfl W10 3 rfl (Nat.le_of_ble_eq_true rfl)
  have N10 := Fr.snoc X10 N8 (Nat.le_trans Z0 (Nat.le_of_eq g2.symm))
  refine OD.go (B := (T10.setTop (mkF m 17 #[.val (.ref da), .val (.ref b2), .val (.int 3), .unset, .unset, .unset, .unset] []))) st10 ?_
  refine OD.go (B := (T10.setTop (mkF m 20 #[.val (.ref da), .val (.ref b2), .val (.int 4), .unset, .unset, .unset, .unset] []))) (fun t k => XS.iinc X10.here hx rfl (hb hby d1_17) rfl (l' := #[.val (.ref da), .val (.ref b2), .val (.int 4), .unset, .unset, .unset, .unset]) rfl k) ?_
  refine OD.go (B := (T10.setTop (mkF m 7 #[.val (.ref da), .val (.ref b2), .val (.int 4), .unset, .unset, .unset, .unset] []))) (fun t k => XS.goto X10.here hx rfl (pc0 := 20) (pc' := 7) rfl (hb hby d1_20) (by decide) (by decide) k) ?_
  refine OD.go (B := (T10.setTop (mkF m 8 #[.val (.ref da), .val (.ref b2), .val (.int 4), .unset, .unset, .unset, .unset] [(.int 4)]))) (fun t k => XS.iloadN X10.here hx rfl (hb hby d1_7) rfl k) ?_
  refine OD.go (B := (T10.setTop (mkF m 9 #[.val (.ref da), .val (.ref b2), .val (.int 4), .unset, .unset, .unset, .unset] [(.ref b2), (.int 4)]))) (fun t k => XS.aloadN X10.here hx rfl (hb hby d1_8) rfl rfl k) ?_
  obtain ⟨cl11, Ar11, hl11⟩ := own_len V10
  refine OD.go (B := (T10.setTop (mkF m 10 #[.val (.ref da), .val (.ref b2), .val (.int 4), .unset, .unset, .unset, .unset] [(.int 5), (.int 4)]))) (fun t k => X10.arraylength hx (by rw [e10]; exact Ar11.1) (State.isArrayOf_alike hZ.alike Ar11.2.1) (g := (mkF m 9 #[.val (.ref da), .val (.ref b2), .val (.int 4), .unset, .unset, .unset, .unset] [(.ref b2), (.int 4)])) rfl rfl (hb hby d1_9) _ (by rw [hl11]; exact k)) ?_
  refine OD.go (B := (T10.setTop (mkF m 13 #[.val (.ref da), .val (.ref b2), .val (.int 4), .unset, .unset, .unset, .unset] []))) (fun t k => XS.icmpNo X10.here hx rfl (hb hby d1_10) rfl (tlt (by decide : (4 : Int32) < (5 : Int32))).2.1 k) ?_
  refine OD.go (B := (T10.setTop (mkF m 14 #[.val (.ref da), .val (.ref b2), .val (.int 4), .unset, .unset, .unset, .unset] [(.ref b2)]))) (fun t k => XS.aloadN X10.here hx rfl (hb hby d1_13) rfl rfl k) ?_
  refine OD.go (B := (T10.setTop (mkF m 15 #[.val (.ref da), .val (.ref b2), .val (.int 4), .unset, .unset, .unset, .unset] [(.int 4), (.ref b2)]))) (fun t k => XS.iloadN X10.here hx rfl (hb hby d1_14) rfl k) ?_
  refine OD.go (B := (T10.setTop (mkF m 16 #[.val (.ref da), .val (.ref b2), .val (.int 4), .unset, .unset, .unset, .unset] [(.int 4), (.int 4), (.ref b2)]))) (fun t k => XS.iloadN X10.here hx rfl (hb hby d1_15) rfl k) ?_
  obtain ⟨cl12, Ar12, q12, S12, M12, H12, G12⟩ := id V10
  obtain ⟨T12, h12, X12, e12, W12, st12⟩ := stI X10 hx hZ e10 Ar12 (j := (4 : Int32)) (inb_of S12 ⟨by decide, by decide⟩) (g := (mkF m 16 #[.val (.ref da), .val (.ref b2), .val (.int 4), .unset, .unset, .unset, .unset] [(.int 4), (.int 4), (.ref b2)])) rfl rfl (hb hby d1_16)
  have V12 : Arv Z h12 b2 k2 .int 5 [(.int 0), (.int 1), (.int 2), (.int 3), (.int 4)] (.int 0) := Arv.set Ar12 q12 S12 M12 H12 G12 rfl W12 4 rfl (Nat.le_of_ble_eq_true rfl)
  have N12 := Fr.snoc X12 N10 (Nat.le_trans Z0 (Nat.le_of_eq g2.symm))
  refine OD.go (B := (T12.setTop (mkF m 17 #[.val (.ref da), .val (.ref b2), .val (.int 4), .unset, .unset, .unset, .unset] []))) st12 ?_
  refine OD.go (B := (T12.setTop (mkF m 20 #[.val (.ref da), .val (.ref b2), .val (.int 5), .unset, .unset, .unset, .unset] []))) (fun t k => XS.iinc X12.here hx rfl (hb hby d1_17) rfl (l' := #[.val (.ref da), .val (.ref b2), .val (.int 5), .unset, .unset, .unset, .unset]) rfl k) ?_
  refine OD.go (B := (T12.setTop (mkF m 7 #[.val (.ref da), .val (.ref b2), .val (.int 5), .unset, .unset, .unset, .unset] []))) (fun t k => XS.goto X12.here hx rfl (pc0 := 20) (pc' := 7) rfl (hb hby d1_20) (by decide) (by decide) k) ?_
  refine OD.go (B := (T12.setTop (mkF m 8 #[.val (.ref da), .val (.ref b2), .val (.int 5), .unset, .unset, .unset, .unset] [(.int 5)]))) (fun t k => XS.iloadN X12.here hx rfl (hb hby d1_7) rfl k) ?_
  refine OD.go (B := (T12.setTop (mkF m 9 #[.val (.ref da), .val (.ref b2), .val (.int 5), .unset, .unset, .unset, .unset] [(.ref b2), (.int 5)]))) (fun t k => XS.aloadN X12.here hx rfl (hb hby d1_8) rfl rfl k) ?_
  obtain ⟨cl13, Ar13, hl13⟩ := own_len V12
  refine OD.go (B := (T12.setTop (mkF m 10 #[.val (.ref da), .val (.ref b2), .val (.int 5), .unset, .unset, .unset, .unset] [(.int 5), (.int 5)]))) (fun t k => X12.arraylength hx (by rw [e12]; exact Ar13.1) (State.isArrayOf_alike hZ.alike Ar13.2.1) (g := (mkF m 9 #[.val (.ref da), .val (.ref b2), .val (.int 5), .unset, .unset, .unset, .unset] [(.ref b2), (.int 5)])) rfl rfl (hb hby d1_9) _ (by rw [hl13]; exact k)) ?_
  refine OD.go (B := (T12.setTop (mkF m 23 #[.val (.ref da), .val (.ref b2), .val (.int 5), .unset, .unset, .unset, .unset] []))) (fun t k => XS.icmpYes X12.here hx rfl (pc0 := 10) (pc' := 23) rfl (hb hby d1_10) rfl (flt (by decide : ¬ (5 : Int32) < (5 : Int32))).2.1 (by decide) (by decide) k) ?_
  refine OD.go (B := (T12.setTop (mkF m 24 #[.val (.ref da), .val (.ref b2), .val (.int 5), .unset, .unset, .unset, .unset] [(.ref b2)]))) (fun t k => XS.aloadN X12.here hx rfl (hb hby d1_23) rfl rfl k) ?_
  obtain ⟨cl14, Ar14, hl14⟩ := own_len V12
  refine OD.go (B := (T12.setTop (mkF m 25 #[.val (.ref da), .val (.ref b2), .val (.int 5), .unset, .unset, .unset, .unset] [(.int 5)]))) (fun t k => X12.arraylength hx (by rw [e12]; exact Ar14.1) (State.isArrayOf_alike hZ.alike Ar14.2.1) (g := (mkF m 24 #[.val (.ref da), .val (.ref b2), .val (.int 5), .unset, .unset, .unset, .unset] [(.ref b2)])) rfl rfl (hb hby d1_24) _ (by rw [hl14]; exact k)) ?_
  obtain ⟨T15, h15, k15, X15, e15, E15, A15, st15⟩ := newP X12 hx hZ (aty := .int) (Wd5 hw) e12 (g := (mkF m 25 #[.val (.ref da), .val (.ref b2), .val (.int 5), .unset, .unset, .unset, .unset] [(.int 5)])) rfl (hb hby d1_25) rfl (by decide) (cap := 5) (by decide) (by decide) (Nat.le_of_ble_eq_true rfl) (Nat.le_of_ble_eq_true rfl)
  obtain ⟨b15, g15⟩ : ∃ z, z = h12.size := ⟨_, rfl⟩
  rw [← g15] at A15 st15
  have V15 : Arv Z h15 b15 k15 .int 5 [(.int 0), (.int 0), (.int 0), (.int 0), (.int 0)] (.int 0) := (Arv.new A15 (by decide)).pad (pad_rep [] (.int 0) 5)
  refine OD.go (B := (T15.setTop (mkF m 27 #[.val (.ref da), .val (.ref b2), .val (.int 5), .unset, .unset, .unset, .unset] [(.ref b15)]))) st15 ?_
  refine OD.go (B := (T15.setTop (mkF m 28 #[.val (.ref da), .val (.ref b2), .val (.ref b15), .unset, .unset, .unset, .unset] []))) (fun t k => XS.astoreN X15.here hx rfl (hb hby d1_27) rfl rfl (l' := #[.val (.ref da), .val (.ref b2), .val (.ref b15), .unset, .unset, .unset, .unset]) rfl k) ?_
  refine OD.go (B := (T15.setTop (mkF m 29 #[.val (.ref da), .val (.ref b2), .val (.ref b15), .unset, .unset, .unset, .unset] [(.int 1)]))) (fun t k => XS.iconst X15.here hx rfl (hb hby d1_28) k) ?_
  refine OD.go (B := (T15.setTop (mkF m 30 #[.val (.ref da), .val (.ref b2), .val (.ref b15), .val (.int 1), .unset, .unset, .unset] []))) (fun t k => XS.istoreN X15.here hx rfl (hb hby d1_29) rfl (l' := #[.val (.ref da), .val (.ref b2), .val (.ref b15), .val (.int 1), .unset, .unset, .unset]) rfl k) ?_
  refine OD.go (B := (T15.setTop (mkF m 31 #[.val (.ref da), .val (.ref b2), .val (.ref b15), .val (.int 1), .unset, .unset, .unset] [(.int 1)]))) (fun t k => XS.iloadN X15.here hx rfl (hb hby d1_30) rfl k) ?_
  refine OD.go (B := (T15.setTop (mkF m 32 #[.val (.ref da), .val (.ref b2), .val (.ref b15), .val (.int 1), .unset, .unset, .unset] [(.ref b2), (.int 1)]))) (fun t k => XS.aloadN X15.here hx rfl (hb hby d1_31) rfl rfl k) ?_
  have f16 := (V12.ext E15)
  obtain ⟨cl17, Ar17, hl17⟩ := own_len f16
  refine OD.go (B := (T15.setTop (mkF m 33 #[.val (.ref da), .val (.ref b2), .val (.ref b15), .val (.int 1), .unset, .unset, .unset] [(.int 5), (.int 1)]))) (fun t k => X15.arraylength hx (by rw [e15]; exact Ar17.1) (State.isArrayOf_alike hZ.alike Ar17.2.1) (g := (mkF m 32 #[.val (.ref da), .val (.ref b2), .val (.ref b15), .val (.int 1), .unset, .unset, .unset] [(.ref b2), (.int 1)])) rfl rfl (hb hby d1_32) _ (by rw [hl17]; exact k)) ?_
  refine OD.go (B := (T15.setTop (mkF m 36 #[.val (.ref da), .val (.ref b2), .val (.ref b15), .val (.int 1), .unset, .unset, .unset] []))) (fun t k => XS.icmpNo X15.here hx rfl (hb hby d1_33) rfl (tlt (by decide : (1 : Int32) < (5 : Int32))).2.1 k) ?_
  refine OD.go (B := (T15.setTop (mkF m 37 #[.val (.ref da), .val (.ref b2), .val (.ref b15), .val (.int 1), .unset, .unset, .unset] [(.int 0)]))) (fun t k => XS.iconst X15.here hx rfl (hb hby d1_36) k) ?_
  refine OD.go (B := (T15.setTop (mkF m 39 #[.val (.ref da), .val (.ref b2), .val (.ref b15), .val (.int 1), .val (.int 0), .unset, .unset] []))) (fun t k => XS.istore X15.here hx rfl (hb hby d1_37) rfl (l' := #[.val (.ref da), .val (.ref b2), .val (.ref b15), .val (.int 1), .val (.int 0), .unset, .unset]) rfl k) ?_
  refine OD.go (B := (T15.setTop (mkF m 41 #[.val (.ref da), .val (.ref b2), .val (.ref b15), .val (.int 1), .val (.int 0), .unset, .unset] [(.int 0)]))) (fun t k => XS.iload X15.here hx rfl (hb hby d1_39) rfl k) ?_
  refine OD.go (B := (T15.setTop (mkF m 42 #[.val (.ref da), .val (.ref b2), .val (.ref b15), .val (.int 1), .val (.int 0), .unset, .unset] [(.ref b2), (.int 0)]))) (fun t k => XS.aloadN X15.here hx rfl (hb hby d1_41) rfl rfl k) ?_
  obtain ⟨cl18, Ar18, hl18⟩ := own_len f16
  refine OD.go (B := (T15.setTop (mkF m 43 #[.val (.ref da), .val (.ref b2), .val (.ref b15), .val (.int 1), .val (.int 0), .unset, .unset] [(.int 5), (.int 0)]))) (fun t k => X15.arraylength hx (by rw [e15]; exact Ar18.1) (State.isArrayOf_alike hZ.alike Ar18.2.1) (g := (mkF m 42 #[.val (.ref da), .val (.ref b2), .val (.ref b15), .val (.int 1), .val (.int 0), .unset, .unset] [(.ref b2), (.int 0)])) rfl rfl (hb hby d1_42) _ (by rw [hl18]; exact k)) ?_
  refine OD.go (B := (T15.setTop (mkF m 46 #[.val (.ref da), .val (.ref b2), .val (.ref b15), .val (.int 1), .val (.int 0), .unset, .unset] []))) (fun t k => XS.icmpNo X15.here hx rfl (hb hby d1_43) rfl (tlt (by decide : (0 : Int32) < (5 : Int32))).2.1 k) ?_
  refine OD.go (B := (T15.setTop (mkF m 48 #[.val (.ref da), .val (.ref b2), .val (.ref b15), .val (.int 1), .val (.int 0), .unset, .unset] [(.int 0)]))) (fun t k => XS.iload X15.here hx rfl (hb hby d1_46) rfl k) ?_
  refine OD.go (B := (T15.setTop (mkF m 49 #[.val (.ref da), .val (.ref b2), .val (.ref b15), .val (.int 1), .val (.int 0), .unset, .unset] [(.int 1), (.int 0)]))) (fun t k => XS.iloadN X15.here hx rfl (hb hby d1_48) rfl k) ?_
  refine OD.go (B := (T15.setTop (mkF m 50 #[.val (.ref da), .val (.ref b2), .val (.ref b15), .val (.int 1), .val (.int 0), .unset, .unset] [(.int 1)]))) (fun t k => XS.iadd X15.here hx rfl (hb hby d1_49) rfl k) ?_
  refine OD.go (B := (T15.setTop (mkF m 51 #[.val (.ref da), .val (.ref b2), .val (.ref b15), .val (.int 1), .val (.int 0), .unset, .unset] [(.ref b2), (.int 1)]))) (fun t k => XS.aloadN X15.here hx rfl (hb hby d1_50) rfl rfl k) ?_
  obtain ⟨cl19, Ar19, hl19⟩ := own_len f16
  refine OD.go (B := (T15.setTop (mkF m 52 #[.val (.ref da), .val (.ref b2), .val (.ref b15), .val (.int 1), .val (.int 0), .unset, .unset] [(.int 5), (.int 1)]))) (fun t k => X15.arraylength hx (by rw [e15]; exact Ar19.1) (State.isArrayOf_alike hZ.alike Ar19.2.1) (g := (mkF m 51 #[.val (.ref da), .val (.ref b2), .val (.ref b15), .val (.int 1), .val (.int 0), .unset, .unset] [(.ref b2), (.int 1)])) rfl rfl (hb hby d1_51) _ (by rw [hl19]; exact k)) ?_
  obtain ⟨_, _, ⟨T20, L20, k20, n20⟩, -, X20, ⟨Lc20, hQ20, l20, y20, z20⟩, st20⟩ := Jvm.LawKit.callS X15 hx (y := (⟨"java/lang/Math", "min", "(II)I"⟩ : MethodName)) hown (mvT hZ (Wd13 hw)) (mvT hZ (Wd14 hw)) (mvT hZ (Wd15 hw)) (mvT hZ (Wd16 hw)) (by decide) (backOf (W := 0) (rmMn1_5 l Z a0 hw [] h15) hZ (Wd16 hw) (Wd15 hw) (by decide) (by decide)) (g := (mkF m 52 #[.val (.ref da), .val (.ref b2), .val (.ref b15), .val (.int 1), .val (.int 0), .unset, .unset] [(.int 5), (.int 1)])) rfl (by rw [hml]; rfl) (argsL := [(.int 1), (.int 5)]) (rest := []) (lenOf pd0 rfl) rfl (by show 2 * 0 + _ ≤ _; exact Nat.le_of_eq rfl) (hb hby d1_52) (fun _ _ => ⟨rfl, e15, (Nat.le_of_ble_eq_true rfl), (Nat.le_of_ble_eq_true rfl)⟩)
  dsimp only [Pt.U, Pt.locs, Pt.cells, Pt.slots] at X20 l20 y20 z20 st20 hQ20
  subst l20 y20 z20
  obtain ⟨rfl, rfl, e20⟩ := hQ20
  try rw [List.append_nil] at X20
  refine OD.go (B := (T20.setTop (mkF m 55 #[.val (.ref da), .val (.ref b2), .val (.ref b15), .val (.int 1), .val (.int 0), .unset, .unset] [(.int 1)]))) st20 ?_
  refine OD.go (B := (T20.setTop (mkF m 57 #[.val (.ref da), .val (.ref b2), .val (.ref b15), .val (.int 1), .val (.int 0), .val (.int 1), .unset] []))) (fun t k => XS.istore X20.here hx rfl (hb hby d1_55) rfl (l' := #[.val (.ref da), .val (.ref b2), .val (.ref b15), .val (.int 1), .val (.int 0), .val (.int 1), .unset]) rfl k) ?_
  refine OD.go (B := (T20.setTop (mkF m 59 #[.val (.ref da), .val (.ref b2), .val (.ref b15), .val (.int 1), .val (.int 0), .val (.int 1), .unset] [(.int 0)]))) (fun t k => XS.iload X20.here hx rfl (hb hby d1_57) rfl k) ?_
  refine OD.go (B := (T20.setTop (mkF m 60 #[.val (.ref da), .val (.ref b2), .val (.ref b15), .val (.int 1), .val (.int 0), .val (.int 1), .unset] [(.int 2), (.int 0)]))) (fun t k => XS.iconst X20.here hx rfl (hb hby d1_59) k) ?_
  refine OD.go (B := (T20.setTop (mkF m 61 #[.val (.ref da), .val (.ref b2), .val (.ref b15), .val (.int 1), .val (.int 0), .val (.int 1), .unset] [(.int 1), (.int 2), (.int 0)]))) (fun t k => XS.iloadN X20.here hx rfl (hb hby d1_60) rfl k) ?_
  refine OD.go (B := (T20.setTop (mkF m 62 #[.val (.ref da), .val (.ref b2), .val (.ref b15), .val (.int 1), .val (.int 0), .val (.int 1), .unset] [(.int 2), (.int 0)]))) (fun t k => XS.imul X20.here hx rfl (hb hby d1_61) rfl k) ?_
  refine OD.go (B := (T20.setTop (mkF m 63 #[.val (.ref da), .val (.ref b2), .val (.ref b15), .val (.int 1), .val (.int 0), .val (.int 1), .unset] [(.int 2)]))) (fun t k => XS.iadd X20.here hx rfl (hb hby d1_62) rfl k) ?_
  refine OD.go (B := (T20.setTop (mkF m 64 #[.val (.ref da), .val (.ref b2), .val (.ref b15), .val (.int 1), .val (.int 0), .val (.int 1), .unset] [(.ref b2), (.int 2)]))) (fun t k => XS.aloadN X20.here hx rfl (hb hby d1_63) rfl rfl k) ?_
  obtain ⟨cl21, Ar21, hl21⟩ := own_len f16
  refine OD.go (B := (T20.setTop (mkF m 65 #[.val (.ref da), .val (.ref b2), .val (.ref b15), .val (.int 1), .val (.int 0), .val (.int 1), .unset] [(.int 5), (.int 2)]))) (fun t k => X20.arraylength hx (by rw [e20]; exact Ar21.1) (State.isArrayOf_alike hZ.alike Ar21.2.1) (g := (mkF m 64 #[.val (.ref da), .val (.ref b2), .val (.ref b15), .val (.int 1), .val (.int 0), .val (.int 1), .unset] [(.ref b2), (.int 2)])) rfl rfl (hb hby d1_64) _ (by rw [hl21]; exact k)) ?_
  obtain ⟨_, _, ⟨T22, L22, k22, n22⟩, -, X22, ⟨Lc22, hQ22, l22, y22, z22⟩, st22⟩ := Jvm.LawKit.callS X20 hx (y := (⟨"java/lang/Math", "min", "(II)I"⟩ : MethodName)) hown (mvT hZ (Wd13 hw)) (mvT hZ (Wd14 hw)) (mvT hZ (Wd15 hw)) (mvT hZ (Wd16 hw)) (by decide) (backOf (W := 0) (rmMn2_5 l Z a0 hw [] h15) hZ (Wd16 hw) (Wd15 hw) (by decide) (by decide)) (g := (mkF m 65 #[.val (.ref da), .val (.ref b2), .val (.ref b15), .val (.int 1), .val (.int 0), .val (.int 1), .unset] [(.int 5), (.int 2)])) rfl (by rw [hml]; rfl) (argsL := [(.int 2), (.int 5)]) (rest := []) (lenOf pd0 rfl) rfl (by show 2 * 0 + _ ≤ _; exact Nat.le_of_eq rfl) (hb hby d1_65) (fun _ _ => ⟨rfl, e20, (Nat.le_of_ble_eq_true rfl), (Nat.le_of_ble_eq_true rfl)⟩)
  dsimp only [Pt.U, Pt.locs, Pt.cells, Pt.slots] at X22 l22 y22 z22 st22 hQ22
  subst l22 y22 z22
  obtain ⟨rfl, rfl, e22⟩ := hQ22
  try rw [List.append_nil] at X22
  refine OD.go (B := (T22.setTop (mkF m 68 #[.val (.ref da), .val (.ref b2), .val (.ref b15), .val (.int 1), .val (.int 0), .val (.int 1), .unset] [(.int 2)]))) st22 ?_
  refine OD.go (B := (T22.setTop (mkF m 70 #[.val (.ref da), .val (.ref b2), .val (.ref b15), .val (.int 1), .val (.int 0), .val (.int 1), .val (.int 2)] []))) (fun t k => XS.istore X22.here hx rfl (hb hby d1_68) rfl (l' := #[.val (.ref da), .val (.ref b2), .val (.ref b15), .val (.int 1), .val (.int 0), .val (.int 1), .val (.int 2)]) rfl k) ?_
  refine OD.go (B := (T22.setTop (mkF m 71 #[.val (.ref da), .val (.ref b2), .val (.ref b15), .val (.int 1), .val (.int 0), .val (.int 1), .val (.int 2)] [(.ref da)]))) (fun t k => XS.aloadN X22.here hx rfl (hb hby d1_70) rfl rfl k) ?_
  refine OD.go (B := (T22.setTop (mkF m 72 #[.val (.ref da), .val (.ref b2), .val (.ref b15), .val (.int 1), .val (.int 0), .val (.int 1), .val (.int 2)] [(.ref b2), (.ref da)]))) (fun t k => XS.aloadN X22.here hx rfl (hb hby d1_71) rfl rfl k) ?_
  refine OD.go (B := (T22.setTop (mkF m 73 #[.val (.ref da), .val (.ref b2), .val (.ref b15), .val (.int 1), .val (.int 0), .val (.int 1), .val (.int 2)] [(.ref b15), (.ref b2), (.ref da)]))) (fun t k => XS.aloadN X22.here hx rfl (hb hby d1_72) rfl rfl k) ?_
  refine OD.go (B := (T22.setTop (mkF m 75 #[.val (.ref da), .val (.ref b2), .val (.ref b15), .val (.int 1), .val (.int 0), .val (.int 1), .val (.int 2)] [(.int 0), (.ref b15), (.ref b2), (.ref da)]))) (fun t k => XS.iload X22.here hx rfl (hb hby d1_73) rfl k) ?_
  refine OD.go (B := (T22.setTop (mkF m 77 #[.val (.ref da), .val (.ref b2), .val (.ref b15), .val (.int 1), .val (.int 0), .val (.int 1), .val (.int 2)] [(.int 1), (.int 0), (.ref b15), (.ref b2), (.ref da)]))) (fun t k => XS.iload X22.here hx rfl (hb hby d1_75) rfl k) ?_
  refine OD.go (B := (T22.setTop (mkF m 79 #[.val (.ref da), .val (.ref b2), .val (.ref b15), .val (.int 1), .val (.int 0), .val (.int 1), .val (.int 2)] [(.int 2), (.int 1), (.int 0), (.ref b15), (.ref b2), (.ref da)]))) (fun t k => XS.iload X22.here hx rfl (hb hby d1_77) rfl k) ?_
  have Vf23 : Arv Z h15 b2 k2 .int 5 (own_rg (5 : Int32).toNatClampNeg (fun x => .int (own_id x))) (.int 0) := f16
  have Vf24 : Arv Z h15 b15 k15 .int 5 (own_rg (5 : Int32).toNatClampNeg (fun x => .int (own_zero x))) (.int 0) := V15
  have f25 := (((((((D1.ext E2).other W4 (Nat.ne_of_lt (Nat.lt_of_lt_of_le D1.lt (Nat.le_of_eq g2.symm)))).other W6 (Nat.ne_of_lt (Nat.lt_of_lt_of_le D1.lt (Nat.le_of_eq g2.symm)))).other W8 (Nat.ne_of_lt (Nat.lt_of_lt_of_le D1.lt (Nat.le_of_eq g2.symm)))).other W10 (Nat.ne_of_lt (Nat.lt_of_lt_of_le D1.lt (Nat.le_of_eq g2.symm)))).other W12 (Nat.ne_of_lt (Nat.lt_of_lt_of_le D1.lt (Nat.le_of_eq g2.symm)))).ext E15)
  obtain ⟨_, _, ⟨T26, L26, k26, n26⟩, -, X26, ⟨Lc26, hQ26, l26, y26, z26⟩, st26⟩ := Jvm.LawKit.callS X22 hx (y := (⟨"com/example/topside/topside/DescendingOrder", "merge", "([D[I[IIII)V"⟩ : MethodName)) hown (mvT hZ (Wd17 hw)) (mvT hZ (Wd18 hw)) (mvT hZ (Wd3 hw)) (mvT hZ (Wd19 hw)) (by decide) (backOf (W := 0) (rmM l Z a0 hw [] da b2 b15 (0 : Int32) (1 : Int32) (2 : Int32) h15 n0 (Nat.le_trans (Nat.le_trans (Nat.le_trans (Nat.le_trans (Nat.le_trans (Nat.le_trans (Nat.le_trans Z0 E2.1) (Keep.of_wr W4).1) (Keep.of_wr W6).1) (Keep.of_wr W8).1) (Keep.of_wr W10).1) (Keep.of_wr W12).1) E15.1) k0 k2 k15 (5 : Int32) sv own_id own_zero f25 Vf23 Vf24 (Nat.ne_of_lt (Nat.lt_of_lt_of_le (Nat.lt_of_lt_of_le (Nat.lt_of_lt_of_le (Nat.lt_of_lt_of_le (Nat.lt_of_lt_of_le (Nat.lt_of_lt_of_le (Nat.lt_of_lt_of_le D1.lt E2.1) (Keep.of_wr W4).1) (Keep.of_wr W6).1) (Keep.of_wr W8).1) (Keep.of_wr W10).1) (Keep.of_wr W12).1) (Nat.le_of_eq g15.symm))) (Nat.ne_of_lt (Nat.lt_of_lt_of_le (Nat.lt_of_lt_of_le (Nat.lt_of_lt_of_le (Nat.lt_of_lt_of_le (Nat.lt_of_lt_of_le (Nat.lt_of_lt_of_le V2.lt (Keep.of_wr W4).1) (Keep.of_wr W6).1) (Keep.of_wr W8).1) (Keep.of_wr W10).1) (Keep.of_wr W12).1) (Nat.le_of_eq g15.symm))) (Nat.le_trans (Nat.le_trans (Nat.le_trans (Nat.le_trans (Nat.le_trans (Nat.le_trans (Nat.le_trans Z0 E2.1) (Keep.of_wr W4).1) (Keep.of_wr W6).1) (Keep.of_wr W8).1) (Keep.of_wr W10).1) (Keep.of_wr W12).1) (Nat.le_of_eq g15.symm)) (by decide) (by decide) (by decide) (by decide) (own_idB _)) hZ (Wd19 hw) (Wd3 hw) (by decide) (by decide)) (g := (mkF m 79 #[.val (.ref da), .val (.ref b2), .val (.ref b15), .val (.int 1), .val (.int 0), .val (.int 1), .val (.int 2)] [(.int 2), (.int 1), (.int 0), (.ref b15), (.ref b2), (.ref da)])) rfl (by rw [hml]; rfl) (argsL := [(.ref da), (.ref b2), (.ref b15), (.int 0), (.int 1), (.int 2)]) (rest := []) (lenOf pd1 rfl) rfl (by show 2 * 0 + _ ≤ _; exact Nat.le_of_eq rfl) (hb hby d1_79) (fun _ _ => ⟨rfl, e22, (Nat.le_of_ble_eq_true rfl), (Nat.le_of_ble_eq_true rfl)⟩)
  dsimp only [Pt.U, Pt.locs, Pt.cells, Pt.slots] at X26 l26 y26 z26 st26 hQ26
  subst l26 y26 z26
  obtain ⟨rfl, Nq26, K26, A26⟩ := hQ26
  have N26 := Fr.app N12 Nq26
  have B26 : Arv Z T26.heap b15 k15 .int 5 (own_rg (5 : Int32).toNatClampNeg (fun x => .int ((own_m5_0 sv) x))) (.int 0) := A26
  refine OD.go (B := (T26.setTop (mkF m 82 #[.val (.ref da), .val (.ref b2), .val (.ref b15), .val (.int 1), .val (.int 0), .val (.int 1), .val (.int 2)] []))) st26 ?_
  refine OD.go (B := (T26.setTop (mkF m 84 #[.val (.ref da), .val (.ref b2), .val (.ref b15), .val (.int 1), .val (.int 0), .val (.int 1), .val (.int 2)] [(.int 0)]))) (fun t k => XS.iload X26.here hx rfl (hb hby d1_82) rfl k) ?_
  refine OD.go (B := (T26.setTop (mkF m 85 #[.val (.ref da), .val (.ref b2), .val (.ref b15), .val (.int 1), .val (.int 0), .val (.int 1), .val (.int 2)] [(.int 2), (.int 0)]))) (fun t k => XS.iconst X26.here hx rfl (hb hby d1_84) k) ?_
  refine OD.go (B := (T26.setTop (mkF m 86 #[.val (.ref da), .val (.ref b2), .val (.ref b15), .val (.int 1), .val (.int 0), .val (.int 1), .val (.int 2)] [(.int 1), (.int 2), (.int 0)]))) (fun t k => XS.iloadN X26.here hx rfl (hb hby d1_85) rfl k) ?_
  refine OD.go (B := (T26.setTop (mkF m 87 #[.val (.ref da), .val (.ref b2), .val (.ref b15), .val (.int 1), .val (.int 0), .val (.int 1), .val (.int 2)] [(.int 2), (.int 0)]))) (fun t k => XS.imul X26.here hx rfl (hb hby d1_86) rfl k) ?_
  refine OD.go (B := (T26.setTop (mkF m 88 #[.val (.ref da), .val (.ref b2), .val (.ref b15), .val (.int 1), .val (.int 0), .val (.int 1), .val (.int 2)] [(.int 2)]))) (fun t k => XS.iadd X26.here hx rfl (hb hby d1_87) rfl k) ?_
  refine OD.go (B := (T26.setTop (mkF m 90 #[.val (.ref da), .val (.ref b2), .val (.ref b15), .val (.int 1), .val (.int 2), .val (.int 1), .val (.int 2)] []))) (fun t k => XS.istore X26.here hx rfl (hb hby d1_88) rfl (l' := #[.val (.ref da), .val (.ref b2), .val (.ref b15), .val (.int 1), .val (.int 2), .val (.int 1), .val (.int 2)]) rfl k) ?_
  refine OD.go (B := (T26.setTop (mkF m 39 #[.val (.ref da), .val (.ref b2), .val (.ref b15), .val (.int 1), .val (.int 2), .val (.int 1), .val (.int 2)] []))) (fun t k => XS.goto X26.here hx rfl (pc0 := 90) (pc' := 39) rfl (hb hby d1_90) (by decide) (by decide) k) ?_
  refine OD.go (B := (T26.setTop (mkF m 41 #[.val (.ref da), .val (.ref b2), .val (.ref b15), .val (.int 1), .val (.int 2), .val (.int 1), .val (.int 2)] [(.int 2)]))) (fun t k => XS.iload X26.here hx rfl (hb hby d1_39) rfl k) ?_
  refine OD.go (B := (T26.setTop (mkF m 42 #[.val (.ref da), .val (.ref b2), .val (.ref b15), .val (.int 1), .val (.int 2), .val (.int 1), .val (.int 2)] [(.ref b2), (.int 2)]))) (fun t k => XS.aloadN X26.here hx rfl (hb hby d1_41) rfl rfl k) ?_
  have f27 := (Vf23.keep K26 (ninS (Nat.ne_of_lt (Nat.lt_of_lt_of_le (Nat.lt_of_lt_of_le (Nat.lt_of_lt_of_le (Nat.lt_of_lt_of_le (Nat.lt_of_lt_of_le (Nat.lt_of_lt_of_le V2.lt (Keep.of_wr W4).1) (Keep.of_wr W6).1) (Keep.of_wr W8).1) (Keep.of_wr W10).1) (Keep.of_wr W12).1) (Nat.le_of_eq g15.symm))) nin0))
  obtain ⟨cl28, Ar28, hl28⟩ := own_len f27
  refine OD.go (B := (T26.setTop (mkF m 43 #[.val (.ref da), .val (.ref b2), .val (.ref b15), .val (.int 1), .val (.int 2), .val (.int 1), .val (.int 2)] [(.int 5), (.int 2)]))) (fun t k => X26.arraylength hx (by exact Ar28.1) (State.isArrayOf_alike hZ.alike Ar28.2.1) (g := (mkF m 42 #[.val (.ref da), .val (.ref b2), .val (.ref b15), .val (.int 1), .val (.int 2), .val (.int 1), .val (.int 2)] [(.ref b2), (.int 2)])) rfl rfl (hb hby d1_42) _ (by rw [hl28]; exact k)) ?_
  refine OD.go (B := (T26.setTop (mkF m 46 #[.val (.ref da), .val (.ref b2), .val (.ref b15), .val (.int 1), .val (.int 2), .val (.int 1), .val (.int 2)] []))) (fun t k => XS.icmpNo X26.here hx rfl (hb hby d1_43) rfl (tlt (by decide : (2 : Int32) < (5 : Int32))).2.1 k) ?_
  refine OD.go (B := (T26.setTop (mkF m 48 #[.val (.ref da), .val (.ref b2), .val (.ref b15), .val (.int 1), .val (.int 2), .val (.int 1), .val (.int 2)] [(.int 2)]))) (fun t k => XS.iload X26.here hx rfl (hb hby d1_46) rfl k) ?_
  refine OD.go (B := (T26.setTop (mkF m 49 #[.val (.ref da), .val (.ref b2), .val (.ref b15), .val (.int 1), .val (.int 2), .val (.int 1), .val (.int 2)] [(.int 1), (.int 2)]))) (fun t k => XS.iloadN X26.here hx rfl (hb hby d1_48) rfl k) ?_
  refine OD.go (B := (T26.setTop (mkF m 50 #[.val (.ref da), .val (.ref b2), .val (.ref b15), .val (.int 1), .val (.int 2), .val (.int 1), .val (.int 2)] [(.int 3)]))) (fun t k => XS.iadd X26.here hx rfl (hb hby d1_49) rfl k) ?_
  refine OD.go (B := (T26.setTop (mkF m 51 #[.val (.ref da), .val (.ref b2), .val (.ref b15), .val (.int 1), .val (.int 2), .val (.int 1), .val (.int 2)] [(.ref b2), (.int 3)]))) (fun t k => XS.aloadN X26.here hx rfl (hb hby d1_50) rfl rfl k) ?_
  obtain ⟨cl29, Ar29, hl29⟩ := own_len f27
  refine OD.go (B := (T26.setTop (mkF m 52 #[.val (.ref da), .val (.ref b2), .val (.ref b15), .val (.int 1), .val (.int 2), .val (.int 1), .val (.int 2)] [(.int 5), (.int 3)]))) (fun t k => X26.arraylength hx (by exact Ar29.1) (State.isArrayOf_alike hZ.alike Ar29.2.1) (g := (mkF m 51 #[.val (.ref da), .val (.ref b2), .val (.ref b15), .val (.int 1), .val (.int 2), .val (.int 1), .val (.int 2)] [(.ref b2), (.int 3)])) rfl rfl (hb hby d1_51) _ (by rw [hl29]; exact k)) ?_
  obtain ⟨_, _, ⟨T30, L30, k30, n30⟩, -, X30, ⟨Lc30, hQ30, l30, y30, z30⟩, st30⟩ := Jvm.LawKit.callS X26 hx (y := (⟨"java/lang/Math", "min", "(II)I"⟩ : MethodName)) hown (mvT hZ (Wd13 hw)) (mvT hZ (Wd14 hw)) (mvT hZ (Wd15 hw)) (mvT hZ (Wd16 hw)) (by decide) (backOf (W := 0) (rmMn3_5 l Z a0 hw [] T26.heap) hZ (Wd16 hw) (Wd15 hw) (by decide) (by decide)) (g := (mkF m 52 #[.val (.ref da), .val (.ref b2), .val (.ref b15), .val (.int 1), .val (.int 2), .val (.int 1), .val (.int 2)] [(.int 5), (.int 3)])) rfl (by rw [hml]; rfl) (argsL := [(.int 3), (.int 5)]) (rest := []) (lenOf pd0 rfl) rfl (by show 2 * 0 + _ ≤ _; exact Nat.le_of_eq rfl) (hb hby d1_52) (fun _ _ => ⟨rfl, rfl, (Nat.le_of_ble_eq_true rfl), (Nat.le_of_ble_eq_true rfl)⟩)
  dsimp only [Pt.U, Pt.locs, Pt.cells, Pt.slots] at X30 l30 y30 z30 st30 hQ30
  subst l30 y30 z30
  obtain ⟨rfl, rfl, e30⟩ := hQ30
  try rw [List.append_nil] at X30
  refine OD.go (B := (T30.setTop (mkF m 55 #[.val (.ref da), .val (.ref b2), .val (.ref b15), .val (.int 1), .val (.int 2), .val (.int 1), .val (.int 2)] [(.int 3)]))) st30 ?_
  refine OD.go (B := (T30.setTop (mkF m 57 #[.val (.ref da), .val (.ref b2), .val (.ref b15), .val (.int 1), .val (.int 2), .val (.int 3), .val (.int 2)] []))) (fun t k => XS.istore X30.here hx rfl (hb hby d1_55) rfl (l' := #[.val (.ref da), .val (.ref b2), .val (.ref b15), .val (.int 1), .val (.int 2), .val (.int 3), .val (.int 2)]) rfl k) ?_
  refine OD.go (B := (T30.setTop (mkF m 59 #[.val (.ref da), .val (.ref b2), .val (.ref b15), .val (.int 1), .val (.int 2), .val (.int 3), .val (.int 2)] [(.int 2)]))) (fun t k => XS.iload X30.here hx rfl (hb hby d1_57) rfl k) ?_
  refine OD.go (B := (T30.setTop (mkF m 60 #[.val (.ref da), .val (.ref b2), .val (.ref b15), .val (.int 1), .val (.int 2), .val (.int 3), .val (.int 2)] [(.int 2), (.int 2)]))) (fun t k => XS.iconst X30.here hx rfl (hb hby d1_59) k) ?_
  refine OD.go (B := (T30.setTop (mkF m 61 #[.val (.ref da), .val (.ref b2), .val (.ref b15), .val (.int 1), .val (.int 2), .val (.int 3), .val (.int 2)] [(.int 1), (.int 2), (.int 2)]))) (fun t k => XS.iloadN X30.here hx rfl (hb hby d1_60) rfl k) ?_
  refine OD.go (B := (T30.setTop (mkF m 62 #[.val (.ref da), .val (.ref b2), .val (.ref b15), .val (.int 1), .val (.int 2), .val (.int 3), .val (.int 2)] [(.int 2), (.int 2)]))) (fun t k => XS.imul X30.here hx rfl (hb hby d1_61) rfl k) ?_
  refine OD.go (B := (T30.setTop (mkF m 63 #[.val (.ref da), .val (.ref b2), .val (.ref b15), .val (.int 1), .val (.int 2), .val (.int 3), .val (.int 2)] [(.int 4)]))) (fun t k => XS.iadd X30.here hx rfl (hb hby d1_62) rfl k) ?_
  refine OD.go (B := (T30.setTop (mkF m 64 #[.val (.ref da), .val (.ref b2), .val (.ref b15), .val (.int 1), .val (.int 2), .val (.int 3), .val (.int 2)] [(.ref b2), (.int 4)]))) (fun t k => XS.aloadN X30.here hx rfl (hb hby d1_63) rfl rfl k) ?_
  obtain ⟨cl31, Ar31, hl31⟩ := own_len f27
  refine OD.go (B := (T30.setTop (mkF m 65 #[.val (.ref da), .val (.ref b2), .val (.ref b15), .val (.int 1), .val (.int 2), .val (.int 3), .val (.int 2)] [(.int 5), (.int 4)]))) (fun t k => X30.arraylength hx (by rw [e30]; exact Ar31.1) (State.isArrayOf_alike hZ.alike Ar31.2.1) (g := (mkF m 64 #[.val (.ref da), .val (.ref b2), .val (.ref b15), .val (.int 1), .val (.int 2), .val (.int 3), .val (.int 2)] [(.ref b2), (.int 4)])) rfl rfl (hb hby d1_64) _ (by rw [hl31]; exact k)) ?_
  obtain ⟨_, _, ⟨T32, L32, k32, n32⟩, -, X32, ⟨Lc32, hQ32, l32, y32, z32⟩, st32⟩ := Jvm.LawKit.callS X30 hx (y := (⟨"java/lang/Math", "min", "(II)I"⟩ : MethodName)) hown (mvT hZ (Wd13 hw)) (mvT hZ (Wd14 hw)) (mvT hZ (Wd15 hw)) (mvT hZ (Wd16 hw)) (by decide) (backOf (W := 0) (rmMn4_5 l Z a0 hw [] T26.heap) hZ (Wd16 hw) (Wd15 hw) (by decide) (by decide)) (g := (mkF m 65 #[.val (.ref da), .val (.ref b2), .val (.ref b15), .val (.int 1), .val (.int 2), .val (.int 3), .val (.int 2)] [(.int 5), (.int 4)])) rfl (by rw [hml]; rfl) (argsL := [(.int 4), (.int 5)]) (rest := []) (lenOf pd0 rfl) rfl (by show 2 * 0 + _ ≤ _; exact Nat.le_of_eq rfl) (hb hby d1_65) (fun _ _ => ⟨rfl, e30, (Nat.le_of_ble_eq_true rfl), (Nat.le_of_ble_eq_true rfl)⟩)
  dsimp only [Pt.U, Pt.locs, Pt.cells, Pt.slots] at X32 l32 y32 z32 st32 hQ32
  subst l32 y32 z32
  obtain ⟨rfl, rfl, e32⟩ := hQ32
  try rw [List.append_nil] at X32
  refine OD.go (B := (T32.setTop (mkF m 68 #[.val (.ref da), .val (.ref b2), .val (.ref b15), .val (.int 1), .val (.int 2), .val (.int 3), .val (.int 2)] [(.int 4)]))) st32 ?_
  refine OD.go (B := (T32.setTop (mkF m 70 #[.val (.ref da), .val (.ref b2), .val (.ref b15), .val (.int 1), .val (.int 2), .val (.int 3), .val (.int 4)] []))) (fun t k => XS.istore X32.here hx rfl (hb hby d1_68) rfl (l' := #[.val (.ref da), .val (.ref b2), .val (.ref b15), .val (.int 1), .val (.int 2), .val (.int 3), .val (.int 4)]) rfl k) ?_
  refine OD.go (B := (T32.setTop (mkF m 71 #[.val (.ref da), .val (.ref b2), .val (.ref b15), .val (.int 1), .val (.int 2), .val (.int 3), .val (.int 4)] [(.ref da)]))) (fun t k => XS.aloadN X32.here hx rfl (hb hby d1_70) rfl rfl k) ?_
  refine OD.go (B := (T32.setTop (mkF m 72 #[.val (.ref da), .val (.ref b2), .val (.ref b15), .val (.int 1), .val (.int 2), .val (.int 3), .val (.int 4)] [(.ref b2), (.ref da)]))) (fun t k => XS.aloadN X32.here hx rfl (hb hby d1_71) rfl rfl k) ?_
  refine OD.go (B := (T32.setTop (mkF m 73 #[.val (.ref da), .val (.ref b2), .val (.ref b15), .val (.int 1), .val (.int 2), .val (.int 3), .val (.int 4)] [(.ref b15), (.ref b2), (.ref da)]))) (fun t k => XS.aloadN X32.here hx rfl (hb hby d1_72) rfl rfl k) ?_
  refine OD.go (B := (T32.setTop (mkF m 75 #[.val (.ref da), .val (.ref b2), .val (.ref b15), .val (.int 1), .val (.int 2), .val (.int 3), .val (.int 4)] [(.int 2), (.ref b15), (.ref b2), (.ref da)]))) (fun t k => XS.iload X32.here hx rfl (hb hby d1_73) rfl k) ?_
  refine OD.go (B := (T32.setTop (mkF m 77 #[.val (.ref da), .val (.ref b2), .val (.ref b15), .val (.int 1), .val (.int 2), .val (.int 3), .val (.int 4)] [(.int 3), (.int 2), (.ref b15), (.ref b2), (.ref da)]))) (fun t k => XS.iload X32.here hx rfl (hb hby d1_75) rfl k) ?_
  refine OD.go (B := (T32.setTop (mkF m 79 #[.val (.ref da), .val (.ref b2), .val (.ref b15), .val (.int 1), .val (.int 2), .val (.int 3), .val (.int 4)] [(.int 4), (.int 3), (.int 2), (.ref b15), (.ref b2), (.ref da)]))) (fun t k => XS.iload X32.here hx rfl (hb hby d1_77) rfl k) ?_
  have f33 := (f25.keep K26 (ninS (Nat.ne_of_lt (Nat.lt_of_lt_of_le (Nat.lt_of_lt_of_le (Nat.lt_of_lt_of_le (Nat.lt_of_lt_of_le (Nat.lt_of_lt_of_le (Nat.lt_of_lt_of_le (Nat.lt_of_lt_of_le D1.lt E2.1) (Keep.of_wr W4).1) (Keep.of_wr W6).1) (Keep.of_wr W8).1) (Keep.of_wr W10).1) (Keep.of_wr W12).1) (Nat.le_of_eq g15.symm))) nin0))
  obtain ⟨_, _, ⟨T34, L34, k34, n34⟩, -, X34, ⟨Lc34, hQ34, l34, y34, z34⟩, st34⟩ := Jvm.LawKit.callS X32 hx (y := (⟨"com/example/topside/topside/DescendingOrder", "merge", "([D[I[IIII)V"⟩ : MethodName)) hown (mvT hZ (Wd17 hw)) (mvT hZ (Wd18 hw)) (mvT hZ (Wd3 hw)) (mvT hZ (Wd19 hw)) (by decide) (backOf (W := 0) (rmM l Z a0 hw [] da b2 b15 (2 : Int32) (3 : Int32) (4 : Int32) T26.heap n0 (Nat.le_trans (Nat.le_trans (Nat.le_trans (Nat.le_trans (Nat.le_trans (Nat.le_trans (Nat.le_trans (Nat.le_trans Z0 E2.1) (Keep.of_wr W4).1) (Keep.of_wr W6).1) (Keep.of_wr W8).1) (Keep.of_wr W10).1) (Keep.of_wr W12).1) E15.1) K26.1) k0 k2 k15 (5 : Int32) sv own_id (own_m5_0 sv) f33 f27 B26 (Nat.ne_of_lt (Nat.lt_of_lt_of_le (Nat.lt_of_lt_of_le (Nat.lt_of_lt_of_le (Nat.lt_of_lt_of_le (Nat.lt_of_lt_of_le (Nat.lt_of_lt_of_le (Nat.lt_of_lt_of_le D1.lt E2.1) (Keep.of_wr W4).1) (Keep.of_wr W6).1) (Keep.of_wr W8).1) (Keep.of_wr W10).1) (Keep.of_wr W12).1) (Nat.le_of_eq g15.symm))) (Nat.ne_of_lt (Nat.lt_of_lt_of_le (Nat.lt_of_lt_of_le (Nat.lt_of_lt_of_le (Nat.lt_of_lt_of_le (Nat.lt_of_lt_of_le (Nat.lt_of_lt_of_le V2.lt (Keep.of_wr W4).1) (Keep.of_wr W6).1) (Keep.of_wr W8).1) (Keep.of_wr W10).1) (Keep.of_wr W12).1) (Nat.le_of_eq g15.symm))) (Nat.le_trans (Nat.le_trans (Nat.le_trans (Nat.le_trans (Nat.le_trans (Nat.le_trans (Nat.le_trans Z0 E2.1) (Keep.of_wr W4).1) (Keep.of_wr W6).1) (Keep.of_wr W8).1) (Keep.of_wr W10).1) (Keep.of_wr W12).1) (Nat.le_of_eq g15.symm)) (by decide) (by decide) (by decide) (by decide) (own_idB _)) hZ (Wd19 hw) (Wd3 hw) (by decide) (by decide)) (g := (mkF m 79 #[.val (.ref da), .val (.ref b2), .val (.ref b15), .val (.int 1), .val (.int 2), .val (.int 3), .val (.int 4)] [(.int 4), (.int 3), (.int 2), (.ref b15), (.ref b2), (.ref da)])) rfl (by rw [hml]; rfl) (argsL := [(.ref da), (.ref b2), (.ref b15), (.int 2), (.int 3), (.int 4)]) (rest := []) (lenOf pd1 rfl) rfl (by show 2 * 0 + _ ≤ _; exact Nat.le_of_eq rfl) (hb hby d1_79) (fun _ _ => ⟨rfl, e32, (Nat.le_of_ble_eq_true rfl), (Nat.le_of_ble_eq_true rfl)⟩)
  dsimp only [Pt.U, Pt.locs, Pt.cells, Pt.slots] at X34 l34 y34 z34 st34 hQ34
  subst l34 y34 z34
  obtain ⟨rfl, Nq34, K34, A34⟩ := hQ34
  have N34 := Fr.app N26 Nq34
  have B34 : Arv Z T34.heap b15 k15 .int 5 (own_rg (5 : Int32).toNatClampNeg (fun x => .int ((own_m5_1 sv) x))) (.int 0) := A34
  refine OD.go (B := (T34.setTop (mkF m 82 #[.val (.ref da), .val (.ref b2), .val (.ref b15), .val (.int 1), .val (.int 2), .val (.int 3), .val (.int 4)] []))) st34 ?_
  refine OD.go (B := (T34.setTop (mkF m 84 #[.val (.ref da), .val (.ref b2), .val (.ref b15), .val (.int 1), .val (.int 2), .val (.int 3), .val (.int 4)] [(.int 2)]))) (fun t k => XS.iload X34.here hx rfl (hb hby d1_82) rfl k) ?_
  refine OD.go (B := (T34.setTop (mkF m 85 #[.val (.ref da), .val (.ref b2), .val (.ref b15), .val (.int 1), .val (.int 2), .val (.int 3), .val (.int 4)] [(.int 2), (.int 2)]))) (fun t k => XS.iconst X34.here hx rfl (hb hby d1_84) k) ?_
  refine OD.go (B := (T34.setTop (mkF m 86 #[.val (.ref da), .val (.ref b2), .val (.ref b15), .val (.int 1), .val (.int 2), .val (.int 3), .val (.int 4)] [(.int 1), (.int 2), (.int 2)]))) (fun t k => XS.iloadN X34.here hx rfl (hb hby d1_85) rfl k) ?_
  refine OD.go (B := (T34.setTop (mkF m 87 #[.val (.ref da), .val (.ref b2), .val (.ref b15), .val (.int 1), .val (.int 2), .val (.int 3), .val (.int 4)] [(.int 2), (.int 2)]))) (fun t k => XS.imul X34.here hx rfl (hb hby d1_86) rfl k) ?_
  refine OD.go (B := (T34.setTop (mkF m 88 #[.val (.ref da), .val (.ref b2), .val (.ref b15), .val (.int 1), .val (.int 2), .val (.int 3), .val (.int 4)] [(.int 4)]))) (fun t k => XS.iadd X34.here hx rfl (hb hby d1_87) rfl k) ?_
  refine OD.go (B := (T34.setTop (mkF m 90 #[.val (.ref da), .val (.ref b2), .val (.ref b15), .val (.int 1), .val (.int 4), .val (.int 3), .val (.int 4)] []))) (fun t k => XS.istore X34.here hx rfl (hb hby d1_88) rfl (l' := #[.val (.ref da), .val (.ref b2), .val (.ref b15), .val (.int 1), .val (.int 4), .val (.int 3), .val (.int 4)]) rfl k) ?_
  refine OD.go (B := (T34.setTop (mkF m 39 #[.val (.ref da), .val (.ref b2), .val (.ref b15), .val (.int 1), .val (.int 4), .val (.int 3), .val (.int 4)] []))) (fun t k => XS.goto X34.here hx rfl (pc0 := 90) (pc' := 39) rfl (hb hby d1_90) (by decide) (by decide) k) ?_
  refine OD.go (B := (T34.setTop (mkF m 41 #[.val (.ref da), .val (.ref b2), .val (.ref b15), .val (.int 1), .val (.int 4), .val (.int 3), .val (.int 4)] [(.int 4)]))) (fun t k => XS.iload X34.here hx rfl (hb hby d1_39) rfl k) ?_
  refine OD.go (B := (T34.setTop (mkF m 42 #[.val (.ref da), .val (.ref b2), .val (.ref b15), .val (.int 1), .val (.int 4), .val (.int 3), .val (.int 4)] [(.ref b2), (.int 4)]))) (fun t k => XS.aloadN X34.here hx rfl (hb hby d1_41) rfl rfl k) ?_
  have f35 := (f27.keep K34 (ninS (Nat.ne_of_lt (Nat.lt_of_lt_of_le (Nat.lt_of_lt_of_le (Nat.lt_of_lt_of_le (Nat.lt_of_lt_of_le (Nat.lt_of_lt_of_le (Nat.lt_of_lt_of_le V2.lt (Keep.of_wr W4).1) (Keep.of_wr W6).1) (Keep.of_wr W8).1) (Keep.of_wr W10).1) (Keep.of_wr W12).1) (Nat.le_of_eq g15.symm))) nin0))
  obtain ⟨cl36, Ar36, hl36⟩ := own_len f35
  refine OD.go (B := (T34.setTop (mkF m 43 #[.val (.ref da), .val (.ref b2), .val (.ref b15), .val (.int 1), .val (.int 4), .val (.int 3), .val (.int 4)] [(.int 5), (.int 4)]))) (fun t k => X34.arraylength hx (by exact Ar36.1) (State.isArrayOf_alike hZ.alike Ar36.2.1) (g := (mkF m 42 #[.val (.ref da), .val (.ref b2), .val (.ref b15), .val (.int 1), .val (.int 4), .val (.int 3), .val (.int 4)] [(.ref b2), (.int 4)])) rfl rfl (hb hby d1_42) _ (by rw [hl36]; exact k)) ?_
  refine OD.go (B := (T34.setTop (mkF m 46 #[.val (.ref da), .val (.ref b2), .val (.ref b15), .val (.int 1), .val (.int 4), .val (.int 3), .val (.int 4)] []))) (fun t k => XS.icmpNo X34.here hx rfl (hb hby d1_43) rfl (tlt (by decide : (4 : Int32) < (5 : Int32))).2.1 k) ?_
  refine OD.go (B := (T34.setTop (mkF m 48 #[.val (.ref da), .val (.ref b2), .val (.ref b15), .val (.int 1), .val (.int 4), .val (.int 3), .val (.int 4)] [(.int 4)]))) (fun t k => XS.iload X34.here hx rfl (hb hby d1_46) rfl k) ?_
  refine OD.go (B := (T34.setTop (mkF m 49 #[.val (.ref da), .val (.ref b2), .val (.ref b15), .val (.int 1), .val (.int 4), .val (.int 3), .val (.int 4)] [(.int 1), (.int 4)]))) (fun t k => XS.iloadN X34.here hx rfl (hb hby d1_48) rfl k) ?_
  refine OD.go (B := (T34.setTop (mkF m 50 #[.val (.ref da), .val (.ref b2), .val (.ref b15), .val (.int 1), .val (.int 4), .val (.int 3), .val (.int 4)] [(.int 5)]))) (fun t k => XS.iadd X34.here hx rfl (hb hby d1_49) rfl k) ?_
  refine OD.go (B := (T34.setTop (mkF m 51 #[.val (.ref da), .val (.ref b2), .val (.ref b15), .val (.int 1), .val (.int 4), .val (.int 3), .val (.int 4)] [(.ref b2), (.int 5)]))) (fun t k => XS.aloadN X34.here hx rfl (hb hby d1_50) rfl rfl k) ?_
  obtain ⟨cl37, Ar37, hl37⟩ := own_len f35
  refine OD.go (B := (T34.setTop (mkF m 52 #[.val (.ref da), .val (.ref b2), .val (.ref b15), .val (.int 1), .val (.int 4), .val (.int 3), .val (.int 4)] [(.int 5), (.int 5)]))) (fun t k => X34.arraylength hx (by exact Ar37.1) (State.isArrayOf_alike hZ.alike Ar37.2.1) (g := (mkF m 51 #[.val (.ref da), .val (.ref b2), .val (.ref b15), .val (.int 1), .val (.int 4), .val (.int 3), .val (.int 4)] [(.ref b2), (.int 5)])) rfl rfl (hb hby d1_51) _ (by rw [hl37]; exact k)) ?_
  obtain ⟨_, _, ⟨T38, L38, k38, n38⟩, -, X38, ⟨Lc38, hQ38, l38, y38, z38⟩, st38⟩ := Jvm.LawKit.callS X34 hx (y := (⟨"java/lang/Math", "min", "(II)I"⟩ : MethodName)) hown (mvT hZ (Wd13 hw)) (mvT hZ (Wd14 hw)) (mvT hZ (Wd15 hw)) (mvT hZ (Wd16 hw)) (by decide) (backOf (W := 0) (rmMn5_5 l Z a0 hw [] T34.heap) hZ (Wd16 hw) (Wd15 hw) (by decide) (by decide)) (g := (mkF m 52 #[.val (.ref da), .val (.ref b2), .val (.ref b15), .val (.int 1), .val (.int 4), .val (.int 3), .val (.int 4)] [(.int 5), (.int 5)])) rfl (by rw [hml]; rfl) (argsL := [(.int 5), (.int 5)]) (rest := []) (lenOf pd0 rfl) rfl (by show 2 * 0 + _ ≤ _; exact Nat.le_of_eq rfl) (hb hby d1_52) (fun _ _ => ⟨rfl, rfl, (Nat.le_of_ble_eq_true rfl), (Nat.le_of_ble_eq_true rfl)⟩)
  dsimp only [Pt.U, Pt.locs, Pt.cells, Pt.slots] at X38 l38 y38 z38 st38 hQ38
  subst l38 y38 z38
  obtain ⟨rfl, rfl, e38⟩ := hQ38
  try rw [List.append_nil] at X38
  refine OD.go (B := (T38.setTop (mkF m 55 #[.val (.ref da), .val (.ref b2), .val (.ref b15), .val (.int 1), .val (.int 4), .val (.int 3), .val (.int 4)] [(.int 5)]))) st38 ?_
  refine OD.go (B := (T38.setTop (mkF m 57 #[.val (.ref da), .val (.ref b2), .val (.ref b15), .val (.int 1), .val (.int 4), .val (.int 5), .val (.int 4)] []))) (fun t k => XS.istore X38.here hx rfl (hb hby d1_55) rfl (l' := #[.val (.ref da), .val (.ref b2), .val (.ref b15), .val (.int 1), .val (.int 4), .val (.int 5), .val (.int 4)]) rfl k) ?_
  refine OD.go (B := (T38.setTop (mkF m 59 #[.val (.ref da), .val (.ref b2), .val (.ref b15), .val (.int 1), .val (.int 4), .val (.int 5), .val (.int 4)] [(.int 4)]))) (fun t k => XS.iload X38.here hx rfl (hb hby d1_57) rfl k) ?_
  refine OD.go (B := (T38.setTop (mkF m 60 #[.val (.ref da), .val (.ref b2), .val (.ref b15), .val (.int 1), .val (.int 4), .val (.int 5), .val (.int 4)] [(.int 2), (.int 4)]))) (fun t k => XS.iconst X38.here hx rfl (hb hby d1_59) k) ?_
  refine OD.go (B := (T38.setTop (mkF m 61 #[.val (.ref da), .val (.ref b2), .val (.ref b15), .val (.int 1), .val (.int 4), .val (.int 5), .val (.int 4)] [(.int 1), (.int 2), (.int 4)]))) (fun t k => XS.iloadN X38.here hx rfl (hb hby d1_60) rfl k) ?_
  refine OD.go (B := (T38.setTop (mkF m 62 #[.val (.ref da), .val (.ref b2), .val (.ref b15), .val (.int 1), .val (.int 4), .val (.int 5), .val (.int 4)] [(.int 2), (.int 4)]))) (fun t k => XS.imul X38.here hx rfl (hb hby d1_61) rfl k) ?_
  refine OD.go (B := (T38.setTop (mkF m 63 #[.val (.ref da), .val (.ref b2), .val (.ref b15), .val (.int 1), .val (.int 4), .val (.int 5), .val (.int 4)] [(.int 6)]))) (fun t k => XS.iadd X38.here hx rfl (hb hby d1_62) rfl k) ?_
  refine OD.go (B := (T38.setTop (mkF m 64 #[.val (.ref da), .val (.ref b2), .val (.ref b15), .val (.int 1), .val (.int 4), .val (.int 5), .val (.int 4)] [(.ref b2), (.int 6)]))) (fun t k => XS.aloadN X38.here hx rfl (hb hby d1_63) rfl rfl k) ?_
  obtain ⟨cl39, Ar39, hl39⟩ := own_len f35
  refine OD.go (B := (T38.setTop (mkF m 65 #[.val (.ref da), .val (.ref b2), .val (.ref b15), .val (.int 1), .val (.int 4), .val (.int 5), .val (.int 4)] [(.int 5), (.int 6)]))) (fun t k => X38.arraylength hx (by rw [e38]; exact Ar39.1) (State.isArrayOf_alike hZ.alike Ar39.2.1) (g := (mkF m 64 #[.val (.ref da), .val (.ref b2), .val (.ref b15), .val (.int 1), .val (.int 4), .val (.int 5), .val (.int 4)] [(.ref b2), (.int 6)])) rfl rfl (hb hby d1_64) _ (by rw [hl39]; exact k)) ?_
  obtain ⟨_, _, ⟨T40, L40, k40, n40⟩, -, X40, ⟨Lc40, hQ40, l40, y40, z40⟩, st40⟩ := Jvm.LawKit.callS X38 hx (y := (⟨"java/lang/Math", "min", "(II)I"⟩ : MethodName)) hown (mvT hZ (Wd13 hw)) (mvT hZ (Wd14 hw)) (mvT hZ (Wd15 hw)) (mvT hZ (Wd16 hw)) (by decide) (backOf (W := 0) (rmMn6_5 l Z a0 hw [] T34.heap) hZ (Wd16 hw) (Wd15 hw) (by decide) (by decide)) (g := (mkF m 65 #[.val (.ref da), .val (.ref b2), .val (.ref b15), .val (.int 1), .val (.int 4), .val (.int 5), .val (.int 4)] [(.int 5), (.int 6)])) rfl (by rw [hml]; rfl) (argsL := [(.int 6), (.int 5)]) (rest := []) (lenOf pd0 rfl) rfl (by show 2 * 0 + _ ≤ _; exact Nat.le_of_eq rfl) (hb hby d1_65) (fun _ _ => ⟨rfl, e38, (Nat.le_of_ble_eq_true rfl), (Nat.le_of_ble_eq_true rfl)⟩)
  dsimp only [Pt.U, Pt.locs, Pt.cells, Pt.slots] at X40 l40 y40 z40 st40 hQ40
  subst l40 y40 z40
  obtain ⟨rfl, rfl, e40⟩ := hQ40
  try rw [List.append_nil] at X40
  refine OD.go (B := (T40.setTop (mkF m 68 #[.val (.ref da), .val (.ref b2), .val (.ref b15), .val (.int 1), .val (.int 4), .val (.int 5), .val (.int 4)] [(.int 5)]))) st40 ?_
  refine OD.go (B := (T40.setTop (mkF m 70 #[.val (.ref da), .val (.ref b2), .val (.ref b15), .val (.int 1), .val (.int 4), .val (.int 5), .val (.int 5)] []))) (fun t k => XS.istore X40.here hx rfl (hb hby d1_68) rfl (l' := #[.val (.ref da), .val (.ref b2), .val (.ref b15), .val (.int 1), .val (.int 4), .val (.int 5), .val (.int 5)]) rfl k) ?_
  refine OD.go (B := (T40.setTop (mkF m 71 #[.val (.ref da), .val (.ref b2), .val (.ref b15), .val (.int 1), .val (.int 4), .val (.int 5), .val (.int 5)] [(.ref da)]))) (fun t k => XS.aloadN X40.here hx rfl (hb hby d1_70) rfl rfl k) ?_
  refine OD.go (B := (T40.setTop (mkF m 72 #[.val (.ref da), .val (.ref b2), .val (.ref b15), .val (.int 1), .val (.int 4), .val (.int 5), .val (.int 5)] [(.ref b2), (.ref da)]))) (fun t k => XS.aloadN X40.here hx rfl (hb hby d1_71) rfl rfl k) ?_
  refine OD.go (B := (T40.setTop (mkF m 73 #[.val (.ref da), .val (.ref b2), .val (.ref b15), .val (.int 1), .val (.int 4), .val (.int 5), .val (.int 5)] [(.ref b15), (.ref b2), (.ref da)]))) (fun t k => XS.aloadN X40.here hx rfl (hb hby d1_72) rfl rfl k) ?_
  refine OD.go (B := (T40.setTop (mkF m 75 #[.val (.ref da), .val (.ref b2), .val (.ref b15), .val (.int 1), .val (.int 4), .val (.int 5), .val (.int 5)] [(.int 4), (.ref b15), (.ref b2), (.ref da)]))) (fun t k => XS.iload X40.here hx rfl (hb hby d1_73) rfl k) ?_
  refine OD.go (B := (T40.setTop (mkF m 77 #[.val (.ref da), .val (.ref b2), .val (.ref b15), .val (.int 1), .val (.int 4), .val (.int 5), .val (.int 5)] [(.int 5), (.int 4), (.ref b15), (.ref b2), (.ref da)]))) (fun t k => XS.iload X40.here hx rfl (hb hby d1_75) rfl k) ?_
  refine OD.go (B := (T40.setTop (mkF m 79 #[.val (.ref da), .val (.ref b2), .val (.ref b15), .val (.int 1), .val (.int 4), .val (.int 5), .val (.int 5)] [(.int 5), (.int 5), (.int 4), (.ref b15), (.ref b2), (.ref da)]))) (fun t k => XS.iload X40.here hx rfl (hb hby d1_77) rfl k) ?_
  have f41 := (f33.keep K34 (ninS (Nat.ne_of_lt (Nat.lt_of_lt_of_le (Nat.lt_of_lt_of_le (Nat.lt_of_lt_of_le (Nat.lt_of_lt_of_le (Nat.lt_of_lt_of_le (Nat.lt_of_lt_of_le (Nat.lt_of_lt_of_le D1.lt E2.1) (Keep.of_wr W4).1) (Keep.of_wr W6).1) (Keep.of_wr W8).1) (Keep.of_wr W10).1) (Keep.of_wr W12).1) (Nat.le_of_eq g15.symm))) nin0))
  obtain ⟨_, _, ⟨T42, L42, k42, n42⟩, -, X42, ⟨Lc42, hQ42, l42, y42, z42⟩, st42⟩ := Jvm.LawKit.callS X40 hx (y := (⟨"com/example/topside/topside/DescendingOrder", "merge", "([D[I[IIII)V"⟩ : MethodName)) hown (mvT hZ (Wd17 hw)) (mvT hZ (Wd18 hw)) (mvT hZ (Wd3 hw)) (mvT hZ (Wd19 hw)) (by decide) (backOf (W := 0) (rmM l Z a0 hw [] da b2 b15 (4 : Int32) (5 : Int32) (5 : Int32) T34.heap n0 (Nat.le_trans (Nat.le_trans (Nat.le_trans (Nat.le_trans (Nat.le_trans (Nat.le_trans (Nat.le_trans (Nat.le_trans (Nat.le_trans Z0 E2.1) (Keep.of_wr W4).1) (Keep.of_wr W6).1) (Keep.of_wr W8).1) (Keep.of_wr W10).1) (Keep.of_wr W12).1) E15.1) K26.1) K34.1) k0 k2 k15 (5 : Int32) sv own_id (own_m5_1 sv) f41 f35 B34 (Nat.ne_of_lt (Nat.lt_of_lt_of_le (Nat.lt_of_lt_of_le (Nat.lt_of_lt_of_le (Nat.lt_of_lt_of_le (Nat.lt_of_lt_of_le (Nat.lt_of_lt_of_le (Nat.lt_of_lt_of_le D1.lt E2.1) (Keep.of_wr W4).1) (Keep.of_wr W6).1) (Keep.of_wr W8).1) (Keep.of_wr W10).1) (Keep.of_wr W12).1) (Nat.le_of_eq g15.symm))) (Nat.ne_of_lt (Nat.lt_of_lt_of_le (Nat.lt_of_lt_of_le (Nat.lt_of_lt_of_le (Nat.lt_of_lt_of_le (Nat.lt_of_lt_of_le (Nat.lt_of_lt_of_le V2.lt (Keep.of_wr W4).1) (Keep.of_wr W6).1) (Keep.of_wr W8).1) (Keep.of_wr W10).1) (Keep.of_wr W12).1) (Nat.le_of_eq g15.symm))) (Nat.le_trans (Nat.le_trans (Nat.le_trans (Nat.le_trans (Nat.le_trans (Nat.le_trans (Nat.le_trans Z0 E2.1) (Keep.of_wr W4).1) (Keep.of_wr W6).1) (Keep.of_wr W8).1) (Keep.of_wr W10).1) (Keep.of_wr W12).1) (Nat.le_of_eq g15.symm)) (by decide) (by decide) (by decide) (by decide) (own_idB _)) hZ (Wd19 hw) (Wd3 hw) (by decide) (by decide)) (g := (mkF m 79 #[.val (.ref da), .val (.ref b2), .val (.ref b15), .val (.int 1), .val (.int 4), .val (.int 5), .val (.int 5)] [(.int 5), (.int 5), (.int 4), (.ref b15), (.ref b2), (.ref da)])) rfl (by rw [hml]; rfl) (argsL := [(.ref da), (.ref b2), (.ref b15), (.int 4), (.int 5), (.int 5)]) (rest := []) (lenOf pd1 rfl) rfl (by show 2 * 0 + _ ≤ _; exact Nat.le_of_eq rfl) (hb hby d1_79) (fun _ _ => ⟨rfl, e40, (Nat.le_of_ble_eq_true rfl), (Nat.le_of_ble_eq_true rfl)⟩)
  dsimp only [Pt.U, Pt.locs, Pt.cells, Pt.slots] at X42 l42 y42 z42 st42 hQ42
  subst l42 y42 z42
  obtain ⟨rfl, Nq42, K42, A42⟩ := hQ42
  have N42 := Fr.app N34 Nq42
  have B42 : Arv Z T42.heap b15 k15 .int 5 (own_rg (5 : Int32).toNatClampNeg (fun x => .int ((own_m5_2 sv) x))) (.int 0) := A42
  refine OD.go (B := (T42.setTop (mkF m 82 #[.val (.ref da), .val (.ref b2), .val (.ref b15), .val (.int 1), .val (.int 4), .val (.int 5), .val (.int 5)] []))) st42 ?_
  refine OD.go (B := (T42.setTop (mkF m 84 #[.val (.ref da), .val (.ref b2), .val (.ref b15), .val (.int 1), .val (.int 4), .val (.int 5), .val (.int 5)] [(.int 4)]))) (fun t k => XS.iload X42.here hx rfl (hb hby d1_82) rfl k) ?_
  refine OD.go (B := (T42.setTop (mkF m 85 #[.val (.ref da), .val (.ref b2), .val (.ref b15), .val (.int 1), .val (.int 4), .val (.int 5), .val (.int 5)] [(.int 2), (.int 4)]))) (fun t k => XS.iconst X42.here hx rfl (hb hby d1_84) k) ?_
  refine OD.go (B := (T42.setTop (mkF m 86 #[.val (.ref da), .val (.ref b2), .val (.ref b15), .val (.int 1), .val (.int 4), .val (.int 5), .val (.int 5)] [(.int 1), (.int 2), (.int 4)]))) (fun t k => XS.iloadN X42.here hx rfl (hb hby d1_85) rfl k) ?_
  refine OD.go (B := (T42.setTop (mkF m 87 #[.val (.ref da), .val (.ref b2), .val (.ref b15), .val (.int 1), .val (.int 4), .val (.int 5), .val (.int 5)] [(.int 2), (.int 4)]))) (fun t k => XS.imul X42.here hx rfl (hb hby d1_86) rfl k) ?_
  refine OD.go (B := (T42.setTop (mkF m 88 #[.val (.ref da), .val (.ref b2), .val (.ref b15), .val (.int 1), .val (.int 4), .val (.int 5), .val (.int 5)] [(.int 6)]))) (fun t k => XS.iadd X42.here hx rfl (hb hby d1_87) rfl k) ?_
  refine OD.go (B := (T42.setTop (mkF m 90 #[.val (.ref da), .val (.ref b2), .val (.ref b15), .val (.int 1), .val (.int 6), .val (.int 5), .val (.int 5)] []))) (fun t k => XS.istore X42.here hx rfl (hb hby d1_88) rfl (l' := #[.val (.ref da), .val (.ref b2), .val (.ref b15), .val (.int 1), .val (.int 6), .val (.int 5), .val (.int 5)]) rfl k) ?_
  refine OD.go (B := (T42.setTop (mkF m 39 #[.val (.ref da), .val (.ref b2), .val (.ref b15), .val (.int 1), .val (.int 6), .val (.int 5), .val (.int 5)] []))) (fun t k => XS.goto X42.here hx rfl (pc0 := 90) (pc' := 39) rfl (hb hby d1_90) (by decide) (by decide) k) ?_
  refine OD.go (B := (T42.setTop (mkF m 41 #[.val (.ref da), .val (.ref b2), .val (.ref b15), .val (.int 1), .val (.int 6), .val (.int 5), .val (.int 5)] [(.int 6)]))) (fun t k => XS.iload X42.here hx rfl (hb hby d1_39) rfl k) ?_
  refine OD.go (B := (T42.setTop (mkF m 42 #[.val (.ref da), .val (.ref b2), .val (.ref b15), .val (.int 1), .val (.int 6), .val (.int 5), .val (.int 5)] [(.ref b2), (.int 6)]))) (fun t k => XS.aloadN X42.here hx rfl (hb hby d1_41) rfl rfl k) ?_
  have f43 := (f35.keep K42 (ninS (Nat.ne_of_lt (Nat.lt_of_lt_of_le (Nat.lt_of_lt_of_le (Nat.lt_of_lt_of_le (Nat.lt_of_lt_of_le (Nat.lt_of_lt_of_le (Nat.lt_of_lt_of_le V2.lt (Keep.of_wr W4).1) (Keep.of_wr W6).1) (Keep.of_wr W8).1) (Keep.of_wr W10).1) (Keep.of_wr W12).1) (Nat.le_of_eq g15.symm))) nin0))
  obtain ⟨cl44, Ar44, hl44⟩ := own_len f43
  refine OD.go (B := (T42.setTop (mkF m 43 #[.val (.ref da), .val (.ref b2), .val (.ref b15), .val (.int 1), .val (.int 6), .val (.int 5), .val (.int 5)] [(.int 5), (.int 6)]))) (fun t k => X42.arraylength hx (by exact Ar44.1) (State.isArrayOf_alike hZ.alike Ar44.2.1) (g := (mkF m 42 #[.val (.ref da), .val (.ref b2), .val (.ref b15), .val (.int 1), .val (.int 6), .val (.int 5), .val (.int 5)] [(.ref b2), (.int 6)])) rfl rfl (hb hby d1_42) _ (by rw [hl44]; exact k)) ?_
  refine OD.go (B := (T42.setTop (mkF m 93 #[.val (.ref da), .val (.ref b2), .val (.ref b15), .val (.int 1), .val (.int 6), .val (.int 5), .val (.int 5)] []))) (fun t k => XS.icmpYes X42.here hx rfl (pc0 := 43) (pc' := 93) rfl (hb hby d1_43) rfl (flt (by decide : ¬ (6 : Int32) < (5 : Int32))).2.1 (by decide) (by decide) k) ?_
  refine OD.go (B := (T42.setTop (mkF m 94 #[.val (.ref da), .val (.ref b2), .val (.ref b15), .val (.int 1), .val (.int 6), .val (.int 5), .val (.int 5)] [(.ref b2)]))) (fun t k => XS.aloadN X42.here hx rfl (hb hby d1_93) rfl rfl k) ?_
  refine OD.go (B := (T42.setTop (mkF m 96 #[.val (.ref da), .val (.ref b2), .val (.ref b15), .val (.int 1), .val (.ref b2), .val (.int 5), .val (.int 5)] []))) (fun t k => XS.astore X42.here hx rfl (hb hby d1_94) rfl rfl (l' := #[.val (.ref da), .val (.ref b2), .val (.ref b15), .val (.int 1), .val (.ref b2), .val (.int 5), .val (.int 5)]) rfl k) ?_
  refine OD.go (B := (T42.setTop (mkF m 97 #[.val (.ref da), .val (.ref b2), .val (.ref b15), .val (.int 1), .val (.ref b2), .val (.int 5), .val (.int 5)] [(.ref b15)]))) (fun t k => XS.aloadN X42.here hx rfl (hb hby d1_96) rfl rfl k) ?_
  refine OD.go (B := (T42.setTop (mkF m 98 #[.val (.ref da), .val (.ref b15), .val (.ref b15), .val (.int 1), .val (.ref b2), .val (.int 5), .val (.int 5)] []))) (fun t k => XS.astoreN X42.here hx rfl (hb hby d1_97) rfl rfl (l' := #[.val (.ref da), .val (.ref b15), .val (.ref b15), .val (.int 1), .val (.ref b2), .val (.int 5), .val (.int 5)]) rfl k) ?_
  refine OD.go (B := (T42.setTop (mkF m 100 #[.val (.ref da), .val (.ref b15), .val (.ref b15), .val (.int 1), .val (.ref b2), .val (.int 5), .val (.int 5)] [(.ref b2)]))) (fun t k => XS.aload X42.here hx rfl (hb hby d1_98) rfl rfl k) ?_
  refine OD.go (B := (T42.setTop (mkF m 101 #[.val (.ref da), .val (.ref b15), .val (.ref b2), .val (.int 1), .val (.ref b2), .val (.int 5), .val (.int 5)] []))) (fun t k => XS.astoreN X42.here hx rfl (hb hby d1_100) rfl rfl (l' := #[.val (.ref da), .val (.ref b15), .val (.ref b2), .val (.int 1), .val (.ref b2), .val (.int 5), .val (.int 5)]) rfl k) ?_
  refine OD.go (B := (T42.setTop (mkF m 102 #[.val (.ref da), .val (.ref b15), .val (.ref b2), .val (.int 1), .val (.ref b2), .val (.int 5), .val (.int 5)] [(.int 1)]))) (fun t k => XS.iloadN X42.here hx rfl (hb hby d1_101) rfl k) ?_
  refine OD.go (B := (T42.setTop (mkF m 103 #[.val (.ref da), .val (.ref b15), .val (.ref b2), .val (.int 1), .val (.ref b2), .val (.int 5), .val (.int 5)] [(.int 2), (.int 1)]))) (fun t k => XS.iconst X42.here hx rfl (hb hby d1_102) k) ?_
  refine OD.go (B := (T42.setTop (mkF m 104 #[.val (.ref da), .val (.ref b15), .val (.ref b2), .val (.int 1), .val (.ref b2), .val (.int 5), .val (.int 5)] [(.int 2)]))) (fun t k => XS.imul X42.here hx rfl (hb hby d1_103) rfl k) ?_
  refine OD.go (B := (T42.setTop (mkF m 105 #[.val (.ref da), .val (.ref b15), .val (.ref b2), .val (.int 2), .val (.ref b2), .val (.int 5), .val (.int 5)] []))) (fun t k => XS.istoreN X42.here hx rfl (hb hby d1_104) rfl (l' := #[.val (.ref da), .val (.ref b15), .val (.ref b2), .val (.int 2), .val (.ref b2), .val (.int 5), .val (.int 5)]) rfl k) ?_
  refine OD.go (B := (T42.setTop (mkF m 30 #[.val (.ref da), .val (.ref b15), .val (.ref b2), .val (.int 2), .val (.ref b2), .val (.int 5), .val (.int 5)] []))) (fun t k => XS.goto X42.here hx rfl (pc0 := 105) (pc' := 30) rfl (hb hby d1_105) (by decide) (by decide) k) ?_
  refine OD.go (B := (T42.setTop (mkF m 31 #[.val (.ref da), .val (.ref b15), .val (.ref b2), .val (.int 2), .val (.ref b2), .val (.int 5), .val (.int 5)] [(.int 2)]))) (fun t k => XS.iloadN X42.here hx rfl (hb hby d1_30) rfl k) ?_
  refine OD.go (B := (T42.setTop (mkF m 32 #[.val (.ref da), .val (.ref b15), .val (.ref b2), .val (.int 2), .val (.ref b2), .val (.int 5), .val (.int 5)] [(.ref b15), (.int 2)]))) (fun t k => XS.aloadN X42.here hx rfl (hb hby d1_31) rfl rfl k) ?_
  obtain ⟨cl45, Ar45, hl45⟩ := own_len B42
  refine OD.go (B := (T42.setTop (mkF m 33 #[.val (.ref da), .val (.ref b15), .val (.ref b2), .val (.int 2), .val (.ref b2), .val (.int 5), .val (.int 5)] [(.int 5), (.int 2)]))) (fun t k => X42.arraylength hx (by exact Ar45.1) (State.isArrayOf_alike hZ.alike Ar45.2.1) (g := (mkF m 32 #[.val (.ref da), .val (.ref b15), .val (.ref b2), .val (.int 2), .val (.ref b2), .val (.int 5), .val (.int 5)] [(.ref b15), (.int 2)])) rfl rfl (hb hby d1_32) _ (by rw [hl45]; exact k)) ?_
  refine OD.go (B := (T42.setTop (mkF m 36 #[.val (.ref da), .val (.ref b15), .val (.ref b2), .val (.int 2), .val (.ref b2), .val (.int 5), .val (.int 5)] []))) (fun t k => XS.icmpNo X42.here hx rfl (hb hby d1_33) rfl (tlt (by decide : (2 : Int32) < (5 : Int32))).2.1 k) ?_
  refine OD.go (B := (T42.setTop (mkF m 37 #[.val (.ref da), .val (.ref b15), .val (.ref b2), .val (.int 2), .val (.ref b2), .val (.int 5), .val (.int 5)] [(.int 0)]))) (fun t k => XS.iconst X42.here hx rfl (hb hby d1_36) k) ?_
  refine OD.go (B := (T42.setTop (mkF m 39 #[.val (.ref da), .val (.ref b15), .val (.ref b2), .val (.int 2), .val (.int 0), .val (.int 5), .val (.int 5)] []))) (fun t k => XS.istore X42.here hx rfl (hb hby d1_37) rfl (l' := #[.val (.ref da), .val (.ref b15), .val (.ref b2), .val (.int 2), .val (.int 0), .val (.int 5), .val (.int 5)]) rfl k) ?_
  refine OD.go (B := (T42.setTop (mkF m 41 #[.val (.ref da), .val (.ref b15), .val (.ref b2), .val (.int 2), .val (.int 0), .val (.int 5), .val (.int 5)] [(.int 0)]))) (fun t k => XS.iload X42.here hx rfl (hb hby d1_39) rfl k) ?_
  refine OD.go (B := (T42.setTop (mkF m 42 #[.val (.ref da), .val (.ref b15), .val (.ref b2), .val (.int 2), .val (.int 0), .val (.int 5), .val (.int 5)] [(.ref b15), (.int 0)]))) (fun t k => XS.aloadN X42.here hx rfl (hb hby d1_41) rfl rfl k) ?_
  obtain ⟨cl46, Ar46, hl46⟩ := own_len B42
  refine OD.go (B := (T42.setTop (mkF m 43 #[.val (.ref da), .val (.ref b15), .val (.ref b2), .val (.int 2), .val (.int 0), .val (.int 5), .val (.int 5)] [(.int 5), (.int 0)]))) (fun t k => X42.arraylength hx (by exact Ar46.1) (State.isArrayOf_alike hZ.alike Ar46.2.1) (g := (mkF m 42 #[.val (.ref da), .val (.ref b15), .val (.ref b2), .val (.int 2), .val (.int 0), .val (.int 5), .val (.int 5)] [(.ref b15), (.int 0)])) rfl rfl (hb hby d1_42) _ (by rw [hl46]; exact k)) ?_
  refine OD.go (B := (T42.setTop (mkF m 46 #[.val (.ref da), .val (.ref b15), .val (.ref b2), .val (.int 2), .val (.int 0), .val (.int 5), .val (.int 5)] []))) (fun t k => XS.icmpNo X42.here hx rfl (hb hby d1_43) rfl (tlt (by decide : (0 : Int32) < (5 : Int32))).2.1 k) ?_
  refine OD.go (B := (T42.setTop (mkF m 48 #[.val (.ref da), .val (.ref b15), .val (.ref b2), .val (.int 2), .val (.int 0), .val (.int 5), .val (.int 5)] [(.int 0)]))) (fun t k => XS.iload X42.here hx rfl (hb hby d1_46) rfl k) ?_
  refine OD.go (B := (T42.setTop (mkF m 49 #[.val (.ref da), .val (.ref b15), .val (.ref b2), .val (.int 2), .val (.int 0), .val (.int 5), .val (.int 5)] [(.int 2), (.int 0)]))) (fun t k => XS.iloadN X42.here hx rfl (hb hby d1_48) rfl k) ?_
  refine OD.go (B := (T42.setTop (mkF m 50 #[.val (.ref da), .val (.ref b15), .val (.ref b2), .val (.int 2), .val (.int 0), .val (.int 5), .val (.int 5)] [(.int 2)]))) (fun t k => XS.iadd X42.here hx rfl (hb hby d1_49) rfl k) ?_
  refine OD.go (B := (T42.setTop (mkF m 51 #[.val (.ref da), .val (.ref b15), .val (.ref b2), .val (.int 2), .val (.int 0), .val (.int 5), .val (.int 5)] [(.ref b15), (.int 2)]))) (fun t k => XS.aloadN X42.here hx rfl (hb hby d1_50) rfl rfl k) ?_
  obtain ⟨cl47, Ar47, hl47⟩ := own_len B42
  refine OD.go (B := (T42.setTop (mkF m 52 #[.val (.ref da), .val (.ref b15), .val (.ref b2), .val (.int 2), .val (.int 0), .val (.int 5), .val (.int 5)] [(.int 5), (.int 2)]))) (fun t k => X42.arraylength hx (by exact Ar47.1) (State.isArrayOf_alike hZ.alike Ar47.2.1) (g := (mkF m 51 #[.val (.ref da), .val (.ref b15), .val (.ref b2), .val (.int 2), .val (.int 0), .val (.int 5), .val (.int 5)] [(.ref b15), (.int 2)])) rfl rfl (hb hby d1_51) _ (by rw [hl47]; exact k)) ?_
  obtain ⟨_, _, ⟨T48, L48, k48, n48⟩, -, X48, ⟨Lc48, hQ48, l48, y48, z48⟩, st48⟩ := Jvm.LawKit.callS X42 hx (y := (⟨"java/lang/Math", "min", "(II)I"⟩ : MethodName)) hown (mvT hZ (Wd13 hw)) (mvT hZ (Wd14 hw)) (mvT hZ (Wd15 hw)) (mvT hZ (Wd16 hw)) (by decide) (backOf (W := 0) (rmMn2_5 l Z a0 hw [] T42.heap) hZ (Wd16 hw) (Wd15 hw) (by decide) (by decide)) (g := (mkF m 52 #[.val (.ref da), .val (.ref b15), .val (.ref b2), .val (.int 2), .val (.int 0), .val (.int 5), .val (.int 5)] [(.int 5), (.int 2)])) rfl (by rw [hml]; rfl) (argsL := [(.int 2), (.int 5)]) (rest := []) (lenOf pd0 rfl) rfl (by show 2 * 0 + _ ≤ _; exact Nat.le_of_eq rfl) (hb hby d1_52) (fun _ _ => ⟨rfl, rfl, (Nat.le_of_ble_eq_true rfl), (Nat.le_of_ble_eq_true rfl)⟩)
  dsimp only [Pt.U, Pt.locs, Pt.cells, Pt.slots] at X48 l48 y48 z48 st48 hQ48
  subst l48 y48 z48
  obtain ⟨rfl, rfl, e48⟩ := hQ48
  try rw [List.append_nil] at X48
  refine OD.go (B := (T48.setTop (mkF m 55 #[.val (.ref da), .val (.ref b15), .val (.ref b2), .val (.int 2), .val (.int 0), .val (.int 5), .val (.int 5)] [(.int 2)]))) st48 ?_
  refine OD.go (B := (T48.setTop (mkF m 57 #[.val (.ref da), .val (.ref b15), .val (.ref b2), .val (.int 2), .val (.int 0), .val (.int 2), .val (.int 5)] []))) (fun t k => XS.istore X48.here hx rfl (hb hby d1_55) rfl (l' := #[.val (.ref da), .val (.ref b15), .val (.ref b2), .val (.int 2), .val (.int 0), .val (.int 2), .val (.int 5)]) rfl k) ?_
  refine OD.go (B := (T48.setTop (mkF m 59 #[.val (.ref da), .val (.ref b15), .val (.ref b2), .val (.int 2), .val (.int 0), .val (.int 2), .val (.int 5)] [(.int 0)]))) (fun t k => XS.iload X48.here hx rfl (hb hby d1_57) rfl k) ?_
  refine OD.go (B := (T48.setTop (mkF m 60 #[.val (.ref da), .val (.ref b15), .val (.ref b2), .val (.int 2), .val (.int 0), .val (.int 2), .val (.int 5)] [(.int 2), (.int 0)]))) (fun t k => XS.iconst X48.here hx rfl (hb hby d1_59) k) ?_
  refine OD.go (B := (T48.setTop (mkF m 61 #[.val (.ref da), .val (.ref b15), .val (.ref b2), .val (.int 2), .val (.int 0), .val (.int 2), .val (.int 5)] [(.int 2), (.int 2), (.int 0)]))) (fun t k => XS.iloadN X48.here hx rfl (hb hby d1_60) rfl k) ?_
  refine OD.go (B := (T48.setTop (mkF m 62 #[.val (.ref da), .val (.ref b15), .val (.ref b2), .val (.int 2), .val (.int 0), .val (.int 2), .val (.int 5)] [(.int 4), (.int 0)]))) (fun t k => XS.imul X48.here hx rfl (hb hby d1_61) rfl k) ?_
  refine OD.go (B := (T48.setTop (mkF m 63 #[.val (.ref da), .val (.ref b15), .val (.ref b2), .val (.int 2), .val (.int 0), .val (.int 2), .val (.int 5)] [(.int 4)]))) (fun t k => XS.iadd X48.here hx rfl (hb hby d1_62) rfl k) ?_
  refine OD.go (B := (T48.setTop (mkF m 64 #[.val (.ref da), .val (.ref b15), .val (.ref b2), .val (.int 2), .val (.int 0), .val (.int 2), .val (.int 5)] [(.ref b15), (.int 4)]))) (fun t k => XS.aloadN X48.here hx rfl (hb hby d1_63) rfl rfl k) ?_
  obtain ⟨cl49, Ar49, hl49⟩ := own_len B42
  refine OD.go (B := (T48.setTop (mkF m 65 #[.val (.ref da), .val (.ref b15), .val (.ref b2), .val (.int 2), .val (.int 0), .val (.int 2), .val (.int 5)] [(.int 5), (.int 4)]))) (fun t k => X48.arraylength hx (by rw [e48]; exact Ar49.1) (State.isArrayOf_alike hZ.alike Ar49.2.1) (g := (mkF m 64 #[.val (.ref da), .val (.ref b15), .val (.ref b2), .val (.int 2), .val (.int 0), .val (.int 2), .val (.int 5)] [(.ref b15), (.int 4)])) rfl rfl (hb hby d1_64) _ (by rw [hl49]; exact k)) ?_
  obtain ⟨_, _, ⟨T50, L50, k50, n50⟩, -, X50, ⟨Lc50, hQ50, l50, y50, z50⟩, st50⟩ := Jvm.LawKit.callS X48 hx (y := (⟨"java/lang/Math", "min", "(II)I"⟩ : MethodName)) hown (mvT hZ (Wd13 hw)) (mvT hZ (Wd14 hw)) (mvT hZ (Wd15 hw)) (mvT hZ (Wd16 hw)) (by decide) (backOf (W := 0) (rmMn4_5 l Z a0 hw [] T42.heap) hZ (Wd16 hw) (Wd15 hw) (by decide) (by decide)) (g := (mkF m 65 #[.val (.ref da), .val (.ref b15), .val (.ref b2), .val (.int 2), .val (.int 0), .val (.int 2), .val (.int 5)] [(.int 5), (.int 4)])) rfl (by rw [hml]; rfl) (argsL := [(.int 4), (.int 5)]) (rest := []) (lenOf pd0 rfl) rfl (by show 2 * 0 + _ ≤ _; exact Nat.le_of_eq rfl) (hb hby d1_65) (fun _ _ => ⟨rfl, e48, (Nat.le_of_ble_eq_true rfl), (Nat.le_of_ble_eq_true rfl)⟩)
  dsimp only [Pt.U, Pt.locs, Pt.cells, Pt.slots] at X50 l50 y50 z50 st50 hQ50
  subst l50 y50 z50
  obtain ⟨rfl, rfl, e50⟩ := hQ50
  try rw [List.append_nil] at X50
  refine OD.go (B := (T50.setTop (mkF m 68 #[.val (.ref da), .val (.ref b15), .val (.ref b2), .val (.int 2), .val (.int 0), .val (.int 2), .val (.int 5)] [(.int 4)]))) st50 ?_
  refine OD.go (B := (T50.setTop (mkF m 70 #[.val (.ref da), .val (.ref b15), .val (.ref b2), .val (.int 2), .val (.int 0), .val (.int 2), .val (.int 4)] []))) (fun t k => XS.istore X50.here hx rfl (hb hby d1_68) rfl (l' := #[.val (.ref da), .val (.ref b15), .val (.ref b2), .val (.int 2), .val (.int 0), .val (.int 2), .val (.int 4)]) rfl k) ?_
  refine OD.go (B := (T50.setTop (mkF m 71 #[.val (.ref da), .val (.ref b15), .val (.ref b2), .val (.int 2), .val (.int 0), .val (.int 2), .val (.int 4)] [(.ref da)]))) (fun t k => XS.aloadN X50.here hx rfl (hb hby d1_70) rfl rfl k) ?_
  refine OD.go (B := (T50.setTop (mkF m 72 #[.val (.ref da), .val (.ref b15), .val (.ref b2), .val (.int 2), .val (.int 0), .val (.int 2), .val (.int 4)] [(.ref b15), (.ref da)]))) (fun t k => XS.aloadN X50.here hx rfl (hb hby d1_71) rfl rfl k) ?_
  refine OD.go (B := (T50.setTop (mkF m 73 #[.val (.ref da), .val (.ref b15), .val (.ref b2), .val (.int 2), .val (.int 0), .val (.int 2), .val (.int 4)] [(.ref b2), (.ref b15), (.ref da)]))) (fun t k => XS.aloadN X50.here hx rfl (hb hby d1_72) rfl rfl k) ?_
  refine OD.go (B := (T50.setTop (mkF m 75 #[.val (.ref da), .val (.ref b15), .val (.ref b2), .val (.int 2), .val (.int 0), .val (.int 2), .val (.int 4)] [(.int 0), (.ref b2), (.ref b15), (.ref da)]))) (fun t k => XS.iload X50.here hx rfl (hb hby d1_73) rfl k) ?_
  refine OD.go (B := (T50.setTop (mkF m 77 #[.val (.ref da), .val (.ref b15), .val (.ref b2), .val (.int 2), .val (.int 0), .val (.int 2), .val (.int 4)] [(.int 2), (.int 0), (.ref b2), (.ref b15), (.ref da)]))) (fun t k => XS.iload X50.here hx rfl (hb hby d1_75) rfl k) ?_
  refine OD.go (B := (T50.setTop (mkF m 79 #[.val (.ref da), .val (.ref b15), .val (.ref b2), .val (.int 2), .val (.int 0), .val (.int 2), .val (.int 4)] [(.int 4), (.int 2), (.int 0), (.ref b2), (.ref b15), (.ref da)]))) (fun t k => XS.iload X50.here hx rfl (hb hby d1_77) rfl k) ?_
  have f51 := (f41.keep K42 (ninS (Nat.ne_of_lt (Nat.lt_of_lt_of_le (Nat.lt_of_lt_of_le (Nat.lt_of_lt_of_le (Nat.lt_of_lt_of_le (Nat.lt_of_lt_of_le (Nat.lt_of_lt_of_le (Nat.lt_of_lt_of_le D1.lt E2.1) (Keep.of_wr W4).1) (Keep.of_wr W6).1) (Keep.of_wr W8).1) (Keep.of_wr W10).1) (Keep.of_wr W12).1) (Nat.le_of_eq g15.symm))) nin0))
  obtain ⟨_, _, ⟨T52, L52, k52, n52⟩, -, X52, ⟨Lc52, hQ52, l52, y52, z52⟩, st52⟩ := Jvm.LawKit.callS X50 hx (y := (⟨"com/example/topside/topside/DescendingOrder", "merge", "([D[I[IIII)V"⟩ : MethodName)) hown (mvT hZ (Wd17 hw)) (mvT hZ (Wd18 hw)) (mvT hZ (Wd3 hw)) (mvT hZ (Wd19 hw)) (by decide) (backOf (W := 0) (rmM l Z a0 hw [] da b15 b2 (0 : Int32) (2 : Int32) (4 : Int32) T42.heap n0 (Nat.le_trans (Nat.le_trans (Nat.le_trans (Nat.le_trans (Nat.le_trans (Nat.le_trans (Nat.le_trans (Nat.le_trans (Nat.le_trans (Nat.le_trans Z0 E2.1) (Keep.of_wr W4).1) (Keep.of_wr W6).1) (Keep.of_wr W8).1) (Keep.of_wr W10).1) (Keep.of_wr W12).1) E15.1) K26.1) K34.1) K42.1) k0 k15 k2 (5 : Int32) sv (own_m5_2 sv) own_id f51 B42 f43 (Nat.ne_of_lt (Nat.lt_of_lt_of_le D1.lt (Nat.le_of_eq g2.symm))) (Ne.symm (Nat.ne_of_lt (Nat.lt_of_lt_of_le (Nat.lt_of_lt_of_le (Nat.lt_of_lt_of_le (Nat.lt_of_lt_of_le (Nat.lt_of_lt_of_le (Nat.lt_of_lt_of_le V2.lt (Keep.of_wr W4).1) (Keep.of_wr W6).1) (Keep.of_wr W8).1) (Keep.of_wr W10).1) (Keep.of_wr W12).1) (Nat.le_of_eq g15.symm)))) (Nat.le_trans Z0 (Nat.le_of_eq g2.symm)) (by decide) (by decide) (by decide) (by decide) (own_m5_2_b sv)) hZ (Wd19 hw) (Wd3 hw) (by decide) (by decide)) (g := (mkF m 79 #[.val (.ref da), .val (.ref b15), .val (.ref b2), .val (.int 2), .val (.int 0), .val (.int 2), .val (.int 4)] [(.int 4), (.int 2), (.int 0), (.ref b2), (.ref b15), (.ref da)])) rfl (by rw [hml]; rfl) (argsL := [(.ref da), (.ref b15), (.ref b2), (.int 0), (.int 2), (.int 4)]) (rest := []) (lenOf pd1 rfl) rfl (by show 2 * 0 + _ ≤ _; exact Nat.le_of_eq rfl) (hb hby d1_79) (fun _ _ => ⟨rfl, e50, (Nat.le_of_ble_eq_true rfl), (Nat.le_of_ble_eq_true rfl)⟩)
  dsimp only [Pt.U, Pt.locs, Pt.cells, Pt.slots] at X52 l52 y52 z52 st52 hQ52
  subst l52 y52 z52
  obtain ⟨rfl, Nq52, K52, A52⟩ := hQ52
  have N52 := Fr.app N42 Nq52
  have B52 : Arv Z T52.heap b2 k2 .int 5 (own_rg (5 : Int32).toNatClampNeg (fun x => .int ((own_m5_3 sv) x))) (.int 0) := A52
  refine OD.go (B := (T52.setTop (mkF m 82 #[.val (.ref da), .val (.ref b15), .val (.ref b2), .val (.int 2), .val (.int 0), .val (.int 2), .val (.int 4)] []))) st52 ?_
  refine OD.go (B := (T52.setTop (mkF m 84 #[.val (.ref da), .val (.ref b15), .val (.ref b2), .val (.int 2), .val (.int 0), .val (.int 2), .val (.int 4)] [(.int 0)]))) (fun t k => XS.iload X52.here hx rfl (hb hby d1_82) rfl k) ?_
  refine OD.go (B := (T52.setTop (mkF m 85 #[.val (.ref da), .val (.ref b15), .val (.ref b2), .val (.int 2), .val (.int 0), .val (.int 2), .val (.int 4)] [(.int 2), (.int 0)]))) (fun t k => XS.iconst X52.here hx rfl (hb hby d1_84) k) ?_
  refine OD.go (B := (T52.setTop (mkF m 86 #[.val (.ref da), .val (.ref b15), .val (.ref b2), .val (.int 2), .val (.int 0), .val (.int 2), .val (.int 4)] [(.int 2), (.int 2), (.int 0)]))) (fun t k => XS.iloadN X52.here hx rfl (hb hby d1_85) rfl k) ?_
  refine OD.go (B := (T52.setTop (mkF m 87 #[.val (.ref da), .val (.ref b15), .val (.ref b2), .val (.int 2), .val (.int 0), .val (.int 2), .val (.int 4)] [(.int 4), (.int 0)]))) (fun t k => XS.imul X52.here hx rfl (hb hby d1_86) rfl k) ?_
  refine OD.go (B := (T52.setTop (mkF m 88 #[.val (.ref da), .val (.ref b15), .val (.ref b2), .val (.int 2), .val (.int 0), .val (.int 2), .val (.int 4)] [(.int 4)]))) (fun t k => XS.iadd X52.here hx rfl (hb hby d1_87) rfl k) ?_
  refine OD.go (B := (T52.setTop (mkF m 90 #[.val (.ref da), .val (.ref b15), .val (.ref b2), .val (.int 2), .val (.int 4), .val (.int 2), .val (.int 4)] []))) (fun t k => XS.istore X52.here hx rfl (hb hby d1_88) rfl (l' := #[.val (.ref da), .val (.ref b15), .val (.ref b2), .val (.int 2), .val (.int 4), .val (.int 2), .val (.int 4)]) rfl k) ?_
  refine OD.go (B := (T52.setTop (mkF m 39 #[.val (.ref da), .val (.ref b15), .val (.ref b2), .val (.int 2), .val (.int 4), .val (.int 2), .val (.int 4)] []))) (fun t k => XS.goto X52.here hx rfl (pc0 := 90) (pc' := 39) rfl (hb hby d1_90) (by decide) (by decide) k) ?_
  refine OD.go (B := (T52.setTop (mkF m 41 #[.val (.ref da), .val (.ref b15), .val (.ref b2), .val (.int 2), .val (.int 4), .val (.int 2), .val (.int 4)] [(.int 4)]))) (fun t k => XS.iload X52.here hx rfl (hb hby d1_39) rfl k) ?_
  refine OD.go (B := (T52.setTop (mkF m 42 #[.val (.ref da), .val (.ref b15), .val (.ref b2), .val (.int 2), .val (.int 4), .val (.int 2), .val (.int 4)] [(.ref b15), (.int 4)]))) (fun t k => XS.aloadN X52.here hx rfl (hb hby d1_41) rfl rfl k) ?_
  have f53 := (B42.keep K52 (ninS (Ne.symm (Nat.ne_of_lt (Nat.lt_of_lt_of_le (Nat.lt_of_lt_of_le (Nat.lt_of_lt_of_le (Nat.lt_of_lt_of_le (Nat.lt_of_lt_of_le (Nat.lt_of_lt_of_le V2.lt (Keep.of_wr W4).1) (Keep.of_wr W6).1) (Keep.of_wr W8).1) (Keep.of_wr W10).1) (Keep.of_wr W12).1) (Nat.le_of_eq g15.symm)))) nin0))
  obtain ⟨cl54, Ar54, hl54⟩ := own_len f53
  refine OD.go (B := (T52.setTop (mkF m 43 #[.val (.ref da), .val (.ref b15), .val (.ref b2), .val (.int 2), .val (.int 4), .val (.int 2), .val (.int 4)] [(.int 5), (.int 4)]))) (fun t k => X52.arraylength hx (by exact Ar54.1) (State.isArrayOf_alike hZ.alike Ar54.2.1) (g := (mkF m 42 #[.val (.ref da), .val (.ref b15), .val (.ref b2), .val (.int 2), .val (.int 4), .val (.int 2), .val (.int 4)] [(.ref b15), (.int 4)])) rfl rfl (hb hby d1_42) _ (by rw [hl54]; exact k)) ?_
  refine OD.go (B := (T52.setTop (mkF m 46 #[.val (.ref da), .val (.ref b15), .val (.ref b2), .val (.int 2), .val (.int 4), .val (.int 2), .val (.int 4)] []))) (fun t k => XS.icmpNo X52.here hx rfl (hb hby d1_43) rfl (tlt (by decide : (4 : Int32) < (5 : Int32))).2.1 k) ?_
  refine OD.go (B := (T52.setTop (mkF m 48 #[.val (.ref da), .val (.ref b15), .val (.ref b2), .val (.int 2), .val (.int 4), .val (.int 2), .val (.int 4)] [(.int 4)]))) (fun t k => XS.iload X52.here hx rfl (hb hby d1_46) rfl k) ?_
  refine OD.go (B := (T52.setTop (mkF m 49 #[.val (.ref da), .val (.ref b15), .val (.ref b2), .val (.int 2), .val (.int 4), .val (.int 2), .val (.int 4)] [(.int 2), (.int 4)]))) (fun t k => XS.iloadN X52.here hx rfl (hb hby d1_48) rfl k) ?_
  refine OD.go (B := (T52.setTop (mkF m 50 #[.val (.ref da), .val (.ref b15), .val (.ref b2), .val (.int 2), .val (.int 4), .val (.int 2), .val (.int 4)] [(.int 6)]))) (fun t k => XS.iadd X52.here hx rfl (hb hby d1_49) rfl k) ?_
  refine OD.go (B := (T52.setTop (mkF m 51 #[.val (.ref da), .val (.ref b15), .val (.ref b2), .val (.int 2), .val (.int 4), .val (.int 2), .val (.int 4)] [(.ref b15), (.int 6)]))) (fun t k => XS.aloadN X52.here hx rfl (hb hby d1_50) rfl rfl k) ?_
  obtain ⟨cl55, Ar55, hl55⟩ := own_len f53
  refine OD.go (B := (T52.setTop (mkF m 52 #[.val (.ref da), .val (.ref b15), .val (.ref b2), .val (.int 2), .val (.int 4), .val (.int 2), .val (.int 4)] [(.int 5), (.int 6)]))) (fun t k => X52.arraylength hx (by exact Ar55.1) (State.isArrayOf_alike hZ.alike Ar55.2.1) (g := (mkF m 51 #[.val (.ref da), .val (.ref b15), .val (.ref b2), .val (.int 2), .val (.int 4), .val (.int 2), .val (.int 4)] [(.ref b15), (.int 6)])) rfl rfl (hb hby d1_51) _ (by rw [hl55]; exact k)) ?_
  obtain ⟨_, _, ⟨T56, L56, k56, n56⟩, -, X56, ⟨Lc56, hQ56, l56, y56, z56⟩, st56⟩ := Jvm.LawKit.callS X52 hx (y := (⟨"java/lang/Math", "min", "(II)I"⟩ : MethodName)) hown (mvT hZ (Wd13 hw)) (mvT hZ (Wd14 hw)) (mvT hZ (Wd15 hw)) (mvT hZ (Wd16 hw)) (by decide) (backOf (W := 0) (rmMn6_5 l Z a0 hw [] T52.heap) hZ (Wd16 hw) (Wd15 hw) (by decide) (by decide)) (g := (mkF m 52 #[.val (.ref da), .val (.ref b15), .val (.ref b2), .val (.int 2), .val (.int 4), .val (.int 2), .val (.int 4)] [(.int 5), (.int 6)])) rfl (by rw [hml]; rfl) (argsL := [(.int 6), (.int 5)]) (rest := []) (lenOf pd0 rfl) rfl (by show 2 * 0 + _ ≤ _; exact Nat.le_of_eq rfl) (hb hby d1_52) (fun _ _ => ⟨rfl, rfl, (Nat.le_of_ble_eq_true rfl), (Nat.le_of_ble_eq_true rfl)⟩)
  dsimp only [Pt.U, Pt.locs, Pt.cells, Pt.slots] at X56 l56 y56 z56 st56 hQ56
  subst l56 y56 z56
  obtain ⟨rfl, rfl, e56⟩ := hQ56
  try rw [List.append_nil] at X56
  refine OD.go (B := (T56.setTop (mkF m 55 #[.val (.ref da), .val (.ref b15), .val (.ref b2), .val (.int 2), .val (.int 4), .val (.int 2), .val (.int 4)] [(.int 5)]))) st56 ?_
  refine OD.go (B := (T56.setTop (mkF m 57 #[.val (.ref da), .val (.ref b15), .val (.ref b2), .val (.int 2), .val (.int 4), .val (.int 5), .val (.int 4)] []))) (fun t k => XS.istore X56.here hx rfl (hb hby d1_55) rfl (l' := #[.val (.ref da), .val (.ref b15), .val (.ref b2), .val (.int 2), .val (.int 4), .val (.int 5), .val (.int 4)]) rfl k) ?_
  refine OD.go (B := (T56.setTop (mkF m 59 #[.val (.ref da), .val (.ref b15), .val (.ref b2), .val (.int 2), .val (.int 4), .val (.int 5), .val (.int 4)] [(.int 4)]))) (fun t k => XS.iload X56.here hx rfl (hb hby d1_57) rfl k) ?_
  refine OD.go (B := (T56.setTop (mkF m 60 #[.val (.ref da), .val (.ref b15), .val (.ref b2), .val (.int 2), .val (.int 4), .val (.int 5), .val (.int 4)] [(.int 2), (.int 4)]))) (fun t k => XS.iconst X56.here hx rfl (hb hby d1_59) k) ?_
  refine OD.go (B := (T56.setTop (mkF m 61 #[.val (.ref da), .val (.ref b15), .val (.ref b2), .val (.int 2), .val (.int 4), .val (.int 5), .val (.int 4)] [(.int 2), (.int 2), (.int 4)]))) (fun t k => XS.iloadN X56.here hx rfl (hb hby d1_60) rfl k) ?_
  refine OD.go (B := (T56.setTop (mkF m 62 #[.val (.ref da), .val (.ref b15), .val (.ref b2), .val (.int 2), .val (.int 4), .val (.int 5), .val (.int 4)] [(.int 4), (.int 4)]))) (fun t k => XS.imul X56.here hx rfl (hb hby d1_61) rfl k) ?_
  refine OD.go (B := (T56.setTop (mkF m 63 #[.val (.ref da), .val (.ref b15), .val (.ref b2), .val (.int 2), .val (.int 4), .val (.int 5), .val (.int 4)] [(.int 8)]))) (fun t k => XS.iadd X56.here hx rfl (hb hby d1_62) rfl k) ?_
  refine OD.go (B := (T56.setTop (mkF m 64 #[.val (.ref da), .val (.ref b15), .val (.ref b2), .val (.int 2), .val (.int 4), .val (.int 5), .val (.int 4)] [(.ref b15), (.int 8)]))) (fun t k => XS.aloadN X56.here hx rfl (hb hby d1_63) rfl rfl k) ?_
  obtain ⟨cl57, Ar57, hl57⟩ := own_len f53
  refine OD.go (B := (T56.setTop (mkF m 65 #[.val (.ref da), .val (.ref b15), .val (.ref b2), .val (.int 2), .val (.int 4), .val (.int 5), .val (.int 4)] [(.int 5), (.int 8)]))) (fun t k => X56.arraylength hx (by rw [e56]; exact Ar57.1) (State.isArrayOf_alike hZ.alike Ar57.2.1) (g := (mkF m 64 #[.val (.ref da), .val (.ref b15), .val (.ref b2), .val (.int 2), .val (.int 4), .val (.int 5), .val (.int 4)] [(.ref b15), (.int 8)])) rfl rfl (hb hby d1_64) _ (by rw [hl57]; exact k)) ?_
  obtain ⟨_, _, ⟨T58, L58, k58, n58⟩, -, X58, ⟨Lc58, hQ58, l58, y58, z58⟩, st58⟩ := Jvm.LawKit.callS X56 hx (y := (⟨"java/lang/Math", "min", "(II)I"⟩ : MethodName)) hown (mvT hZ (Wd13 hw)) (mvT hZ (Wd14 hw)) (mvT hZ (Wd15 hw)) (mvT hZ (Wd16 hw)) (by decide) (backOf (W := 0) (rmMn8_5 l Z a0 hw [] T52.heap) hZ (Wd16 hw) (Wd15 hw) (by decide) (by decide)) (g := (mkF m 65 #[.val (.ref da), .val (.ref b15), .val (.ref b2), .val (.int 2), .val (.int 4), .val (.int 5), .val (.int 4)] [(.int 5), (.int 8)])) rfl (by rw [hml]; rfl) (argsL := [(.int 8), (.int 5)]) (rest := []) (lenOf pd0 rfl) rfl (by show 2 * 0 + _ ≤ _; exact Nat.le_of_eq rfl) (hb hby d1_65) (fun _ _ => ⟨rfl, e56, (Nat.le_of_ble_eq_true rfl), (Nat.le_of_ble_eq_true rfl)⟩)
  dsimp only [Pt.U, Pt.locs, Pt.cells, Pt.slots] at X58 l58 y58 z58 st58 hQ58
  subst l58 y58 z58
  obtain ⟨rfl, rfl, e58⟩ := hQ58
  try rw [List.append_nil] at X58
  refine OD.go (B := (T58.setTop (mkF m 68 #[.val (.ref da), .val (.ref b15), .val (.ref b2), .val (.int 2), .val (.int 4), .val (.int 5), .val (.int 4)] [(.int 5)]))) st58 ?_
  refine OD.go (B := (T58.setTop (mkF m 70 #[.val (.ref da), .val (.ref b15), .val (.ref b2), .val (.int 2), .val (.int 4), .val (.int 5), .val (.int 5)] []))) (fun t k => XS.istore X58.here hx rfl (hb hby d1_68) rfl (l' := #[.val (.ref da), .val (.ref b15), .val (.ref b2), .val (.int 2), .val (.int 4), .val (.int 5), .val (.int 5)]) rfl k) ?_
  refine OD.go (B := (T58.setTop (mkF m 71 #[.val (.ref da), .val (.ref b15), .val (.ref b2), .val (.int 2), .val (.int 4), .val (.int 5), .val (.int 5)] [(.ref da)]))) (fun t k => XS.aloadN X58.here hx rfl (hb hby d1_70) rfl rfl k) ?_
  refine OD.go (B := (T58.setTop (mkF m 72 #[.val (.ref da), .val (.ref b15), .val (.ref b2), .val (.int 2), .val (.int 4), .val (.int 5), .val (.int 5)] [(.ref b15), (.ref da)]))) (fun t k => XS.aloadN X58.here hx rfl (hb hby d1_71) rfl rfl k) ?_
  refine OD.go (B := (T58.setTop (mkF m 73 #[.val (.ref da), .val (.ref b15), .val (.ref b2), .val (.int 2), .val (.int 4), .val (.int 5), .val (.int 5)] [(.ref b2), (.ref b15), (.ref da)]))) (fun t k => XS.aloadN X58.here hx rfl (hb hby d1_72) rfl rfl k) ?_
  refine OD.go (B := (T58.setTop (mkF m 75 #[.val (.ref da), .val (.ref b15), .val (.ref b2), .val (.int 2), .val (.int 4), .val (.int 5), .val (.int 5)] [(.int 4), (.ref b2), (.ref b15), (.ref da)]))) (fun t k => XS.iload X58.here hx rfl (hb hby d1_73) rfl k) ?_
  refine OD.go (B := (T58.setTop (mkF m 77 #[.val (.ref da), .val (.ref b15), .val (.ref b2), .val (.int 2), .val (.int 4), .val (.int 5), .val (.int 5)] [(.int 5), (.int 4), (.ref b2), (.ref b15), (.ref da)]))) (fun t k => XS.iload X58.here hx rfl (hb hby d1_75) rfl k) ?_
  refine OD.go (B := (T58.setTop (mkF m 79 #[.val (.ref da), .val (.ref b15), .val (.ref b2), .val (.int 2), .val (.int 4), .val (.int 5), .val (.int 5)] [(.int 5), (.int 5), (.int 4), (.ref b2), (.ref b15), (.ref da)]))) (fun t k => XS.iload X58.here hx rfl (hb hby d1_77) rfl k) ?_
  have f59 := (f51.keep K52 (ninS (Nat.ne_of_lt (Nat.lt_of_lt_of_le D1.lt (Nat.le_of_eq g2.symm))) nin0))
  obtain ⟨_, _, ⟨T60, L60, k60, n60⟩, -, X60, ⟨Lc60, hQ60, l60, y60, z60⟩, st60⟩ := Jvm.LawKit.callS X58 hx (y := (⟨"com/example/topside/topside/DescendingOrder", "merge", "([D[I[IIII)V"⟩ : MethodName)) hown (mvT hZ (Wd17 hw)) (mvT hZ (Wd18 hw)) (mvT hZ (Wd3 hw)) (mvT hZ (Wd19 hw)) (by decide) (backOf (W := 0) (rmM l Z a0 hw [] da b15 b2 (4 : Int32) (5 : Int32) (5 : Int32) T52.heap n0 (Nat.le_trans (Nat.le_trans (Nat.le_trans (Nat.le_trans (Nat.le_trans (Nat.le_trans (Nat.le_trans (Nat.le_trans (Nat.le_trans (Nat.le_trans (Nat.le_trans Z0 E2.1) (Keep.of_wr W4).1) (Keep.of_wr W6).1) (Keep.of_wr W8).1) (Keep.of_wr W10).1) (Keep.of_wr W12).1) E15.1) K26.1) K34.1) K42.1) K52.1) k0 k15 k2 (5 : Int32) sv (own_m5_2 sv) (own_m5_3 sv) f59 f53 B52 (Nat.ne_of_lt (Nat.lt_of_lt_of_le D1.lt (Nat.le_of_eq g2.symm))) (Ne.symm (Nat.ne_of_lt (Nat.lt_of_lt_of_le (Nat.lt_of_lt_of_le (Nat.lt_of_lt_of_le (Nat.lt_of_lt_of_le (Nat.lt_of_lt_of_le (Nat.lt_of_lt_of_le V2.lt (Keep.of_wr W4).1) (Keep.of_wr W6).1) (Keep.of_wr W8).1) (Keep.of_wr W10).1) (Keep.of_wr W12).1) (Nat.le_of_eq g15.symm)))) (Nat.le_trans Z0 (Nat.le_of_eq g2.symm)) (by decide) (by decide) (by decide) (by decide) (own_m5_2_b sv)) hZ (Wd19 hw) (Wd3 hw) (by decide) (by decide)) (g := (mkF m 79 #[.val (.ref da), .val (.ref b15), .val (.ref b2), .val (.int 2), .val (.int 4), .val (.int 5), .val (.int 5)] [(.int 5), (.int 5), (.int 4), (.ref b2), (.ref b15), (.ref da)])) rfl (by rw [hml]; rfl) (argsL := [(.ref da), (.ref b15), (.ref b2), (.int 4), (.int 5), (.int 5)]) (rest := []) (lenOf pd1 rfl) rfl (by show 2 * 0 + _ ≤ _; exact Nat.le_of_eq rfl) (hb hby d1_79) (fun _ _ => ⟨rfl, e58, (Nat.le_of_ble_eq_true rfl), (Nat.le_of_ble_eq_true rfl)⟩)
  dsimp only [Pt.U, Pt.locs, Pt.cells, Pt.slots] at X60 l60 y60 z60 st60 hQ60
  subst l60 y60 z60
  obtain ⟨rfl, Nq60, K60, A60⟩ := hQ60
  have N60 := Fr.app N52 Nq60
  have B60 : Arv Z T60.heap b2 k2 .int 5 (own_rg (5 : Int32).toNatClampNeg (fun x => .int ((own_m5_4 sv) x))) (.int 0) := A60
  refine OD.go (B := (T60.setTop (mkF m 82 #[.val (.ref da), .val (.ref b15), .val (.ref b2), .val (.int 2), .val (.int 4), .val (.int 5), .val (.int 5)] []))) st60 ?_
  refine OD.go (B := (T60.setTop (mkF m 84 #[.val (.ref da), .val (.ref b15), .val (.ref b2), .val (.int 2), .val (.int 4), .val (.int 5), .val (.int 5)] [(.int 4)]))) (fun t k => XS.iload X60.here hx rfl (hb hby d1_82) rfl k) ?_
  refine OD.go (B := (T60.setTop (mkF m 85 #[.val (.ref da), .val (.ref b15), .val (.ref b2), .val (.int 2), .val (.int 4), .val (.int 5), .val (.int 5)] [(.int 2), (.int 4)]))) (fun t k => XS.iconst X60.here hx rfl (hb hby d1_84) k) ?_
  refine OD.go (B := (T60.setTop (mkF m 86 #[.val (.ref da), .val (.ref b15), .val (.ref b2), .val (.int 2), .val (.int 4), .val (.int 5), .val (.int 5)] [(.int 2), (.int 2), (.int 4)]))) (fun t k => XS.iloadN X60.here hx rfl (hb hby d1_85) rfl k) ?_
  refine OD.go (B := (T60.setTop (mkF m 87 #[.val (.ref da), .val (.ref b15), .val (.ref b2), .val (.int 2), .val (.int 4), .val (.int 5), .val (.int 5)] [(.int 4), (.int 4)]))) (fun t k => XS.imul X60.here hx rfl (hb hby d1_86) rfl k) ?_
  refine OD.go (B := (T60.setTop (mkF m 88 #[.val (.ref da), .val (.ref b15), .val (.ref b2), .val (.int 2), .val (.int 4), .val (.int 5), .val (.int 5)] [(.int 8)]))) (fun t k => XS.iadd X60.here hx rfl (hb hby d1_87) rfl k) ?_
  refine OD.go (B := (T60.setTop (mkF m 90 #[.val (.ref da), .val (.ref b15), .val (.ref b2), .val (.int 2), .val (.int 8), .val (.int 5), .val (.int 5)] []))) (fun t k => XS.istore X60.here hx rfl (hb hby d1_88) rfl (l' := #[.val (.ref da), .val (.ref b15), .val (.ref b2), .val (.int 2), .val (.int 8), .val (.int 5), .val (.int 5)]) rfl k) ?_
  refine OD.go (B := (T60.setTop (mkF m 39 #[.val (.ref da), .val (.ref b15), .val (.ref b2), .val (.int 2), .val (.int 8), .val (.int 5), .val (.int 5)] []))) (fun t k => XS.goto X60.here hx rfl (pc0 := 90) (pc' := 39) rfl (hb hby d1_90) (by decide) (by decide) k) ?_
  refine OD.go (B := (T60.setTop (mkF m 41 #[.val (.ref da), .val (.ref b15), .val (.ref b2), .val (.int 2), .val (.int 8), .val (.int 5), .val (.int 5)] [(.int 8)]))) (fun t k => XS.iload X60.here hx rfl (hb hby d1_39) rfl k) ?_
  refine OD.go (B := (T60.setTop (mkF m 42 #[.val (.ref da), .val (.ref b15), .val (.ref b2), .val (.int 2), .val (.int 8), .val (.int 5), .val (.int 5)] [(.ref b15), (.int 8)]))) (fun t k => XS.aloadN X60.here hx rfl (hb hby d1_41) rfl rfl k) ?_
  have f61 := (f53.keep K60 (ninS (Ne.symm (Nat.ne_of_lt (Nat.lt_of_lt_of_le (Nat.lt_of_lt_of_le (Nat.lt_of_lt_of_le (Nat.lt_of_lt_of_le (Nat.lt_of_lt_of_le (Nat.lt_of_lt_of_le V2.lt (Keep.of_wr W4).1) (Keep.of_wr W6).1) (Keep.of_wr W8).1) (Keep.of_wr W10).1) (Keep.of_wr W12).1) (Nat.le_of_eq g15.symm)))) nin0))
  obtain ⟨cl62, Ar62, hl62⟩ := own_len f61
  refine OD.go (B := (T60.setTop (mkF m 43 #[.val (.ref da), .val (.ref b15), .val (.ref b2), .val (.int 2), .val (.int 8), .val (.int 5), .val (.int 5)] [(.int 5), (.int 8)]))) (fun t k => X60.arraylength hx (by exact Ar62.1) (State.isArrayOf_alike hZ.alike Ar62.2.1) (g := (mkF m 42 #[.val (.ref da), .val (.ref b15), .val (.ref b2), .val (.int 2), .val (.int 8), .val (.int 5), .val (.int 5)] [(.ref b15), (.int 8)])) rfl rfl (hb hby d1_42) _ (by rw [hl62]; exact k)) ?_
  refine OD.go (B := (T60.setTop (mkF m 93 #[.val (.ref da), .val (.ref b15), .val (.ref b2), .val (.int 2), .val (.int 8), .val (.int 5), .val (.int 5)] []))) (fun t k => XS.icmpYes X60.here hx rfl (pc0 := 43) (pc' := 93) rfl (hb hby d1_43) rfl (flt (by decide : ¬ (8 : Int32) < (5 : Int32))).2.1 (by decide) (by decide) k) ?_
  refine OD.go (B := (T60.setTop (mkF m 94 #[.val (.ref da), .val (.ref b15), .val (.ref b2), .val (.int 2), .val (.int 8), .val (.int 5), .val (.int 5)] [(.ref b15)]))) (fun t k => XS.aloadN X60.here hx rfl (hb hby d1_93) rfl rfl k) ?_
  refine OD.go (B := (T60.setTop (mkF m 96 #[.val (.ref da), .val (.ref b15), .val (.ref b2), .val (.int 2), .val (.ref b15), .val (.int 5), .val (.int 5)] []))) (fun t k => XS.astore X60.here hx rfl (hb hby d1_94) rfl rfl (l' := #[.val (.ref da), .val (.ref b15), .val (.ref b2), .val (.int 2), .val (.ref b15), .val (.int 5), .val (.int 5)]) rfl k) ?_
  refine OD.go (B := (T60.setTop (mkF m 97 #[.val (.ref da), .val (.ref b15), .val (.ref b2), .val (.int 2), .val (.ref b15), .val (.int 5), .val (.int 5)] [(.ref b2)]))) (fun t k => XS.aloadN X60.here hx rfl (hb hby d1_96) rfl rfl k) ?_
  refine OD.go (B := (T60.setTop (mkF m 98 #[.val (.ref da), .val (.ref b2), .val (.ref b2), .val (.int 2), .val (.ref b15), .val (.int 5), .val (.int 5)] []))) (fun t k => XS.astoreN X60.here hx rfl (hb hby d1_97) rfl rfl (l' := #[.val (.ref da), .val (.ref b2), .val (.ref b2), .val (.int 2), .val (.ref b15), .val (.int 5), .val (.int 5)]) rfl k) ?_
  refine OD.go (B := (T60.setTop (mkF m 100 #[.val (.ref da), .val (.ref b2), .val (.ref b2), .val (.int 2), .val (.ref b15), .val (.int 5), .val (.int 5)] [(.ref b15)]))) (fun t k => XS.aload X60.here hx rfl (hb hby d1_98) rfl rfl k) ?_
  refine OD.go (B := (T60.setTop (mkF m 101 #[.val (.ref da), .val (.ref b2), .val (.ref b15), .val (.int 2), .val (.ref b15), .val (.int 5), .val (.int 5)] []))) (fun t k => XS.astoreN X60.here hx rfl (hb hby d1_100) rfl rfl (l' := #[.val (.ref da), .val (.ref b2), .val (.ref b15), .val (.int 2), .val (.ref b15), .val (.int 5), .val (.int 5)]) rfl k) ?_
  refine OD.go (B := (T60.setTop (mkF m 102 #[.val (.ref da), .val (.ref b2), .val (.ref b15), .val (.int 2), .val (.ref b15), .val (.int 5), .val (.int 5)] [(.int 2)]))) (fun t k => XS.iloadN X60.here hx rfl (hb hby d1_101) rfl k) ?_
  refine OD.go (B := (T60.setTop (mkF m 103 #[.val (.ref da), .val (.ref b2), .val (.ref b15), .val (.int 2), .val (.ref b15), .val (.int 5), .val (.int 5)] [(.int 2), (.int 2)]))) (fun t k => XS.iconst X60.here hx rfl (hb hby d1_102) k) ?_
  refine OD.go (B := (T60.setTop (mkF m 104 #[.val (.ref da), .val (.ref b2), .val (.ref b15), .val (.int 2), .val (.ref b15), .val (.int 5), .val (.int 5)] [(.int 4)]))) (fun t k => XS.imul X60.here hx rfl (hb hby d1_103) rfl k) ?_
  refine OD.go (B := (T60.setTop (mkF m 105 #[.val (.ref da), .val (.ref b2), .val (.ref b15), .val (.int 4), .val (.ref b15), .val (.int 5), .val (.int 5)] []))) (fun t k => XS.istoreN X60.here hx rfl (hb hby d1_104) rfl (l' := #[.val (.ref da), .val (.ref b2), .val (.ref b15), .val (.int 4), .val (.ref b15), .val (.int 5), .val (.int 5)]) rfl k) ?_
  refine OD.go (B := (T60.setTop (mkF m 30 #[.val (.ref da), .val (.ref b2), .val (.ref b15), .val (.int 4), .val (.ref b15), .val (.int 5), .val (.int 5)] []))) (fun t k => XS.goto X60.here hx rfl (pc0 := 105) (pc' := 30) rfl (hb hby d1_105) (by decide) (by decide) k) ?_
  refine OD.go (B := (T60.setTop (mkF m 31 #[.val (.ref da), .val (.ref b2), .val (.ref b15), .val (.int 4), .val (.ref b15), .val (.int 5), .val (.int 5)] [(.int 4)]))) (fun t k => XS.iloadN X60.here hx rfl (hb hby d1_30) rfl k) ?_
  refine OD.go (B := (T60.setTop (mkF m 32 #[.val (.ref da), .val (.ref b2), .val (.ref b15), .val (.int 4), .val (.ref b15), .val (.int 5), .val (.int 5)] [(.ref b2), (.int 4)]))) (fun t k => XS.aloadN X60.here hx rfl (hb hby d1_31) rfl rfl k) ?_
  obtain ⟨cl63, Ar63, hl63⟩ := own_len B60
  refine OD.go (B := (T60.setTop (mkF m 33 #[.val (.ref da), .val (.ref b2), .val (.ref b15), .val (.int 4), .val (.ref b15), .val (.int 5), .val (.int 5)] [(.int 5), (.int 4)]))) (fun t k => X60.arraylength hx (by exact Ar63.1) (State.isArrayOf_alike hZ.alike Ar63.2.1) (g := (mkF m 32 #[.val (.ref da), .val (.ref b2), .val (.ref b15), .val (.int 4), .val (.ref b15), .val (.int 5), .val (.int 5)] [(.ref b2), (.int 4)])) rfl rfl (hb hby d1_32) _ (by rw [hl63]; exact k)) ?_
  refine OD.go (B := (T60.setTop (mkF m 36 #[.val (.ref da), .val (.ref b2), .val (.ref b15), .val (.int 4), .val (.ref b15), .val (.int 5), .val (.int 5)] []))) (fun t k => XS.icmpNo X60.here hx rfl (hb hby d1_33) rfl (tlt (by decide : (4 : Int32) < (5 : Int32))).2.1 k) ?_
  refine OD.go (B := (T60.setTop (mkF m 37 #[.val (.ref da), .val (.ref b2), .val (.ref b15), .val (.int 4), .val (.ref b15), .val (.int 5), .val (.int 5)] [(.int 0)]))) (fun t k => XS.iconst X60.here hx rfl (hb hby d1_36) k) ?_
  refine OD.go (B := (T60.setTop (mkF m 39 #[.val (.ref da), .val (.ref b2), .val (.ref b15), .val (.int 4), .val (.int 0), .val (.int 5), .val (.int 5)] []))) (fun t k => XS.istore X60.here hx rfl (hb hby d1_37) rfl (l' := #[.val (.ref da), .val (.ref b2), .val (.ref b15), .val (.int 4), .val (.int 0), .val (.int 5), .val (.int 5)]) rfl k) ?_
  refine OD.go (B := (T60.setTop (mkF m 41 #[.val (.ref da), .val (.ref b2), .val (.ref b15), .val (.int 4), .val (.int 0), .val (.int 5), .val (.int 5)] [(.int 0)]))) (fun t k => XS.iload X60.here hx rfl (hb hby d1_39) rfl k) ?_
  refine OD.go (B := (T60.setTop (mkF m 42 #[.val (.ref da), .val (.ref b2), .val (.ref b15), .val (.int 4), .val (.int 0), .val (.int 5), .val (.int 5)] [(.ref b2), (.int 0)]))) (fun t k => XS.aloadN X60.here hx rfl (hb hby d1_41) rfl rfl k) ?_
  obtain ⟨cl64, Ar64, hl64⟩ := own_len B60
  refine OD.go (B := (T60.setTop (mkF m 43 #[.val (.ref da), .val (.ref b2), .val (.ref b15), .val (.int 4), .val (.int 0), .val (.int 5), .val (.int 5)] [(.int 5), (.int 0)]))) (fun t k => X60.arraylength hx (by exact Ar64.1) (State.isArrayOf_alike hZ.alike Ar64.2.1) (g := (mkF m 42 #[.val (.ref da), .val (.ref b2), .val (.ref b15), .val (.int 4), .val (.int 0), .val (.int 5), .val (.int 5)] [(.ref b2), (.int 0)])) rfl rfl (hb hby d1_42) _ (by rw [hl64]; exact k)) ?_
  refine OD.go (B := (T60.setTop (mkF m 46 #[.val (.ref da), .val (.ref b2), .val (.ref b15), .val (.int 4), .val (.int 0), .val (.int 5), .val (.int 5)] []))) (fun t k => XS.icmpNo X60.here hx rfl (hb hby d1_43) rfl (tlt (by decide : (0 : Int32) < (5 : Int32))).2.1 k) ?_
  refine OD.go (B := (T60.setTop (mkF m 48 #[.val (.ref da), .val (.ref b2), .val (.ref b15), .val (.int 4), .val (.int 0), .val (.int 5), .val (.int 5)] [(.int 0)]))) (fun t k => XS.iload X60.here hx rfl (hb hby d1_46) rfl k) ?_
  refine OD.go (B := (T60.setTop (mkF m 49 #[.val (.ref da), .val (.ref b2), .val (.ref b15), .val (.int 4), .val (.int 0), .val (.int 5), .val (.int 5)] [(.int 4), (.int 0)]))) (fun t k => XS.iloadN X60.here hx rfl (hb hby d1_48) rfl k) ?_
  refine OD.go (B := (T60.setTop (mkF m 50 #[.val (.ref da), .val (.ref b2), .val (.ref b15), .val (.int 4), .val (.int 0), .val (.int 5), .val (.int 5)] [(.int 4)]))) (fun t k => XS.iadd X60.here hx rfl (hb hby d1_49) rfl k) ?_
  refine OD.go (B := (T60.setTop (mkF m 51 #[.val (.ref da), .val (.ref b2), .val (.ref b15), .val (.int 4), .val (.int 0), .val (.int 5), .val (.int 5)] [(.ref b2), (.int 4)]))) (fun t k => XS.aloadN X60.here hx rfl (hb hby d1_50) rfl rfl k) ?_
  obtain ⟨cl65, Ar65, hl65⟩ := own_len B60
  refine OD.go (B := (T60.setTop (mkF m 52 #[.val (.ref da), .val (.ref b2), .val (.ref b15), .val (.int 4), .val (.int 0), .val (.int 5), .val (.int 5)] [(.int 5), (.int 4)]))) (fun t k => X60.arraylength hx (by exact Ar65.1) (State.isArrayOf_alike hZ.alike Ar65.2.1) (g := (mkF m 51 #[.val (.ref da), .val (.ref b2), .val (.ref b15), .val (.int 4), .val (.int 0), .val (.int 5), .val (.int 5)] [(.ref b2), (.int 4)])) rfl rfl (hb hby d1_51) _ (by rw [hl65]; exact k)) ?_
  obtain ⟨_, _, ⟨T66, L66, k66, n66⟩, -, X66, ⟨Lc66, hQ66, l66, y66, z66⟩, st66⟩ := Jvm.LawKit.callS X60 hx (y := (⟨"java/lang/Math", "min", "(II)I"⟩ : MethodName)) hown (mvT hZ (Wd13 hw)) (mvT hZ (Wd14 hw)) (mvT hZ (Wd15 hw)) (mvT hZ (Wd16 hw)) (by decide) (backOf (W := 0) (rmMn4_5 l Z a0 hw [] T60.heap) hZ (Wd16 hw) (Wd15 hw) (by decide) (by decide)) (g := (mkF m 52 #[.val (.ref da), .val (.ref b2), .val (.ref b15), .val (.int 4), .val (.int 0), .val (.int 5), .val (.int 5)] [(.int 5), (.int 4)])) rfl (by rw [hml]; rfl) (argsL := [(.int 4), (.int 5)]) (rest := []) (lenOf pd0 rfl) rfl (by show 2 * 0 + _ ≤ _; exact Nat.le_of_eq rfl) (hb hby d1_52) (fun _ _ => ⟨rfl, rfl, (Nat.le_of_ble_eq_true rfl), (Nat.le_of_ble_eq_true rfl)⟩)
  dsimp only [Pt.U, Pt.locs, Pt.cells, Pt.slots] at X66 l66 y66 z66 st66 hQ66
  subst l66 y66 z66
  obtain ⟨rfl, rfl, e66⟩ := hQ66
  try rw [List.append_nil] at X66
  refine OD.go (B := (T66.setTop (mkF m 55 #[.val (.ref da), .val (.ref b2), .val (.ref b15), .val (.int 4), .val (.int 0), .val (.int 5), .val (.int 5)] [(.int 4)]))) st66 ?_
  refine OD.go (B := (T66.setTop (mkF m 57 #[.val (.ref da), .val (.ref b2), .val (.ref b15), .val (.int 4), .val (.int 0), .val (.int 4), .val (.int 5)] []))) (fun t k => XS.istore X66.here hx rfl (hb hby d1_55) rfl (l' := #[.val (.ref da), .val (.ref b2), .val (.ref b15), .val (.int 4), .val (.int 0), .val (.int 4), .val (.int 5)]) rfl k) ?_
  refine OD.go (B := (T66.setTop (mkF m 59 #[.val (.ref da), .val (.ref b2), .val (.ref b15), .val (.int 4), .val (.int 0), .val (.int 4), .val (.int 5)] [(.int 0)]))) (fun t k => XS.iload X66.here hx rfl (hb hby d1_57) rfl k) ?_
  refine OD.go (B := (T66.setTop (mkF m 60 #[.val (.ref da), .val (.ref b2), .val (.ref b15), .val (.int 4), .val (.int 0), .val (.int 4), .val (.int 5)] [(.int 2), (.int 0)]))) (fun t k => XS.iconst X66.here hx rfl (hb hby d1_59) k) ?_
  refine OD.go (B := (T66.setTop (mkF m 61 #[.val (.ref da), .val (.ref b2), .val (.ref b15), .val (.int 4), .val (.int 0), .val (.int 4), .val (.int 5)] [(.int 4), (.int 2), (.int 0)]))) (fun t k => XS.iloadN X66.here hx rfl (hb hby d1_60) rfl k) ?_
  refine OD.go (B := (T66.setTop (mkF m 62 #[.val (.ref da), .val (.ref b2), .val (.ref b15), .val (.int 4), .val (.int 0), .val (.int 4), .val (.int 5)] [(.int 8), (.int 0)]))) (fun t k => XS.imul X66.here hx rfl (hb hby d1_61) rfl k) ?_
  refine OD.go (B := (T66.setTop (mkF m 63 #[.val (.ref da), .val (.ref b2), .val (.ref b15), .val (.int 4), .val (.int 0), .val (.int 4), .val (.int 5)] [(.int 8)]))) (fun t k => XS.iadd X66.here hx rfl (hb hby d1_62) rfl k) ?_
  refine OD.go (B := (T66.setTop (mkF m 64 #[.val (.ref da), .val (.ref b2), .val (.ref b15), .val (.int 4), .val (.int 0), .val (.int 4), .val (.int 5)] [(.ref b2), (.int 8)]))) (fun t k => XS.aloadN X66.here hx rfl (hb hby d1_63) rfl rfl k) ?_
  obtain ⟨cl67, Ar67, hl67⟩ := own_len B60
  refine OD.go (B := (T66.setTop (mkF m 65 #[.val (.ref da), .val (.ref b2), .val (.ref b15), .val (.int 4), .val (.int 0), .val (.int 4), .val (.int 5)] [(.int 5), (.int 8)]))) (fun t k => X66.arraylength hx (by rw [e66]; exact Ar67.1) (State.isArrayOf_alike hZ.alike Ar67.2.1) (g := (mkF m 64 #[.val (.ref da), .val (.ref b2), .val (.ref b15), .val (.int 4), .val (.int 0), .val (.int 4), .val (.int 5)] [(.ref b2), (.int 8)])) rfl rfl (hb hby d1_64) _ (by rw [hl67]; exact k)) ?_
  obtain ⟨_, _, ⟨T68, L68, k68, n68⟩, -, X68, ⟨Lc68, hQ68, l68, y68, z68⟩, st68⟩ := Jvm.LawKit.callS X66 hx (y := (⟨"java/lang/Math", "min", "(II)I"⟩ : MethodName)) hown (mvT hZ (Wd13 hw)) (mvT hZ (Wd14 hw)) (mvT hZ (Wd15 hw)) (mvT hZ (Wd16 hw)) (by decide) (backOf (W := 0) (rmMn8_5 l Z a0 hw [] T60.heap) hZ (Wd16 hw) (Wd15 hw) (by decide) (by decide)) (g := (mkF m 65 #[.val (.ref da), .val (.ref b2), .val (.ref b15), .val (.int 4), .val (.int 0), .val (.int 4), .val (.int 5)] [(.int 5), (.int 8)])) rfl (by rw [hml]; rfl) (argsL := [(.int 8), (.int 5)]) (rest := []) (lenOf pd0 rfl) rfl (by show 2 * 0 + _ ≤ _; exact Nat.le_of_eq rfl) (hb hby d1_65) (fun _ _ => ⟨rfl, e66, (Nat.le_of_ble_eq_true rfl), (Nat.le_of_ble_eq_true rfl)⟩)
  dsimp only [Pt.U, Pt.locs, Pt.cells, Pt.slots] at X68 l68 y68 z68 st68 hQ68
  subst l68 y68 z68
  obtain ⟨rfl, rfl, e68⟩ := hQ68
  try rw [List.append_nil] at X68
  refine OD.go (B := (T68.setTop (mkF m 68 #[.val (.ref da), .val (.ref b2), .val (.ref b15), .val (.int 4), .val (.int 0), .val (.int 4), .val (.int 5)] [(.int 5)]))) st68 ?_
  refine OD.go (B := (T68.setTop (mkF m 70 #[.val (.ref da), .val (.ref b2), .val (.ref b15), .val (.int 4), .val (.int 0), .val (.int 4), .val (.int 5)] []))) (fun t k => XS.istore X68.here hx rfl (hb hby d1_68) rfl (l' := #[.val (.ref da), .val (.ref b2), .val (.ref b15), .val (.int 4), .val (.int 0), .val (.int 4), .val (.int 5)]) rfl k) ?_
  refine OD.go (B := (T68.setTop (mkF m 71 #[.val (.ref da), .val (.ref b2), .val (.ref b15), .val (.int 4), .val (.int 0), .val (.int 4), .val (.int 5)] [(.ref da)]))) (fun t k => XS.aloadN X68.here hx rfl (hb hby d1_70) rfl rfl k) ?_
  refine OD.go (B := (T68.setTop (mkF m 72 #[.val (.ref da), .val (.ref b2), .val (.ref b15), .val (.int 4), .val (.int 0), .val (.int 4), .val (.int 5)] [(.ref b2), (.ref da)]))) (fun t k => XS.aloadN X68.here hx rfl (hb hby d1_71) rfl rfl k) ?_
  refine OD.go (B := (T68.setTop (mkF m 73 #[.val (.ref da), .val (.ref b2), .val (.ref b15), .val (.int 4), .val (.int 0), .val (.int 4), .val (.int 5)] [(.ref b15), (.ref b2), (.ref da)]))) (fun t k => XS.aloadN X68.here hx rfl (hb hby d1_72) rfl rfl k) ?_
  refine OD.go (B := (T68.setTop (mkF m 75 #[.val (.ref da), .val (.ref b2), .val (.ref b15), .val (.int 4), .val (.int 0), .val (.int 4), .val (.int 5)] [(.int 0), (.ref b15), (.ref b2), (.ref da)]))) (fun t k => XS.iload X68.here hx rfl (hb hby d1_73) rfl k) ?_
  refine OD.go (B := (T68.setTop (mkF m 77 #[.val (.ref da), .val (.ref b2), .val (.ref b15), .val (.int 4), .val (.int 0), .val (.int 4), .val (.int 5)] [(.int 4), (.int 0), (.ref b15), (.ref b2), (.ref da)]))) (fun t k => XS.iload X68.here hx rfl (hb hby d1_75) rfl k) ?_
  refine OD.go (B := (T68.setTop (mkF m 79 #[.val (.ref da), .val (.ref b2), .val (.ref b15), .val (.int 4), .val (.int 0), .val (.int 4), .val (.int 5)] [(.int 5), (.int 4), (.int 0), (.ref b15), (.ref b2), (.ref da)]))) (fun t k => XS.iload X68.here hx rfl (hb hby d1_77) rfl k) ?_
  have f69 := (f59.keep K60 (ninS (Nat.ne_of_lt (Nat.lt_of_lt_of_le D1.lt (Nat.le_of_eq g2.symm))) nin0))
  obtain ⟨_, _, ⟨T70, L70, k70, n70⟩, -, X70, ⟨Lc70, hQ70, l70, y70, z70⟩, st70⟩ := Jvm.LawKit.callS X68 hx (y := (⟨"com/example/topside/topside/DescendingOrder", "merge", "([D[I[IIII)V"⟩ : MethodName)) hown (mvT hZ (Wd17 hw)) (mvT hZ (Wd18 hw)) (mvT hZ (Wd3 hw)) (mvT hZ (Wd19 hw)) (by decide) (backOf (W := 0) (rmM l Z a0 hw [] da b2 b15 (0 : Int32) (4 : Int32) (5 : Int32) T60.heap n0 (Nat.le_trans (Nat.le_trans (Nat.le_trans (Nat.le_trans (Nat.le_trans (Nat.le_trans (Nat.le_trans (Nat.le_trans (Nat.le_trans (Nat.le_trans (Nat.le_trans (Nat.le_trans Z0 E2.1) (Keep.of_wr W4).1) (Keep.of_wr W6).1) (Keep.of_wr W8).1) (Keep.of_wr W10).1) (Keep.of_wr W12).1) E15.1) K26.1) K34.1) K42.1) K52.1) K60.1) k0 k2 k15 (5 : Int32) sv (own_m5_4 sv) (own_m5_2 sv) f69 B60 f61 (Nat.ne_of_lt (Nat.lt_of_lt_of_le (Nat.lt_of_lt_of_le (Nat.lt_of_lt_of_le (Nat.lt_of_lt_of_le (Nat.lt_of_lt_of_le (Nat.lt_of_lt_of_le (Nat.lt_of_lt_of_le D1.lt E2.1) (Keep.of_wr W4).1) (Keep.of_wr W6).1) (Keep.of_wr W8).1) (Keep.of_wr W10).1) (Keep.of_wr W12).1) (Nat.le_of_eq g15.symm))) (Nat.ne_of_lt (Nat.lt_of_lt_of_le (Nat.lt_of_lt_of_le (Nat.lt_of_lt_of_le (Nat.lt_of_lt_of_le (Nat.lt_of_lt_of_le (Nat.lt_of_lt_of_le V2.lt (Keep.of_wr W4).1) (Keep.of_wr W6).1) (Keep.of_wr W8).1) (Keep.of_wr W10).1) (Keep.of_wr W12).1) (Nat.le_of_eq g15.symm))) (Nat.le_trans (Nat.le_trans (Nat.le_trans (Nat.le_trans (Nat.le_trans (Nat.le_trans (Nat.le_trans Z0 E2.1) (Keep.of_wr W4).1) (Keep.of_wr W6).1) (Keep.of_wr W8).1) (Keep.of_wr W10).1) (Keep.of_wr W12).1) (Nat.le_of_eq g15.symm)) (by decide) (by decide) (by decide) (by decide) (own_m5_4_b sv)) hZ (Wd19 hw) (Wd3 hw) (by decide) (by decide)) (g := (mkF m 79 #[.val (.ref da), .val (.ref b2), .val (.ref b15), .val (.int 4), .val (.int 0), .val (.int 4), .val (.int 5)] [(.int 5), (.int 4), (.int 0), (.ref b15), (.ref b2), (.ref da)])) rfl (by rw [hml]; rfl) (argsL := [(.ref da), (.ref b2), (.ref b15), (.int 0), (.int 4), (.int 5)]) (rest := []) (lenOf pd1 rfl) rfl (by show 2 * 0 + _ ≤ _; exact Nat.le_of_eq rfl) (hb hby d1_79) (fun _ _ => ⟨rfl, e68, (Nat.le_of_ble_eq_true rfl), (Nat.le_of_ble_eq_true rfl)⟩)
  dsimp only [Pt.U, Pt.locs, Pt.cells, Pt.slots] at X70 l70 y70 z70 st70 hQ70
  subst l70 y70 z70
  obtain ⟨rfl, Nq70, K70, A70⟩ := hQ70
  have N70 := Fr.app N60 Nq70
  have B70 : Arv Z T70.heap b15 k15 .int 5 (own_rg (5 : Int32).toNatClampNeg (fun x => .int ((own_m5_5 sv) x))) (.int 0) := A70
  refine OD.go (B := (T70.setTop (mkF m 82 #[.val (.ref da), .val (.ref b2), .val (.ref b15), .val (.int 4), .val (.int 0), .val (.int 4), .val (.int 5)] []))) st70 ?_
  refine OD.go (B := (T70.setTop (mkF m 84 #[.val (.ref da), .val (.ref b2), .val (.ref b15), .val (.int 4), .val (.int 0), .val (.int 4), .val (.int 5)] [(.int 0)]))) (fun t k => XS.iload X70.here hx rfl (hb hby d1_82) rfl k) ?_
  refine OD.go (B := (T70.setTop (mkF m 85 #[.val (.ref da), .val (.ref b2), .val (.ref b15), .val (.int 4), .val (.int 0), .val (.int 4), .val (.int 5)] [(.int 2), (.int 0)]))) (fun t k => XS.iconst X70.here hx rfl (hb hby d1_84) k) ?_
  refine OD.go (B := (T70.setTop (mkF m 86 #[.val (.ref da), .val (.ref b2), .val (.ref b15), .val (.int 4), .val (.int 0), .val (.int 4), .val (.int 5)] [(.int 4), (.int 2), (.int 0)]))) (fun t k => XS.iloadN X70.here hx rfl (hb hby d1_85) rfl k) ?_
  refine OD.go (B := (T70.setTop (mkF m 87 #[.val (.ref da), .val (.ref b2), .val (.ref b15), .val (.int 4), .val (.int 0), .val (.int 4), .val (.int 5)] [(.int 8), (.int 0)]))) (fun t k => XS.imul X70.here hx rfl (hb hby d1_86) rfl k) ?_
  refine OD.go (B := (T70.setTop (mkF m 88 #[.val (.ref da), .val (.ref b2), .val (.ref b15), .val (.int 4), .val (.int 0), .val (.int 4), .val (.int 5)] [(.int 8)]))) (fun t k => XS.iadd X70.here hx rfl (hb hby d1_87) rfl k) ?_
  refine OD.go (B := (T70.setTop (mkF m 90 #[.val (.ref da), .val (.ref b2), .val (.ref b15), .val (.int 4), .val (.int 8), .val (.int 4), .val (.int 5)] []))) (fun t k => XS.istore X70.here hx rfl (hb hby d1_88) rfl (l' := #[.val (.ref da), .val (.ref b2), .val (.ref b15), .val (.int 4), .val (.int 8), .val (.int 4), .val (.int 5)]) rfl k) ?_
  refine OD.go (B := (T70.setTop (mkF m 39 #[.val (.ref da), .val (.ref b2), .val (.ref b15), .val (.int 4), .val (.int 8), .val (.int 4), .val (.int 5)] []))) (fun t k => XS.goto X70.here hx rfl (pc0 := 90) (pc' := 39) rfl (hb hby d1_90) (by decide) (by decide) k) ?_
  refine OD.go (B := (T70.setTop (mkF m 41 #[.val (.ref da), .val (.ref b2), .val (.ref b15), .val (.int 4), .val (.int 8), .val (.int 4), .val (.int 5)] [(.int 8)]))) (fun t k => XS.iload X70.here hx rfl (hb hby d1_39) rfl k) ?_
  refine OD.go (B := (T70.setTop (mkF m 42 #[.val (.ref da), .val (.ref b2), .val (.ref b15), .val (.int 4), .val (.int 8), .val (.int 4), .val (.int 5)] [(.ref b2), (.int 8)]))) (fun t k => XS.aloadN X70.here hx rfl (hb hby d1_41) rfl rfl k) ?_
  have f71 := (B60.keep K70 (ninS (Nat.ne_of_lt (Nat.lt_of_lt_of_le (Nat.lt_of_lt_of_le (Nat.lt_of_lt_of_le (Nat.lt_of_lt_of_le (Nat.lt_of_lt_of_le (Nat.lt_of_lt_of_le V2.lt (Keep.of_wr W4).1) (Keep.of_wr W6).1) (Keep.of_wr W8).1) (Keep.of_wr W10).1) (Keep.of_wr W12).1) (Nat.le_of_eq g15.symm))) nin0))
  obtain ⟨cl72, Ar72, hl72⟩ := own_len f71
  refine OD.go (B := (T70.setTop (mkF m 43 #[.val (.ref da), .val (.ref b2), .val (.ref b15), .val (.int 4), .val (.int 8), .val (.int 4), .val (.int 5)] [(.int 5), (.int 8)]))) (fun t k => X70.arraylength hx (by exact Ar72.1) (State.isArrayOf_alike hZ.alike Ar72.2.1) (g := (mkF m 42 #[.val (.ref da), .val (.ref b2), .val (.ref b15), .val (.int 4), .val (.int 8), .val (.int 4), .val (.int 5)] [(.ref b2), (.int 8)])) rfl rfl (hb hby d1_42) _ (by rw [hl72]; exact k)) ?_
  refine OD.go (B := (T70.setTop (mkF m 93 #[.val (.ref da), .val (.ref b2), .val (.ref b15), .val (.int 4), .val (.int 8), .val (.int 4), .val (.int 5)] []))) (fun t k => XS.icmpYes X70.here hx rfl (pc0 := 43) (pc' := 93) rfl (hb hby d1_43) rfl (flt (by decide : ¬ (8 : Int32) < (5 : Int32))).2.1 (by decide) (by decide) k) ?_
  refine OD.go (B := (T70.setTop (mkF m 94 #[.val (.ref da), .val (.ref b2), .val (.ref b15), .val (.int 4), .val (.int 8), .val (.int 4), .val (.int 5)] [(.ref b2)]))) (fun t k => XS.aloadN X70.here hx rfl (hb hby d1_93) rfl rfl k) ?_
  refine OD.go (B := (T70.setTop (mkF m 96 #[.val (.ref da), .val (.ref b2), .val (.ref b15), .val (.int 4), .val (.ref b2), .val (.int 4), .val (.int 5)] []))) (fun t k => XS.astore X70.here hx rfl (hb hby d1_94) rfl rfl (l' := #[.val (.ref da), .val (.ref b2), .val (.ref b15), .val (.int 4), .val (.ref b2), .val (.int 4), .val (.int 5)]) rfl k) ?_
  refine OD.go (B := (T70.setTop (mkF m 97 #[.val (.ref da), .val (.ref b2), .val (.ref b15), .val (.int 4), .val (.ref b2), .val (.int 4), .val (.int 5)] [(.ref b15)]))) (fun t k => XS.aloadN X70.here hx rfl (hb hby d1_96) rfl rfl k) ?_
  refine OD.go (B := (T70.setTop (mkF m 98 #[.val (.ref da), .val (.ref b15), .val (.ref b15), .val (.int 4), .val (.ref b2), .val (.int 4), .val (.int 5)] []))) (fun t k => XS.astoreN X70.here hx rfl (hb hby d1_97) rfl rfl (l' := #[.val (.ref da), .val (.ref b15), .val (.ref b15), .val (.int 4), .val (.ref b2), .val (.int 4), .val (.int 5)]) rfl k) ?_
  refine OD.go (B := (T70.setTop (mkF m 100 #[.val (.ref da), .val (.ref b15), .val (.ref b15), .val (.int 4), .val (.ref b2), .val (.int 4), .val (.int 5)] [(.ref b2)]))) (fun t k => XS.aload X70.here hx rfl (hb hby d1_98) rfl rfl k) ?_
  refine OD.go (B := (T70.setTop (mkF m 101 #[.val (.ref da), .val (.ref b15), .val (.ref b2), .val (.int 4), .val (.ref b2), .val (.int 4), .val (.int 5)] []))) (fun t k => XS.astoreN X70.here hx rfl (hb hby d1_100) rfl rfl (l' := #[.val (.ref da), .val (.ref b15), .val (.ref b2), .val (.int 4), .val (.ref b2), .val (.int 4), .val (.int 5)]) rfl k) ?_
  refine OD.go (B := (T70.setTop (mkF m 102 #[.val (.ref da), .val (.ref b15), .val (.ref b2), .val (.int 4), .val (.ref b2), .val (.int 4), .val (.int 5)] [(.int 4)]))) (fun t k => XS.iloadN X70.here hx rfl (hb hby d1_101) rfl k) ?_
  refine OD.go (B := (T70.setTop (mkF m 103 #[.val (.ref da), .val (.ref b15), .val (.ref b2), .val (.int 4), .val (.ref b2), .val (.int 4), .val (.int 5)] [(.int 2), (.int 4)]))) (fun t k => XS.iconst X70.here hx rfl (hb hby d1_102) k) ?_
  refine OD.go (B := (T70.setTop (mkF m 104 #[.val (.ref da), .val (.ref b15), .val (.ref b2), .val (.int 4), .val (.ref b2), .val (.int 4), .val (.int 5)] [(.int 8)]))) (fun t k => XS.imul X70.here hx rfl (hb hby d1_103) rfl k) ?_
  refine OD.go (B := (T70.setTop (mkF m 105 #[.val (.ref da), .val (.ref b15), .val (.ref b2), .val (.int 8), .val (.ref b2), .val (.int 4), .val (.int 5)] []))) (fun t k => XS.istoreN X70.here hx rfl (hb hby d1_104) rfl (l' := #[.val (.ref da), .val (.ref b15), .val (.ref b2), .val (.int 8), .val (.ref b2), .val (.int 4), .val (.int 5)]) rfl k) ?_
  refine OD.go (B := (T70.setTop (mkF m 30 #[.val (.ref da), .val (.ref b15), .val (.ref b2), .val (.int 8), .val (.ref b2), .val (.int 4), .val (.int 5)] []))) (fun t k => XS.goto X70.here hx rfl (pc0 := 105) (pc' := 30) rfl (hb hby d1_105) (by decide) (by decide) k) ?_
  refine OD.go (B := (T70.setTop (mkF m 31 #[.val (.ref da), .val (.ref b15), .val (.ref b2), .val (.int 8), .val (.ref b2), .val (.int 4), .val (.int 5)] [(.int 8)]))) (fun t k => XS.iloadN X70.here hx rfl (hb hby d1_30) rfl k) ?_
  refine OD.go (B := (T70.setTop (mkF m 32 #[.val (.ref da), .val (.ref b15), .val (.ref b2), .val (.int 8), .val (.ref b2), .val (.int 4), .val (.int 5)] [(.ref b15), (.int 8)]))) (fun t k => XS.aloadN X70.here hx rfl (hb hby d1_31) rfl rfl k) ?_
  obtain ⟨cl73, Ar73, hl73⟩ := own_len B70
  refine OD.go (B := (T70.setTop (mkF m 33 #[.val (.ref da), .val (.ref b15), .val (.ref b2), .val (.int 8), .val (.ref b2), .val (.int 4), .val (.int 5)] [(.int 5), (.int 8)]))) (fun t k => X70.arraylength hx (by exact Ar73.1) (State.isArrayOf_alike hZ.alike Ar73.2.1) (g := (mkF m 32 #[.val (.ref da), .val (.ref b15), .val (.ref b2), .val (.int 8), .val (.ref b2), .val (.int 4), .val (.int 5)] [(.ref b15), (.int 8)])) rfl rfl (hb hby d1_32) _ (by rw [hl73]; exact k)) ?_
  refine OD.go (B := (T70.setTop (mkF m 108 #[.val (.ref da), .val (.ref b15), .val (.ref b2), .val (.int 8), .val (.ref b2), .val (.int 4), .val (.int 5)] []))) (fun t k => XS.icmpYes X70.here hx rfl (pc0 := 33) (pc' := 108) rfl (hb hby d1_33) rfl (flt (by decide : ¬ (8 : Int32) < (5 : Int32))).2.1 (by decide) (by decide) k) ?_
  refine OD.go (B := (T70.setTop (mkF m 109 #[.val (.ref da), .val (.ref b15), .val (.ref b2), .val (.int 8), .val (.ref b2), .val (.int 4), .val (.int 5)] [(.ref b15)]))) (fun t k => XS.aloadN X70.here hx rfl (hb hby d1_108) rfl rfl k) ?_
  exact OD.ret X70 hx hlk (t := (.array .int)) Bd.returns rfl (Or.inr (Or.inr (Or.inr (Or.inr ⟨rfl, rfl, rfl⟩)))) (hb hby d1_109) (Nat.le_of_ble_eq_true rfl) (Nat.le_of_ble_eq_true rfl) ⟨_, _, rfl, N70, by exact ((((((((((((((Keep.refl h0 []).ext E2).wr W4 (Or.inr (Nat.le_trans (Nat.le_refl _) (Nat.le_of_eq g2.symm)))).wr W6 (Or.inr (Nat.le_trans (Nat.le_refl _) (Nat.le_of_eq g2.symm)))).wr W8 (Or.inr (Nat.le_trans (Nat.le_refl _) (Nat.le_of_eq g2.symm)))).wr W10 (Or.inr (Nat.le_trans (Nat.le_refl _) (Nat.le_of_eq g2.symm)))).wr W12 (Or.inr (Nat.le_trans (Nat.le_refl _) (Nat.le_of_eq g2.symm)))).ext E15).trans K26 (allS (Or.inr (Nat.le_trans (Nat.le_trans (Nat.le_trans (Nat.le_trans (Nat.le_trans (Nat.le_trans (Nat.le_trans (Nat.le_refl _) E2.1) (Keep.of_wr W4).1) (Keep.of_wr W6).1) (Keep.of_wr W8).1) (Keep.of_wr W10).1) (Keep.of_wr W12).1) (Nat.le_of_eq g15.symm))) all0)).trans K34 (allS (Or.inr (Nat.le_trans (Nat.le_trans (Nat.le_trans (Nat.le_trans (Nat.le_trans (Nat.le_trans (Nat.le_trans (Nat.le_refl _) E2.1) (Keep.of_wr W4).1) (Keep.of_wr W6).1) (Keep.of_wr W8).1) (Keep.of_wr W10).1) (Keep.of_wr W12).1) (Nat.le_of_eq g15.symm))) all0)).trans K42 (allS (Or.inr (Nat.le_trans (Nat.le_trans (Nat.le_trans (Nat.le_trans (Nat.le_trans (Nat.le_trans (Nat.le_trans (Nat.le_refl _) E2.1) (Keep.of_wr W4).1) (Keep.of_wr W6).1) (Keep.of_wr W8).1) (Keep.of_wr W10).1) (Keep.of_wr W12).1) (Nat.le_of_eq g15.symm))) all0)).trans K52 (allS (Or.inr (Nat.le_trans (Nat.le_refl _) (Nat.le_of_eq g2.symm))) all0)).trans K60 (allS (Or.inr (Nat.le_trans (Nat.le_refl _) (Nat.le_of_eq g2.symm))) all0)).trans K70 (allS (Or.inr (Nat.le_trans (Nat.le_trans (Nat.le_trans (Nat.le_trans (Nat.le_trans (Nat.le_trans (Nat.le_trans (Nat.le_refl _) E2.1) (Keep.of_wr W4).1) (Keep.of_wr W6).1) (Keep.of_wr W8).1) (Keep.of_wr W10).1) (Keep.of_wr W12).1) (Nat.le_of_eq g15.symm))) all0)), (Nat.le_trans (Nat.le_trans (Nat.le_trans (Nat.le_trans (Nat.le_trans (Nat.le_trans (Nat.le_trans (Nat.le_refl _) E2.1) (Keep.of_wr W4).1) (Keep.of_wr W6).1) (Keep.of_wr W8).1) (Keep.of_wr W10).1) (Keep.of_wr W12).1) (Nat.le_of_eq g15.symm)), by exact B70⟩
def Q_rmB0 (Z : State) (a1 : Addr) (x1 : Int32) (x2 : Int32) (h0 : Heap) (v : Option Value) (h : Heap) (L : List Loc) : Prop := v = some (.int 0) ∧ L = [] ∧ h = h0
set_option maxRecDepth 65536 in
set_option maxHeartbeats 40000000 in
theorem rmB0 (l : Launch) (Z : State) (a0 : Array Value) (hw : ∀ d ∈ tables_1, d.before a0 Z = true) (ws : List Jvm.Cond) (a1 : Addr) (x1 : Int32) (x2 : Int32) (h0 : Heap) (hq : ¬ x1 < x2) :
    MetFree l (⟨"com/example/topside/topside/DescendingOrderOfPinLaw", "bit", "([III)I"⟩ : MethodName) (head1 (Jvm.Cond.code (⟨"com/example/topside/topside/DescendingOrderOfPinLaw", "bit", "([III)I"⟩ : MethodName) method_3_code 4 (some .int) :: ws) ({ frames := 0, cells := 0, slots := 0, locals := 0 } : Room)) (fun a U => a = #[(.ref a1), (.int x1), (.int x2)] ∧ Z.Warmed39 U.vm ∧ U.heap = h0) (fun _ _ _ _ _ => True) (fun _ U o U' => ∃ v L, o = .returned v ∧ Q_rmB0 Z a1 x1 x2 h0 v U'.heap L ∧ FrameEnd U o U' L ({ frames := 0, cells := 0, slots := 0, locals := 0 } : Room).cells ({ frames := 0, cells := 0, slots := 0, locals := 0 } : Room).slots) := by
  refine MetFree.of_bodySF (plainFor_of_name pn1) hisR ?_
  intro p e s m args below meth c s₁ Bd hml0 hP hK
  obtain ⟨rfl, hZ, hh⟩ := hP
  have hx := Bd.exec
  have hby := Bd.bytes
  have hlk : meth.locks = false := Bd.notSynchronized
  have hml : c.maxLocals = 4 := hml0
  have hown : s.vm.findClass "com/example/topside/topside/DescendingOrderOfPinLaw" = some m.cls := findClass_of_methodNamed Bd.named
  have hnm := (name_of_methodNamed Bd.named Bd.method).1
  have X0 : Stand p l e ({ frames := 0, cells := 0, slots := 0, locals := 0 } : Room) s m #[(.ref a1), (.int x1), (.int x2)] below meth c s₁ [] 0 0 := Stand.of_body Bd
  have e0 : s₁.heap = h0 := by rw [← hh, Bd.state]; rfl
  suffices hgo : OD p e s below (Q_rmB0 Z a1 x1 x2 h0) ({ frames := 0, cells := 0, slots := 0, locals := 0 } : Room).cells ({ frames := 0, cells := 0, slots := 0, locals := 0 } : Room).slots (s₁.setTop (mkF m 0 #[.val (.ref a1), .val (.int x1), .val (.int x2), .unset] [])) by
    obtain ⟨s₂, o, hgo1, hgo2⟩ := hgo
    exact ⟨s₂, o, castTop (ef3 m a1 x1 x2) hgo1, hgo2⟩
  refine OD.go (B := (s₁.setTop (mkF m 1 #[.val (.ref a1), .val (.int x1), .val (.int x2), .unset] [(.int x1)]))) (fun t k => XS.iloadN X0.here hx rfl (hb hby d2_0) rfl k) ?_
  refine OD.go (B := (s₁.setTop (mkF m 2 #[.val (.ref a1), .val (.int x1), .val (.int x2), .unset] [(.int x2), (.int x1)]))) (fun t k => XS.iloadN X0.here hx rfl (hb hby d2_1) rfl k) ?_
  refine OD.go (B := (s₁.setTop (mkF m 5 #[.val (.ref a1), .val (.int x1), .val (.int x2), .unset] []))) (fun t k => XS.icmpNo X0.here hx rfl (hb hby d2_2) rfl (flt hq).1 k) ?_
  refine OD.go (B := (s₁.setTop (mkF m 6 #[.val (.ref a1), .val (.int x1), .val (.int x2), .unset] [(.int 0)]))) (fun t k => XS.iconst X0.here hx rfl (hb hby d2_5) k) ?_
  exact OD.ret X0 hx hlk (t := .int) Bd.returns rfl (Or.inl ⟨rfl, Or.inl rfl, _, rfl⟩) (hb hby d2_6) (Nat.le_of_ble_eq_true rfl) (Nat.le_of_ble_eq_true rfl) ⟨rfl, rfl, e0⟩
def Q_rmB1 (Z : State) (a1 : Addr) (x1 : Int32) (x2 : Int32) (h0 : Heap) (R : Int32 → Int32) (v : Option Value) (h : Heap) (L : List Loc) : Prop := v = some (.int ((1 : Int32) <<< ((R x1) &&& 31))) ∧ L = [] ∧ h = h0
set_option maxRecDepth 65536 in
set_option maxHeartbeats 40000000 in
theorem rmB1 (l : Launch) (Z : State) (a0 : Array Value) (hw : ∀ d ∈ tables_1, d.before a0 Z = true) (ws : List Jvm.Cond) (a1 : Addr) (x1 : Int32) (x2 : Int32) (h0 : Heap) (kr : ClassId) (R : Int32 → Int32) (A1 : Arv Z h0 a1 kr .int x2 (own_rg x2.toNatClampNeg (fun x => .int (R x))) (.int 0)) (hk : ¬ x1 < 0 ∧ x1 < x2) (hR : own_Bd x2 R) :
    MetFree l (⟨"com/example/topside/topside/DescendingOrderOfPinLaw", "bit", "([III)I"⟩ : MethodName) (head1 (Jvm.Cond.code (⟨"com/example/topside/topside/DescendingOrderOfPinLaw", "bit", "([III)I"⟩ : MethodName) method_3_code 4 (some .int) :: ws) ({ frames := 0, cells := 0, slots := 0, locals := 0 } : Room)) (fun a U => a = #[(.ref a1), (.int x1), (.int x2)] ∧ Z.Warmed39 U.vm ∧ U.heap = h0) (fun _ _ _ _ _ => True) (fun _ U o U' => ∃ v L, o = .returned v ∧ Q_rmB1 Z a1 x1 x2 h0 R v U'.heap L ∧ FrameEnd U o U' L ({ frames := 0, cells := 0, slots := 0, locals := 0 } : Room).cells ({ frames := 0, cells := 0, slots := 0, locals := 0 } : Room).slots) := by
  refine MetFree.of_bodySF (plainFor_of_name pn1) hisR ?_
  intro p e s m args below meth c s₁ Bd hml0 hP hK
  obtain ⟨rfl, hZ, hh⟩ := hP
  have hx := Bd.exec
  have hby := Bd.bytes
  have hlk : meth.locks = false := Bd.notSynchronized
  have hml : c.maxLocals = 4 := hml0
  have hown : s.vm.findClass "com/example/topside/topside/DescendingOrderOfPinLaw" = some m.cls := findClass_of_methodNamed Bd.named
  have hnm := (name_of_methodNamed Bd.named Bd.method).1
  have X0 : Stand p l e ({ frames := 0, cells := 0, slots := 0, locals := 0 } : Room) s m #[(.ref a1), (.int x1), (.int x2)] below meth c s₁ [] 0 0 := Stand.of_body Bd
  have e0 : s₁.heap = h0 := by rw [← hh, Bd.state]; rfl
  suffices hgo : OD p e s below (Q_rmB1 Z a1 x1 x2 h0 R) ({ frames := 0, cells := 0, slots := 0, locals := 0 } : Room).cells ({ frames := 0, cells := 0, slots := 0, locals := 0 } : Room).slots (s₁.setTop (mkF m 0 #[.val (.ref a1), .val (.int x1), .val (.int x2), .unset] [])) by
    obtain ⟨s₂, o, hgo1, hgo2⟩ := hgo
    exact ⟨s₂, o, castTop (ef3 m a1 x1 x2) hgo1, hgo2⟩
  refine OD.go (B := (s₁.setTop (mkF m 1 #[.val (.ref a1), .val (.int x1), .val (.int x2), .unset] [(.int x1)]))) (fun t k => XS.iloadN X0.here hx rfl (hb hby d2_0) rfl k) ?_
  refine OD.go (B := (s₁.setTop (mkF m 2 #[.val (.ref a1), .val (.int x1), .val (.int x2), .unset] [(.int x2), (.int x1)]))) (fun t k => XS.iloadN X0.here hx rfl (hb hby d2_1) rfl k) ?_
  refine OD.go (B := (s₁.setTop (mkF m 7 #[.val (.ref a1), .val (.int x1), .val (.int x2), .unset] []))) (fun t k => XS.icmpYes X0.here hx rfl (pc0 := 2) (pc' := 7) rfl (hb hby d2_2) rfl (tlt hk.2).1 (by decide) (by decide) k) ?_
  refine OD.go (B := (s₁.setTop (mkF m 8 #[.val (.ref a1), .val (.int x1), .val (.int x2), .unset] [(.ref a1)]))) (fun t k => XS.aloadN X0.here hx rfl (hb hby d2_7) rfl rfl k) ?_
  refine OD.go (B := (s₁.setTop (mkF m 9 #[.val (.ref a1), .val (.int x1), .val (.int x2), .unset] [(.int x1), (.ref a1)]))) (fun t k => XS.iloadN X0.here hx rfl (hb hby d2_8) rfl k) ?_
  obtain ⟨cl1, Ar1, hi1, ha1⟩ := own_at A1 (j := x1) (v := (.int (R x1))) hk (own_rg_at hk _ _)
  refine OD.go (B := (s₁.setTop (mkF m 10 #[.val (.ref a1), .val (.int x1), .val (.int x2), .unset] [(.int (R x1))]))) (fun t k => X0.iaload hx (j := x1) (v := (.int (R x1))) (by rw [e0]; exact Ar1.1) (State.isArrayOf_alike hZ.alike Ar1.2.1) Ar1.2.2 hi1 ha1 (g := (mkF m 9 #[.val (.ref a1), .val (.int x1), .val (.int x2), .unset] [(.int x1), (.ref a1)])) rfl rfl (hb hby d2_9) _ k) ?_
  refine OD.go (B := (s₁.setTop (mkF m 11 #[.val (.ref a1), .val (.int x1), .val (.int x2), .val (.int (R x1))] []))) (fun t k => XS.istoreN X0.here hx rfl (hb hby d2_10) rfl (l' := #[.val (.ref a1), .val (.int x1), .val (.int x2), .val (.int (R x1))]) rfl k) ?_
  refine OD.go (B := (s₁.setTop (mkF m 12 #[.val (.ref a1), .val (.int x1), .val (.int x2), .val (.int (R x1))] [(.int (R x1))]))) (fun t k => XS.iloadN X0.here hx rfl (hb hby d2_11) rfl k) ?_
  refine OD.go (B := (s₁.setTop (mkF m 15 #[.val (.ref a1), .val (.int x1), .val (.int x2), .val (.int (R x1))] []))) (fun t k => XS.ifNo X0.here hx rfl (hb hby d2_12) rfl (by rw [if0]; exact (flt (hR _ hk).1).1) k) ?_
  refine OD.go (B := (s₁.setTop (mkF m 16 #[.val (.ref a1), .val (.int x1), .val (.int x2), .val (.int (R x1))] [(.int (R x1))]))) (fun t k => XS.iloadN X0.here hx rfl (hb hby d2_15) rfl k) ?_
  refine OD.go (B := (s₁.setTop (mkF m 17 #[.val (.ref a1), .val (.int x1), .val (.int x2), .val (.int (R x1))] [(.int x2), (.int (R x1))]))) (fun t k => XS.iloadN X0.here hx rfl (hb hby d2_16) rfl k) ?_
  refine OD.go (B := (s₁.setTop (mkF m 23 #[.val (.ref a1), .val (.int x1), .val (.int x2), .val (.int (R x1))] []))) (fun t k => XS.icmpYes X0.here hx rfl (pc0 := 17) (pc' := 23) rfl (hb hby d2_17) rfl (tlt (hR _ hk).2).1 (by decide) (by decide) k) ?_
  refine OD.go (B := (s₁.setTop (mkF m 24 #[.val (.ref a1), .val (.int x1), .val (.int x2), .val (.int (R x1))] [(.int 1)]))) (fun t k => XS.iconst X0.here hx rfl (hb hby d2_23) k) ?_
  refine OD.go (B := (s₁.setTop (mkF m 25 #[.val (.ref a1), .val (.int x1), .val (.int x2), .val (.int (R x1))] [(.int (R x1)), (.int 1)]))) (fun t k => XS.iloadN X0.here hx rfl (hb hby d2_24) rfl k) ?_
  refine OD.go (B := (s₁.setTop (mkF m 26 #[.val (.ref a1), .val (.int x1), .val (.int x2), .val (.int (R x1))] [(.int ((1 : Int32) <<< ((R x1) &&& 31)))]))) (fun t k => XS.ishl X0.here hx rfl (hb hby d2_25) rfl k) ?_
  exact OD.ret X0 hx hlk (t := .int) Bd.returns rfl (Or.inl ⟨rfl, Or.inl rfl, _, rfl⟩) (hb hby d2_26) (Nat.le_of_ble_eq_true rfl) (Nat.le_of_ble_eq_true rfl) ⟨rfl, rfl, e0⟩
def Q_rmP0 (Z : State) (a1 : Addr) (a2 : Addr) (x2 : Int32) (x3 : Int32) (h0 : Heap) (v : Option Value) (h : Heap) (L : List Loc) : Prop := v = some (.int 1) ∧ L = [] ∧ h = h0
set_option maxRecDepth 65536 in
set_option maxHeartbeats 40000000 in
theorem rmP0 (l : Launch) (Z : State) (a0 : Array Value) (hw : ∀ d ∈ tables_1, d.before a0 Z = true) (ws : List Jvm.Cond) (a1 : Addr) (a2 : Addr) (x2 : Int32) (x3 : Int32) (h0 : Heap) (hq : ¬ (x2 + (1 : Int32)) < x3) :
    MetFree l (⟨"com/example/topside/topside/DescendingOrderOfPinLaw", "pair", "([D[III)Z"⟩ : MethodName) (head1 (Jvm.Cond.code (⟨"com/example/topside/topside/DescendingOrderOfPinLaw", "pair", "([D[III)Z"⟩ : MethodName) method_4_code 6 (some .boolean) :: ws) ({ frames := 0, cells := 0, slots := 0, locals := 0 } : Room)) (fun a U => a = #[(.ref a1), (.ref a2), (.int x2), (.int x3)] ∧ Z.Warmed39 U.vm ∧ U.heap = h0) (fun _ _ _ _ _ => True) (fun _ U o U' => ∃ v L, o = .returned v ∧ Q_rmP0 Z a1 a2 x2 x3 h0 v U'.heap L ∧ FrameEnd U o U' L ({ frames := 0, cells := 0, slots := 0, locals := 0 } : Room).cells ({ frames := 0, cells := 0, slots := 0, locals := 0 } : Room).slots) := by
  refine MetFree.of_bodySF (plainFor_of_name pn1) hisR ?_
  intro p e s m args below meth c s₁ Bd hml0 hP hK
  obtain ⟨rfl, hZ, hh⟩ := hP
  have hx := Bd.exec
  have hby := Bd.bytes
  have hlk : meth.locks = false := Bd.notSynchronized
  have hml : c.maxLocals = 6 := hml0
  have hown : s.vm.findClass "com/example/topside/topside/DescendingOrderOfPinLaw" = some m.cls := findClass_of_methodNamed Bd.named
  have hnm := (name_of_methodNamed Bd.named Bd.method).1
  have X0 : Stand p l e ({ frames := 0, cells := 0, slots := 0, locals := 0 } : Room) s m #[(.ref a1), (.ref a2), (.int x2), (.int x3)] below meth c s₁ [] 0 0 := Stand.of_body Bd
  have e0 : s₁.heap = h0 := by rw [← hh, Bd.state]; rfl
  suffices hgo : OD p e s below (Q_rmP0 Z a1 a2 x2 x3 h0) ({ frames := 0, cells := 0, slots := 0, locals := 0 } : Room).cells ({ frames := 0, cells := 0, slots := 0, locals := 0 } : Room).slots (s₁.setTop (mkF m 0 #[.val (.ref a1), .val (.ref a2), .val (.int x2), .val (.int x3), .unset, .unset] [])) by
    obtain ⟨s₂, o, hgo1, hgo2⟩ := hgo
    exact ⟨s₂, o, castTop (ef4 m a1 a2 x2 x3) hgo1, hgo2⟩
  refine OD.go (B := (s₁.setTop (mkF m 1 #[.val (.ref a1), .val (.ref a2), .val (.int x2), .val (.int x3), .unset, .unset] [(.int x2)]))) (fun t k => XS.iloadN X0.here hx rfl (hb hby d3_0) rfl k) ?_
  refine OD.go (B := (s₁.setTop (mkF m 2 #[.val (.ref a1), .val (.ref a2), .val (.int x2), .val (.int x3), .unset, .unset] [(.int 1), (.int x2)]))) (fun t k => XS.iconst X0.here hx rfl (hb hby d3_1) k) ?_
  refine OD.go (B := (s₁.setTop (mkF m 3 #[.val (.ref a1), .val (.ref a2), .val (.int x2), .val (.int x3), .unset, .unset] [(.int (x2 + (1 : Int32)))]))) (fun t k => XS.iadd X0.here hx rfl (hb hby d3_2) rfl k) ?_
  refine OD.go (B := (s₁.setTop (mkF m 4 #[.val (.ref a1), .val (.ref a2), .val (.int x2), .val (.int x3), .unset, .unset] [(.int x3), (.int (x2 + (1 : Int32)))]))) (fun t k => XS.iloadN X0.here hx rfl (hb hby d3_3) rfl k) ?_
  refine OD.go (B := (s₁.setTop (mkF m 7 #[.val (.ref a1), .val (.ref a2), .val (.int x2), .val (.int x3), .unset, .unset] []))) (fun t k => XS.icmpNo X0.here hx rfl (hb hby d3_4) rfl (flt hq).1 k) ?_
  refine OD.go (B := (s₁.setTop (mkF m 8 #[.val (.ref a1), .val (.ref a2), .val (.int x2), .val (.int x3), .unset, .unset] [(.int 1)]))) (fun t k => XS.iconst X0.here hx rfl (hb hby d3_7) k) ?_
  exact OD.ret X0 hx hlk (t := .boolean) Bd.returns rfl (Or.inl ⟨rfl, Or.inr (Or.inl rfl), _, rfl⟩) (hb hby d3_8) (Nat.le_of_ble_eq_true rfl) (Nat.le_of_ble_eq_true rfl) ⟨rfl, rfl, e0⟩
def Q_rmP1 (Z : State) (a1 : Addr) (a2 : Addr) (x2 : Int32) (x3 : Int32) (h0 : Heap) (R : Int32 → Int32) (sv : Int32 → UInt64) (v : Option Value) (h : Heap) (L : List Loc) : Prop := v = some (.int (own_pr sv (R x2) (R (x2 + (1 : Int32))))) ∧ L = [] ∧ h = h0
set_option maxRecDepth 65536 in
set_option maxHeartbeats 40000000 in
theorem rmP1 (l : Launch) (Z : State) (a0 : Array Value) (hw : ∀ d ∈ tables_1, d.before a0 Z = true) (ws : List Jvm.Cond) (a1 : Addr) (a2 : Addr) (x2 : Int32) (x3 : Int32) (h0 : Heap) (kr kd : ClassId) (R : Int32 → Int32) (sv : Int32 → UInt64) (A1 : Arv Z h0 a1 kd .double x3 (own_rg x3.toNatClampNeg (fun x => .double (sv x))) (.double 0)) (A2 : Arv Z h0 a2 kr .int x3 (own_rg x3.toNatClampNeg (fun x => .int (R x))) (.int 0)) (hk0 : ¬ x2 < 0 ∧ x2 < x3) (hk1 : ¬ (x2 + (1 : Int32)) < 0 ∧ (x2 + (1 : Int32)) < x3) (hR : own_Bd x3 R) :
    MetFree l (⟨"com/example/topside/topside/DescendingOrderOfPinLaw", "pair", "([D[III)Z"⟩ : MethodName) (head1 (Jvm.Cond.code (⟨"com/example/topside/topside/DescendingOrderOfPinLaw", "pair", "([D[III)Z"⟩ : MethodName) method_4_code 6 (some .boolean) :: ws) ({ frames := 0, cells := 0, slots := 0, locals := 0 } : Room)) (fun a U => a = #[(.ref a1), (.ref a2), (.int x2), (.int x3)] ∧ Z.Warmed39 U.vm ∧ U.heap = h0) (fun _ _ _ _ _ => True) (fun _ U o U' => ∃ v L, o = .returned v ∧ Q_rmP1 Z a1 a2 x2 x3 h0 R sv v U'.heap L ∧ FrameEnd U o U' L ({ frames := 0, cells := 0, slots := 0, locals := 0 } : Room).cells ({ frames := 0, cells := 0, slots := 0, locals := 0 } : Room).slots) := by
  refine MetFree.of_bodySF (plainFor_of_name pn1) hisR ?_
  intro p e s m args below meth c s₁ Bd hml0 hP hK
  obtain ⟨rfl, hZ, hh⟩ := hP
  have hx := Bd.exec
  have hby := Bd.bytes
  have hlk : meth.locks = false := Bd.notSynchronized
  have hml : c.maxLocals = 6 := hml0
  have hown : s.vm.findClass "com/example/topside/topside/DescendingOrderOfPinLaw" = some m.cls := findClass_of_methodNamed Bd.named
  have hnm := (name_of_methodNamed Bd.named Bd.method).1
  have X0 : Stand p l e ({ frames := 0, cells := 0, slots := 0, locals := 0 } : Room) s m #[(.ref a1), (.ref a2), (.int x2), (.int x3)] below meth c s₁ [] 0 0 := Stand.of_body Bd
  have e0 : s₁.heap = h0 := by rw [← hh, Bd.state]; rfl
  suffices hgo : OD p e s below (Q_rmP1 Z a1 a2 x2 x3 h0 R sv) ({ frames := 0, cells := 0, slots := 0, locals := 0 } : Room).cells ({ frames := 0, cells := 0, slots := 0, locals := 0 } : Room).slots (s₁.setTop (mkF m 0 #[.val (.ref a1), .val (.ref a2), .val (.int x2), .val (.int x3), .unset, .unset] [])) by
    obtain ⟨s₂, o, hgo1, hgo2⟩ := hgo
    exact ⟨s₂, o, castTop (ef4 m a1 a2 x2 x3) hgo1, hgo2⟩
  refine OD.go (B := (s₁.setTop (mkF m 1 #[.val (.ref a1), .val (.ref a2), .val (.int x2), .val (.int x3), .unset, .unset] [(.int x2)]))) (fun t k => XS.iloadN X0.here hx rfl (hb hby d3_0) rfl k) ?_
  refine OD.go (B := (s₁.setTop (mkF m 2 #[.val (.ref a1), .val (.ref a2), .val (.int x2), .val (.int x3), .unset, .unset] [(.int 1), (.int x2)]))) (fun t k => XS.iconst X0.here hx rfl (hb hby d3_1) k) ?_
  refine OD.go (B := (s₁.setTop (mkF m 3 #[.val (.ref a1), .val (.ref a2), .val (.int x2), .val (.int x3), .unset, .unset] [(.int (x2 + (1 : Int32)))]))) (fun t k => XS.iadd X0.here hx rfl (hb hby d3_2) rfl k) ?_
  refine OD.go (B := (s₁.setTop (mkF m 4 #[.val (.ref a1), .val (.ref a2), .val (.int x2), .val (.int x3), .unset, .unset] [(.int x3), (.int (x2 + (1 : Int32)))]))) (fun t k => XS.iloadN X0.here hx rfl (hb hby d3_3) rfl k) ?_
  refine OD.go (B := (s₁.setTop (mkF m 9 #[.val (.ref a1), .val (.ref a2), .val (.int x2), .val (.int x3), .unset, .unset] []))) (fun t k => XS.icmpYes X0.here hx rfl (pc0 := 4) (pc' := 9) rfl (hb hby d3_4) rfl (tlt hk1.2).1 (by decide) (by decide) k) ?_
  refine OD.go (B := (s₁.setTop (mkF m 10 #[.val (.ref a1), .val (.ref a2), .val (.int x2), .val (.int x3), .unset, .unset] [(.ref a2)]))) (fun t k => XS.aloadN X0.here hx rfl (hb hby d3_9) rfl rfl k) ?_
  refine OD.go (B := (s₁.setTop (mkF m 11 #[.val (.ref a1), .val (.ref a2), .val (.int x2), .val (.int x3), .unset, .unset] [(.int x2), (.ref a2)]))) (fun t k => XS.iloadN X0.here hx rfl (hb hby d3_10) rfl k) ?_
  obtain ⟨cl1, Ar1, hi1, ha1⟩ := own_at A2 (j := x2) (v := (.int (R x2))) hk0 (own_rg_at hk0 _ _)
  refine OD.go (B := (s₁.setTop (mkF m 12 #[.val (.ref a1), .val (.ref a2), .val (.int x2), .val (.int x3), .unset, .unset] [(.int (R x2))]))) (fun t k => X0.iaload hx (j := x2) (v := (.int (R x2))) (by rw [e0]; exact Ar1.1) (State.isArrayOf_alike hZ.alike Ar1.2.1) Ar1.2.2 hi1 ha1 (g := (mkF m 11 #[.val (.ref a1), .val (.ref a2), .val (.int x2), .val (.int x3), .unset, .unset] [(.int x2), (.ref a2)])) rfl rfl (hb hby d3_11) _ k) ?_
  refine OD.go (B := (s₁.setTop (mkF m 14 #[.val (.ref a1), .val (.ref a2), .val (.int x2), .val (.int x3), .val (.int (R x2)), .unset] []))) (fun t k => XS.istore X0.here hx rfl (hb hby d3_12) rfl (l' := #[.val (.ref a1), .val (.ref a2), .val (.int x2), .val (.int x3), .val (.int (R x2)), .unset]) rfl k) ?_
  refine OD.go (B := (s₁.setTop (mkF m 15 #[.val (.ref a1), .val (.ref a2), .val (.int x2), .val (.int x3), .val (.int (R x2)), .unset] [(.ref a2)]))) (fun t k => XS.aloadN X0.here hx rfl (hb hby d3_14) rfl rfl k) ?_
  refine OD.go (B := (s₁.setTop (mkF m 16 #[.val (.ref a1), .val (.ref a2), .val (.int x2), .val (.int x3), .val (.int (R x2)), .unset] [(.int x2), (.ref a2)]))) (fun t k => XS.iloadN X0.here hx rfl (hb hby d3_15) rfl k) ?_
  refine OD.go (B := (s₁.setTop (mkF m 17 #[.val (.ref a1), .val (.ref a2), .val (.int x2), .val (.int x3), .val (.int (R x2)), .unset] [(.int 1), (.int x2), (.ref a2)]))) (fun t k => XS.iconst X0.here hx rfl (hb hby d3_16) k) ?_
  refine OD.go (B := (s₁.setTop (mkF m 18 #[.val (.ref a1), .val (.ref a2), .val (.int x2), .val (.int x3), .val (.int (R x2)), .unset] [(.int (x2 + (1 : Int32))), (.ref a2)]))) (fun t k => XS.iadd X0.here hx rfl (hb hby d3_17) rfl k) ?_
  obtain ⟨cl2, Ar2, hi2, ha2⟩ := own_at A2 (j := (x2 + (1 : Int32))) (v := (.int (R (x2 + (1 : Int32))))) hk1 (own_rg_at hk1 _ _)
  refine OD.go (B := (s₁.setTop (mkF m 19 #[.val (.ref a1), .val (.ref a2), .val (.int x2), .val (.int x3), .val (.int (R x2)), .unset] [(.int (R (x2 + (1 : Int32))))]))) (fun t k => X0.iaload hx (j := (x2 + (1 : Int32))) (v := (.int (R (x2 + (1 : Int32))))) (by rw [e0]; exact Ar2.1) (State.isArrayOf_alike hZ.alike Ar2.2.1) Ar2.2.2 hi2 ha2 (g := (mkF m 18 #[.val (.ref a1), .val (.ref a2), .val (.int x2), .val (.int x3), .val (.int (R x2)), .unset] [(.int (x2 + (1 : Int32))), (.ref a2)])) rfl rfl (hb hby d3_18) _ k) ?_
  refine OD.go (B := (s₁.setTop (mkF m 21 #[.val (.ref a1), .val (.ref a2), .val (.int x2), .val (.int x3), .val (.int (R x2)), .val (.int (R (x2 + (1 : Int32))))] []))) (fun t k => XS.istore X0.here hx rfl (hb hby d3_19) rfl (l' := #[.val (.ref a1), .val (.ref a2), .val (.int x2), .val (.int x3), .val (.int (R x2)), .val (.int (R (x2 + (1 : Int32))))]) rfl k) ?_
  refine OD.go (B := (s₁.setTop (mkF m 22 #[.val (.ref a1), .val (.ref a2), .val (.int x2), .val (.int x3), .val (.int (R x2)), .val (.int (R (x2 + (1 : Int32))))] [(.ref a1)]))) (fun t k => XS.aloadN X0.here hx rfl (hb hby d3_21) rfl rfl k) ?_
  refine OD.go (B := (s₁.setTop (mkF m 24 #[.val (.ref a1), .val (.ref a2), .val (.int x2), .val (.int x3), .val (.int (R x2)), .val (.int (R (x2 + (1 : Int32))))] [(.int (R x2)), (.ref a1)]))) (fun t k => XS.iload X0.here hx rfl (hb hby d3_22) rfl k) ?_
  obtain ⟨cl3, Ar3, hi3, ha3⟩ := own_at A1 (j := (R x2)) (v := (.double (sv (R x2)))) (hR _ hk0) (own_rg_at (hR _ hk0) _ _)
  refine OD.go (B := (s₁.setTop (mkF m 25 #[.val (.ref a1), .val (.ref a2), .val (.int x2), .val (.int x3), .val (.int (R x2)), .val (.int (R (x2 + (1 : Int32))))] [(.double (sv (R x2)))]))) (fun t k => X0.daload hx (j := (R x2)) (v := (.double (sv (R x2)))) (by rw [e0]; exact Ar3.1) (State.isArrayOf_alike hZ.alike Ar3.2.1) Ar3.2.2 hi3 ha3 (g := (mkF m 24 #[.val (.ref a1), .val (.ref a2), .val (.int x2), .val (.int x3), .val (.int (R x2)), .val (.int (R (x2 + (1 : Int32))))] [(.int (R x2)), (.ref a1)])) rfl rfl (hb hby d3_24) _ k) ?_
  refine OD.go (B := (s₁.setTop (mkF m 26 #[.val (.ref a1), .val (.ref a2), .val (.int x2), .val (.int x3), .val (.int (R x2)), .val (.int (R (x2 + (1 : Int32))))] [(.ref a1), (.double (sv (R x2)))]))) (fun t k => XS.aloadN X0.here hx rfl (hb hby d3_25) rfl rfl k) ?_
  refine OD.go (B := (s₁.setTop (mkF m 28 #[.val (.ref a1), .val (.ref a2), .val (.int x2), .val (.int x3), .val (.int (R x2)), .val (.int (R (x2 + (1 : Int32))))] [(.int (R (x2 + (1 : Int32)))), (.ref a1), (.double (sv (R x2)))]))) (fun t k => XS.iload X0.here hx rfl (hb hby d3_26) rfl k) ?_
  obtain ⟨cl4, Ar4, hi4, ha4⟩ := own_at A1 (j := (R (x2 + (1 : Int32)))) (v := (.double (sv (R (x2 + (1 : Int32)))))) (hR _ hk1) (own_rg_at (hR _ hk1) _ _)
  refine OD.go (B := (s₁.setTop (mkF m 29 #[.val (.ref a1), .val (.ref a2), .val (.int x2), .val (.int x3), .val (.int (R x2)), .val (.int (R (x2 + (1 : Int32))))] [(.double (sv (R (x2 + (1 : Int32))))), (.double (sv (R x2)))]))) (fun t k => X0.daload hx (j := (R (x2 + (1 : Int32)))) (v := (.double (sv (R (x2 + (1 : Int32)))))) (by rw [e0]; exact Ar4.1) (State.isArrayOf_alike hZ.alike Ar4.2.1) Ar4.2.2 hi4 ha4 (g := (mkF m 28 #[.val (.ref a1), .val (.ref a2), .val (.int x2), .val (.int x3), .val (.int (R x2)), .val (.int (R (x2 + (1 : Int32))))] [(.int (R (x2 + (1 : Int32)))), (.ref a1), (.double (sv (R x2)))])) rfl rfl (hb hby d3_28) _ k) ?_
  refine OD.go (B := (s₁.setTop (mkF m 30 #[.val (.ref a1), .val (.ref a2), .val (.int x2), .val (.int x3), .val (.int (R x2)), .val (.int (R (x2 + (1 : Int32))))] [(.int (cmpValue (FP.dcmp (sv (R x2)) (sv (R (x2 + (1 : Int32))))) .l))]))) (fun t k => XS.dcmpS X0.here hx rfl (hb hby d3_29) rfl (v := (cmpValue (FP.dcmp (sv (R x2)) (sv (R (x2 + (1 : Int32))))) .l)) rfl k) ?_
  obtain ⟨v57_5, hv57_5⟩ : ∃ z : Int32, z = (if (0 : Int32) < (cmpValue (FP.dcmp (sv (R x2)) (sv (R (x2 + (1 : Int32))))) .l) then (1 : Int32) else (if (cmpValue (FP.dcmp (sv (R x2)) (sv (R (x2 + (1 : Int32))))) .l) = (0 : Int32) then (if (R x2) < (R (x2 + (1 : Int32))) then (1 : Int32) else (0 : Int32)) else (0 : Int32))) := ⟨_, rfl⟩
  refine OD.cut (B := (s₁.setTop (mkF m 57 #[.val (.ref a1), .val (.ref a2), .val (.int x2), .val (.int x3), .val (.int (R x2)), .val (.int (R (x2 + (1 : Int32))))] [(.int v57_5)]))) (fun J57_6 => ?_) ?_
  · skip
    by_cases c30_7 : (0 : Int32) < (cmpValue (FP.dcmp (sv (R x2)) (sv (R (x2 + (1 : Int32))))) .l)
    · refine OD.go (B := (s₁.setTop (mkF m 52 #[.val (.ref a1), .val (.ref a2), .val (.int x2), .val (.int x3), .val (.int (R x2)), .val (.int (R (x2 + (1 : Int32))))] []))) (fun t k => XS.ifYes X0.here hx rfl (pc0 := 30) (pc' := 52) rfl (hb hby d3_30) rfl (by rw [if0]; exact (tlt c30_7).2.2.1) (by decide) (by decide) k) ?_
      refine OD.go (B := (s₁.setTop (mkF m 53 #[.val (.ref a1), .val (.ref a2), .val (.int x2), .val (.int x3), .val (.int (R x2)), .val (.int (R (x2 + (1 : Int32))))] [(.int 1)]))) (fun t k => XS.iconst X0.here hx rfl (hb hby d3_52) k) ?_
      refine OD.go (B := (s₁.setTop (mkF m 57 #[.val (.ref a1), .val (.ref a2), .val (.int x2), .val (.int x3), .val (.int (R x2)), .val (.int (R (x2 + (1 : Int32))))] [(.int 1)]))) (fun t k => XS.goto X0.here hx rfl (pc0 := 53) (pc' := 57) rfl (hb hby d3_53) (by decide) (by decide) k) ?_
      rw [if_pos c30_7] at hv57_5
      rw [hv57_5] at J57_6
      exact J57_6
    · refine OD.go (B := (s₁.setTop (mkF m 33 #[.val (.ref a1), .val (.ref a2), .val (.int x2), .val (.int x3), .val (.int (R x2)), .val (.int (R (x2 + (1 : Int32))))] []))) (fun t k => XS.ifNo X0.here hx rfl (hb hby d3_30) rfl (by rw [if0]; exact (flt c30_7).2.2.1) k) ?_
      refine OD.go (B := (s₁.setTop (mkF m 34 #[.val (.ref a1), .val (.ref a2), .val (.int x2), .val (.int x3), .val (.int (R x2)), .val (.int (R (x2 + (1 : Int32))))] [(.ref a1)]))) (fun t k => XS.aloadN X0.here hx rfl (hb hby d3_33) rfl rfl k) ?_
      refine OD.go (B := (s₁.setTop (mkF m 36 #[.val (.ref a1), .val (.ref a2), .val (.int x2), .val (.int x3), .val (.int (R x2)), .val (.int (R (x2 + (1 : Int32))))] [(.int (R x2)), (.ref a1)]))) (fun t k => XS.iload X0.here hx rfl (hb hby d3_34) rfl k) ?_
      obtain ⟨cl8, Ar8, hi8, ha8⟩ := own_at A1 (j := (R x2)) (v := (.double (sv (R x2)))) (hR _ hk0) (own_rg_at (hR _ hk0) _ _)
      refine OD.go (B := (s₁.setTop (mkF m 37 #[.val (.ref a1), .val (.ref a2), .val (.int x2), .val (.int x3), .val (.int (R x2)), .val (.int (R (x2 + (1 : Int32))))] [(.double (sv (R x2)))]))) (fun t k => X0.daload hx (j := (R x2)) (v := (.double (sv (R x2)))) (by rw [e0]; exact Ar8.1) (State.isArrayOf_alike hZ.alike Ar8.2.1) Ar8.2.2 hi8 ha8 (g := (mkF m 36 #[.val (.ref a1), .val (.ref a2), .val (.int x2), .val (.int x3), .val (.int (R x2)), .val (.int (R (x2 + (1 : Int32))))] [(.int (R x2)), (.ref a1)])) rfl rfl (hb hby d3_36) _ k) ?_
      refine OD.go (B := (s₁.setTop (mkF m 38 #[.val (.ref a1), .val (.ref a2), .val (.int x2), .val (.int x3), .val (.int (R x2)), .val (.int (R (x2 + (1 : Int32))))] [(.ref a1), (.double (sv (R x2)))]))) (fun t k => XS.aloadN X0.here hx rfl (hb hby d3_37) rfl rfl k) ?_
      refine OD.go (B := (s₁.setTop (mkF m 40 #[.val (.ref a1), .val (.ref a2), .val (.int x2), .val (.int x3), .val (.int (R x2)), .val (.int (R (x2 + (1 : Int32))))] [(.int (R (x2 + (1 : Int32)))), (.ref a1), (.double (sv (R x2)))]))) (fun t k => XS.iload X0.here hx rfl (hb hby d3_38) rfl k) ?_
      obtain ⟨cl9, Ar9, hi9, ha9⟩ := own_at A1 (j := (R (x2 + (1 : Int32)))) (v := (.double (sv (R (x2 + (1 : Int32)))))) (hR _ hk1) (own_rg_at (hR _ hk1) _ _)
      refine OD.go (B := (s₁.setTop (mkF m 41 #[.val (.ref a1), .val (.ref a2), .val (.int x2), .val (.int x3), .val (.int (R x2)), .val (.int (R (x2 + (1 : Int32))))] [(.double (sv (R (x2 + (1 : Int32))))), (.double (sv (R x2)))]))) (fun t k => X0.daload hx (j := (R (x2 + (1 : Int32)))) (v := (.double (sv (R (x2 + (1 : Int32)))))) (by rw [e0]; exact Ar9.1) (State.isArrayOf_alike hZ.alike Ar9.2.1) Ar9.2.2 hi9 ha9 (g := (mkF m 40 #[.val (.ref a1), .val (.ref a2), .val (.int x2), .val (.int x3), .val (.int (R x2)), .val (.int (R (x2 + (1 : Int32))))] [(.int (R (x2 + (1 : Int32)))), (.ref a1), (.double (sv (R x2)))])) rfl rfl (hb hby d3_40) _ k) ?_
      refine OD.go (B := (s₁.setTop (mkF m 42 #[.val (.ref a1), .val (.ref a2), .val (.int x2), .val (.int x3), .val (.int (R x2)), .val (.int (R (x2 + (1 : Int32))))] [(.int (cmpValue (FP.dcmp (sv (R x2)) (sv (R (x2 + (1 : Int32))))) .l))]))) (fun t k => XS.dcmpS X0.here hx rfl (hb hby d3_41) rfl (v := (cmpValue (FP.dcmp (sv (R x2)) (sv (R (x2 + (1 : Int32))))) .l)) rfl k) ?_
      by_cases c42_10 : (cmpValue (FP.dcmp (sv (R x2)) (sv (R (x2 + (1 : Int32))))) .l) = (0 : Int32)
      · refine OD.go (B := (s₁.setTop (mkF m 45 #[.val (.ref a1), .val (.ref a2), .val (.int x2), .val (.int x3), .val (.int (R x2)), .val (.int (R (x2 + (1 : Int32))))] []))) (fun t k => XS.ifNo X0.here hx rfl (hb hby d3_42) rfl (by rw [if0]; exact (teq c42_10).2) k) ?_
        refine OD.go (B := (s₁.setTop (mkF m 47 #[.val (.ref a1), .val (.ref a2), .val (.int x2), .val (.int x3), .val (.int (R x2)), .val (.int (R (x2 + (1 : Int32))))] [(.int (R x2))]))) (fun t k => XS.iload X0.here hx rfl (hb hby d3_45) rfl k) ?_
        refine OD.go (B := (s₁.setTop (mkF m 49 #[.val (.ref a1), .val (.ref a2), .val (.int x2), .val (.int x3), .val (.int (R x2)), .val (.int (R (x2 + (1 : Int32))))] [(.int (R (x2 + (1 : Int32)))), (.int (R x2))]))) (fun t k => XS.iload X0.here hx rfl (hb hby d3_47) rfl k) ?_
        by_cases c49_11 : (R x2) < (R (x2 + (1 : Int32)))
        · refine OD.go (B := (s₁.setTop (mkF m 52 #[.val (.ref a1), .val (.ref a2), .val (.int x2), .val (.int x3), .val (.int (R x2)), .val (.int (R (x2 + (1 : Int32))))] []))) (fun t k => XS.icmpNo X0.here hx rfl (hb hby d3_49) rfl (tlt c49_11).2.1 k) ?_
          refine OD.go (B := (s₁.setTop (mkF m 53 #[.val (.ref a1), .val (.ref a2), .val (.int x2), .val (.int x3), .val (.int (R x2)), .val (.int (R (x2 + (1 : Int32))))] [(.int 1)]))) (fun t k => XS.iconst X0.here hx rfl (hb hby d3_52) k) ?_
          refine OD.go (B := (s₁.setTop (mkF m 57 #[.val (.ref a1), .val (.ref a2), .val (.int x2), .val (.int x3), .val (.int (R x2)), .val (.int (R (x2 + (1 : Int32))))] [(.int 1)]))) (fun t k => XS.goto X0.here hx rfl (pc0 := 53) (pc' := 57) rfl (hb hby d3_53) (by decide) (by decide) k) ?_
          rw [if_neg c30_7, if_pos c42_10, if_pos c49_11] at hv57_5
          rw [hv57_5] at J57_6
          exact J57_6
        · refine OD.go (B := (s₁.setTop (mkF m 56 #[.val (.ref a1), .val (.ref a2), .val (.int x2), .val (.int x3), .val (.int (R x2)), .val (.int (R (x2 + (1 : Int32))))] []))) (fun t k => XS.icmpYes X0.here hx rfl (pc0 := 49) (pc' := 56) rfl (hb hby d3_49) rfl (flt c49_11).2.1 (by decide) (by decide) k) ?_
          refine OD.go (B := (s₁.setTop (mkF m 57 #[.val (.ref a1), .val (.ref a2), .val (.int x2), .val (.int x3), .val (.int (R x2)), .val (.int (R (x2 + (1 : Int32))))] [(.int 0)]))) (fun t k => XS.iconst X0.here hx rfl (hb hby d3_56) k) ?_
          rw [if_neg c30_7, if_pos c42_10, if_neg c49_11] at hv57_5
          rw [hv57_5] at J57_6
          exact J57_6
      · refine OD.go (B := (s₁.setTop (mkF m 56 #[.val (.ref a1), .val (.ref a2), .val (.int x2), .val (.int x3), .val (.int (R x2)), .val (.int (R (x2 + (1 : Int32))))] []))) (fun t k => XS.ifYes X0.here hx rfl (pc0 := 42) (pc' := 56) rfl (hb hby d3_42) rfl (by rw [if0]; exact (feq c42_10).2) (by decide) (by decide) k) ?_
        refine OD.go (B := (s₁.setTop (mkF m 57 #[.val (.ref a1), .val (.ref a2), .val (.int x2), .val (.int x3), .val (.int (R x2)), .val (.int (R (x2 + (1 : Int32))))] [(.int 0)]))) (fun t k => XS.iconst X0.here hx rfl (hb hby d3_56) k) ?_
        rw [if_neg c30_7, if_neg c42_10] at hv57_5
        rw [hv57_5] at J57_6
        exact J57_6
  have fin : v57_5 = own_pr sv (R x2) (R (x2 + (1 : Int32))) := by rw [hv57_5]; rfl
  rw [fin]
  exact OD.ret X0 hx hlk (t := .boolean) Bd.returns (own_pr_nar _ _ _) (Or.inl ⟨rfl, Or.inr (Or.inl rfl), _, rfl⟩) (hb hby d3_57) (Nat.le_of_ble_eq_true rfl) (Nat.le_of_ble_eq_true rfl) ⟨rfl, rfl, e0⟩
def Q_rm0 (Z : State) (p0 : Int32) (p1 : Int32) (p2 : Int32) (p3 : Int32) (p4 : Int32) (p5 : Int32) (h0 : Heap) (v : Option Value) (h : Heap) (L : List Loc) : Prop := v = some (.int 1) ∧ Fr h0.size L
set_option maxRecDepth 65536 in
set_option maxHeartbeats 40000000 in
theorem rm0 (l : Launch) (Z : State) (a0 : Array Value) (hw : ∀ d ∈ tables_1, d.before a0 Z = true) (ws : List Jvm.Cond) (p0 : Int32) (p1 : Int32) (p2 : Int32) (p3 : Int32) (p4 : Int32) (p5 : Int32) (h0 : Heap)  :
    MetFree l x (head1 (Jvm.Cond.code x code maxLocals ret :: ws) room_1) (fun a U => a = #[(.int p0), (.int p1), (.int p2), (.int p3), (.int p4), (.int p5)] ∧ Z.Warmed39 U.vm ∧ U.heap = h0) (fun _ _ _ _ _ => True) (fun _ U o U' => ∃ v L, o = .returned v ∧ Q_rm0 Z p0 p1 p2 p3 p4 p5 h0 v U'.heap L ∧ FrameEnd U o U' L 16 128) := by
  refine MetFree.of_bodySF (plainFor_of_name pn1) hisR ?_
  intro p e s m args below meth c s₁ Bd hml0 hP hK
  obtain ⟨rfl, hZ, hh⟩ := hP
  have hx := Bd.exec
  have hby := Bd.bytes
  have hlk : meth.locks = false := Bd.notSynchronized
  have hml : c.maxLocals = 10 := hml0
  have hown : s.vm.findClass "com/example/topside/topside/DescendingOrderOfPinLaw" = some m.cls := findClass_of_methodNamed Bd.named
  have hnm := (name_of_methodNamed Bd.named Bd.method).1
  have X0 : Stand p l e room_1 s m #[(.int p0), (.int p1), (.int p2), (.int p3), (.int p4), (.int p5)] below meth c s₁ [] 0 0 := Stand.of_body Bd
  have e0 : s₁.heap = h0 := by rw [← hh, Bd.state]; rfl
  have N0 := Fr.nil h0.size
  suffices hgo : OD p e s below (Q_rm0 Z p0 p1 p2 p3 p4 p5 h0) 16 128 (s₁.setTop (mkF m 0 #[.val (.int p0), .val (.int p1), .val (.int p2), .val (.int p3), .val (.int p4), .val (.int p5), .unset, .unset, .unset, .unset] [])) by
    obtain ⟨s₂, o, hgo1, hgo2⟩ := hgo
    exact ⟨s₂, o, castTop (ef5 m p0 p1 p2 p3 p4 p5) hgo1, hgo2⟩
  refine OD.go (B := (s₁.setTop (mkF m 1 #[.val (.int p0), .val (.int p1), .val (.int p2), .val (.int p3), .val (.int p4), .val (.int p5), .unset, .unset, .unset, .unset] [(.int p0)]))) (fun t k => XS.iloadN X0.here hx rfl (hb hby at_0) rfl k) ?_
  refine OD.go (B := (s₁.setTop (mkF m 3 #[.val (.int p0), .val (.int p1), .val (.int p2), .val (.int p3), .val (.int p4), .val (.int p5), .unset, .unset, .unset, .unset] [(.int 7), (.int p0)]))) (fun t k => XS.bipush X0.here hx rfl (hb hby at_1) k) ?_
  refine OD.go (B := (s₁.setTop (mkF m 4 #[.val (.int p0), .val (.int p1), .val (.int p2), .val (.int p3), .val (.int p4), .val (.int p5), .unset, .unset, .unset, .unset] [(.int (p0 &&& (7 : Int32)))]))) (fun t k => XS.iand X0.here hx rfl (hb hby at_3) rfl k) ?_
  refine OD.go (B := (s₁.setTop (mkF m 6 #[.val (.int p0), .val (.int p1), .val (.int p2), .val (.int p3), .val (.int p4), .val (.int p5), .unset, .unset, .unset, .unset] [(.int 6), (.int (p0 &&& (7 : Int32)))]))) (fun t k => XS.bipush X0.here hx rfl (hb hby at_4) k) ?_
  refine OD.go (B := (s₁.setTop (mkF m 7 #[.val (.int p0), .val (.int p1), .val (.int p2), .val (.int p3), .val (.int p4), .val (.int p5), .unset, .unset, .unset, .unset] [(.int ((p0 &&& (7 : Int32)) % (6 : Int32)))]))) (fun t k => iremM X0 hx rfl (hb hby at_6) rfl (by decide) k) ?_
  refine OD.go (B := (s₁.setTop (mkF m 9 #[.val (.int p0), .val (.int p1), .val (.int p2), .val (.int p3), .val (.int p4), .val (.int p5), .val (.int ((p0 &&& (7 : Int32)) % (6 : Int32))), .unset, .unset, .unset] []))) (fun t k => XS.istore X0.here hx rfl (hb hby at_7) rfl (l' := #[.val (.int p0), .val (.int p1), .val (.int p2), .val (.int p3), .val (.int p4), .val (.int p5), .val (.int ((p0 &&& (7 : Int32)) % (6 : Int32))), .unset, .unset, .unset]) rfl k) ?_
  generalize hu7_1 : ((p0 &&& (7 : Int32)) % (6 : Int32)) = u7_1
  obtain ⟨sv0, hsv⟩ : ∃ f : Int32 → UInt64, f = own_sv p1 p2 p3 p4 p5 := ⟨_, rfl⟩
  rcases own_n6 hu7_1 with q6 | q6 | q6 | q6 | q6 | q6
  · subst q6
    refine OD.go (B := (s₁.setTop (mkF m 11 #[.val (.int p0), .val (.int p1), .val (.int p2), .val (.int p3), .val (.int p4), .val (.int p5), .val (.int 0), .unset, .unset, .unset] [(.int 0)]))) (fun t k => XS.iload X0.here hx rfl (hb hby at_9) rfl k) ?_
    obtain ⟨T2, h2, k2, X2, e2, E2, A2, st2⟩ := newP X0 hx hZ (aty := .double) (Wd0 hw) e0 (g := (mkF m 11 #[.val (.int p0), .val (.int p1), .val (.int p2), .val (.int p3), .val (.int p4), .val (.int p5), .val (.int 0), .unset, .unset, .unset] [(.int 0)])) rfl (hb hby at_11) rfl (by decide) (cap := 0) (by decide) (by decide) (Nat.le_of_ble_eq_true rfl) (Nat.le_of_ble_eq_true rfl)
    obtain ⟨b2, g2⟩ : ∃ z, z = h0.size := ⟨_, rfl⟩
    rw [← g2] at A2 st2
    have V2 : Arv Z h2 b2 k2 .double (0 : Int32) [] (.double (0 : UInt64)) := Arv.new A2 (by decide)
    refine OD.go (B := (T2.setTop (mkF m 13 #[.val (.int p0), .val (.int p1), .val (.int p2), .val (.int p3), .val (.int p4), .val (.int p5), .val (.int 0), .unset, .unset, .unset] [(.ref b2)]))) st2 ?_
    refine OD.go (B := (T2.setTop (mkF m 15 #[.val (.int p0), .val (.int p1), .val (.int p2), .val (.int p3), .val (.int p4), .val (.int p5), .val (.int 0), .val (.ref b2), .unset, .unset] []))) (fun t k => XS.astore X2.here hx rfl (hb hby at_13) rfl rfl (l' := #[.val (.int p0), .val (.int p1), .val (.int p2), .val (.int p3), .val (.int p4), .val (.int p5), .val (.int 0), .val (.ref b2), .unset, .unset]) rfl k) ?_
    refine OD.go (B := (T2.setTop (mkF m 17 #[.val (.int p0), .val (.int p1), .val (.int p2), .val (.int p3), .val (.int p4), .val (.int p5), .val (.int 0), .val (.ref b2), .unset, .unset] [(.int 0)]))) (fun t k => XS.iload X2.here hx rfl (hb hby at_15) rfl k) ?_
    refine OD.go (B := (T2.setTop (mkF m 26 #[.val (.int p0), .val (.int p1), .val (.int p2), .val (.int p3), .val (.int p4), .val (.int p5), .val (.int 0), .val (.ref b2), .unset, .unset] []))) (fun t k => XS.ifYes X2.here hx rfl (pc0 := 17) (pc' := 26) rfl (hb hby at_17) rfl (by rw [if0]; exact (flt (by decide : ¬ (0 : Int32) < (0 : Int32))).2.2.2) (by decide) (by decide) k) ?_
    refine OD.go (B := (T2.setTop (mkF m 28 #[.val (.int p0), .val (.int p1), .val (.int p2), .val (.int p3), .val (.int p4), .val (.int p5), .val (.int 0), .val (.ref b2), .unset, .unset] [(.int 0)]))) (fun t k => XS.iload X2.here hx rfl (hb hby at_26) rfl k) ?_
    refine OD.go (B := (T2.setTop (mkF m 29 #[.val (.int p0), .val (.int p1), .val (.int p2), .val (.int p3), .val (.int p4), .val (.int p5), .val (.int 0), .val (.ref b2), .unset, .unset] [(.int 1), (.int 0)]))) (fun t k => XS.iconst X2.here hx rfl (hb hby at_28) k) ?_
    refine OD.go (B := (T2.setTop (mkF m 38 #[.val (.int p0), .val (.int p1), .val (.int p2), .val (.int p3), .val (.int p4), .val (.int p5), .val (.int 0), .val (.ref b2), .unset, .unset] []))) (fun t k => XS.icmpYes X2.here hx rfl (pc0 := 29) (pc' := 38) rfl (hb hby at_29) rfl (flt (by decide : ¬ (1 : Int32) < (0 : Int32))).2.2.2 (by decide) (by decide) k) ?_
    refine OD.go (B := (T2.setTop (mkF m 40 #[.val (.int p0), .val (.int p1), .val (.int p2), .val (.int p3), .val (.int p4), .val (.int p5), .val (.int 0), .val (.ref b2), .unset, .unset] [(.int 0)]))) (fun t k => XS.iload X2.here hx rfl (hb hby at_38) rfl k) ?_
    refine OD.go (B := (T2.setTop (mkF m 41 #[.val (.int p0), .val (.int p1), .val (.int p2), .val (.int p3), .val (.int p4), .val (.int p5), .val (.int 0), .val (.ref b2), .unset, .unset] [(.int 2), (.int 0)]))) (fun t k => XS.iconst X2.here hx rfl (hb hby at_40) k) ?_
    refine OD.go (B := (T2.setTop (mkF m 50 #[.val (.int p0), .val (.int p1), .val (.int p2), .val (.int p3), .val (.int p4), .val (.int p5), .val (.int 0), .val (.ref b2), .unset, .unset] []))) (fun t k => XS.icmpYes X2.here hx rfl (pc0 := 41) (pc' := 50) rfl (hb hby at_41) rfl (flt (by decide : ¬ (2 : Int32) < (0 : Int32))).2.2.2 (by decide) (by decide) k) ?_
    refine OD.go (B := (T2.setTop (mkF m 52 #[.val (.int p0), .val (.int p1), .val (.int p2), .val (.int p3), .val (.int p4), .val (.int p5), .val (.int 0), .val (.ref b2), .unset, .unset] [(.int 0)]))) (fun t k => XS.iload X2.here hx rfl (hb hby at_50) rfl k) ?_
    refine OD.go (B := (T2.setTop (mkF m 53 #[.val (.int p0), .val (.int p1), .val (.int p2), .val (.int p3), .val (.int p4), .val (.int p5), .val (.int 0), .val (.ref b2), .unset, .unset] [(.int 3), (.int 0)]))) (fun t k => XS.iconst X2.here hx rfl (hb hby at_52) k) ?_
    refine OD.go (B := (T2.setTop (mkF m 63 #[.val (.int p0), .val (.int p1), .val (.int p2), .val (.int p3), .val (.int p4), .val (.int p5), .val (.int 0), .val (.ref b2), .unset, .unset] []))) (fun t k => XS.icmpYes X2.here hx rfl (pc0 := 53) (pc' := 63) rfl (hb hby at_53) rfl (flt (by decide : ¬ (3 : Int32) < (0 : Int32))).2.2.2 (by decide) (by decide) k) ?_
    refine OD.go (B := (T2.setTop (mkF m 65 #[.val (.int p0), .val (.int p1), .val (.int p2), .val (.int p3), .val (.int p4), .val (.int p5), .val (.int 0), .val (.ref b2), .unset, .unset] [(.int 0)]))) (fun t k => XS.iload X2.here hx rfl (hb hby at_63) rfl k) ?_
    refine OD.go (B := (T2.setTop (mkF m 66 #[.val (.int p0), .val (.int p1), .val (.int p2), .val (.int p3), .val (.int p4), .val (.int p5), .val (.int 0), .val (.ref b2), .unset, .unset] [(.int 4), (.int 0)]))) (fun t k => XS.iconst X2.here hx rfl (hb hby at_65) k) ?_
    refine OD.go (B := (T2.setTop (mkF m 76 #[.val (.int p0), .val (.int p1), .val (.int p2), .val (.int p3), .val (.int p4), .val (.int p5), .val (.int 0), .val (.ref b2), .unset, .unset] []))) (fun t k => XS.icmpYes X2.here hx rfl (pc0 := 66) (pc' := 76) rfl (hb hby at_66) rfl (flt (by decide : ¬ (4 : Int32) < (0 : Int32))).2.2.2 (by decide) (by decide) k) ?_
    refine OD.go (B := (T2.setTop (mkF m 78 #[.val (.int p0), .val (.int p1), .val (.int p2), .val (.int p3), .val (.int p4), .val (.int p5), .val (.int 0), .val (.ref b2), .unset, .unset] [(.ref b2)]))) (fun t k => XS.aload X2.here hx rfl (hb hby at_76) rfl rfl k) ?_
    have Vf3 : Arv Z h2 b2 k2 .double (0 : Int32) (own_rg (0 : Int32).toNatClampNeg (fun x => .double (sv0 x))) (.double 0) := by rw [hsv]; exact V2
    obtain ⟨_, _, ⟨T4, L4, k4, n4⟩, -, X4, ⟨Lc4, hQ4, l4, y4, z4⟩, st4⟩ := Jvm.LawKit.callS X2 hx (y := (⟨"com/example/topside/topside/DescendingOrder", "of", "([D)[I"⟩ : MethodName)) hown (mvT hZ (Wd1 hw)) (mvT hZ (Wd2 hw)) (mvT hZ (Wd3 hw)) (mvT hZ (Wd4 hw)) (by decide) (backOf (W := 0) (rmO0 l Z a0 hw [] b2 h2 h0.size (Nat.le_trans (Nat.le_refl _) E2.1) k2 sv0 Vf3) hZ (Wd4 hw) (Wd3 hw) (by decide) (by decide)) (g := (mkF m 78 #[.val (.int p0), .val (.int p1), .val (.int p2), .val (.int p3), .val (.int p4), .val (.int p5), .val (.int 0), .val (.ref b2), .unset, .unset] [(.ref b2)])) rfl (by rw [hml]; rfl) (argsL := [(.ref b2)]) (rest := []) (lenOf pd2 rfl) rfl (by show 2 * 0 + _ ≤ _; exact Nat.le_of_eq rfl) (hb hby at_78) (fun _ _ => ⟨rfl, e2, (Nat.le_of_ble_eq_true rfl), (Nat.le_of_ble_eq_true rfl)⟩)
    dsimp only [Pt.U, Pt.locs, Pt.cells, Pt.slots] at X4 l4 y4 z4 st4 hQ4
    subst l4 y4 z4
    obtain ⟨b4, k4', rfl, Nq4, K4, ob4, A4⟩ := hQ4
    have N4 := Fr.app N0 Nq4
    refine OD.go (B := (T4.setTop (mkF m 81 #[.val (.int p0), .val (.int p1), .val (.int p2), .val (.int p3), .val (.int p4), .val (.int p5), .val (.int 0), .val (.ref b2), .unset, .unset] [(.ref b4)]))) st4 ?_
    refine OD.go (B := (T4.setTop (mkF m 83 #[.val (.int p0), .val (.int p1), .val (.int p2), .val (.int p3), .val (.int p4), .val (.int p5), .val (.int 0), .val (.ref b2), .val (.ref b4), .unset] []))) (fun t k => XS.astore X4.here hx rfl (hb hby at_81) rfl rfl (l' := #[.val (.int p0), .val (.int p1), .val (.int p2), .val (.int p3), .val (.int p4), .val (.int p5), .val (.int 0), .val (.ref b2), .val (.ref b4), .unset]) rfl k) ?_
    refine OD.go (B := (T4.setTop (mkF m 85 #[.val (.int p0), .val (.int p1), .val (.int p2), .val (.int p3), .val (.int p4), .val (.int p5), .val (.int 0), .val (.ref b2), .val (.ref b4), .unset] [(.ref b4)]))) (fun t k => XS.aload X4.here hx rfl (hb hby at_83) rfl rfl k) ?_
    refine OD.go (B := (T4.setTop (mkF m 88 #[.val (.int p0), .val (.int p1), .val (.int p2), .val (.int p3), .val (.int p4), .val (.int p5), .val (.int 0), .val (.ref b2), .val (.ref b4), .unset] []))) (fun t k => XS.ifnullNo X4.here hx rfl (hb hby at_85) rfl k) ?_
    refine OD.go (B := (T4.setTop (mkF m 90 #[.val (.int p0), .val (.int p1), .val (.int p2), .val (.int p3), .val (.int p4), .val (.int p5), .val (.int 0), .val (.ref b2), .val (.ref b4), .unset] [(.ref b4)]))) (fun t k => XS.aload X4.here hx rfl (hb hby at_88) rfl rfl k) ?_
    obtain ⟨cl5, Ar5, hl5⟩ := own_len A4
    refine OD.go (B := (T4.setTop (mkF m 91 #[.val (.int p0), .val (.int p1), .val (.int p2), .val (.int p3), .val (.int p4), .val (.int p5), .val (.int 0), .val (.ref b2), .val (.ref b4), .unset] [(.int 0)]))) (fun t k => X4.arraylength hx (by exact Ar5.1) (State.isArrayOf_alike hZ.alike Ar5.2.1) (g := (mkF m 90 #[.val (.int p0), .val (.int p1), .val (.int p2), .val (.int p3), .val (.int p4), .val (.int p5), .val (.int 0), .val (.ref b2), .val (.ref b4), .unset] [(.ref b4)])) rfl rfl (hb hby at_90) _ (by rw [hl5]; exact k)) ?_
    refine OD.go (B := (T4.setTop (mkF m 93 #[.val (.int p0), .val (.int p1), .val (.int p2), .val (.int p3), .val (.int p4), .val (.int p5), .val (.int 0), .val (.ref b2), .val (.ref b4), .unset] [(.int 0), (.int 0)]))) (fun t k => XS.iload X4.here hx rfl (hb hby at_91) rfl k) ?_
    refine OD.go (B := (T4.setTop (mkF m 98 #[.val (.int p0), .val (.int p1), .val (.int p2), .val (.int p3), .val (.int p4), .val (.int p5), .val (.int 0), .val (.ref b2), .val (.ref b4), .unset] []))) (fun t k => XS.icmpYes X4.here hx rfl (pc0 := 93) (pc' := 98) rfl (hb hby at_93) rfl (teq (by decide : (0 : Int32) = (0 : Int32))).1 (by decide) (by decide) k) ?_
    refine OD.go (B := (T4.setTop (mkF m 100 #[.val (.int p0), .val (.int p1), .val (.int p2), .val (.int p3), .val (.int p4), .val (.int p5), .val (.int 0), .val (.ref b2), .val (.ref b4), .unset] [(.ref b4)]))) (fun t k => XS.aload X4.here hx rfl (hb hby at_98) rfl rfl k) ?_
    refine OD.go (B := (T4.setTop (mkF m 101 #[.val (.int p0), .val (.int p1), .val (.int p2), .val (.int p3), .val (.int p4), .val (.int p5), .val (.int 0), .val (.ref b2), .val (.ref b4), .unset] [(.int 0), (.ref b4)]))) (fun t k => XS.iconst X4.here hx rfl (hb hby at_100) k) ?_
    refine OD.go (B := (T4.setTop (mkF m 103 #[.val (.int p0), .val (.int p1), .val (.int p2), .val (.int p3), .val (.int p4), .val (.int p5), .val (.int 0), .val (.ref b2), .val (.ref b4), .unset] [(.int 0), (.int 0), (.ref b4)]))) (fun t k => XS.iload X4.here hx rfl (hb hby at_101) rfl k) ?_
    obtain ⟨_, _, ⟨T6, L6, k6, n6⟩, -, X6, ⟨Lc6, hQ6, l6, y6, z6⟩, st6⟩ := Jvm.LawKit.callS X4 hx (y := (⟨"com/example/topside/topside/DescendingOrderOfPinLaw", "bit", "([III)I"⟩ : MethodName)) hown (mvT hZ (Wd6 hw)) (mvT hZ (Wd7 hw)) (mvT hZ (Wd8 hw)) (mvT hZ (Wd9 hw)) (by decide) (backOf (W := 0) (rmB0 l Z a0 hw [] b4 (0 : Int32) (0 : Int32) T4.heap (by decide)) hZ (Wd9 hw) (Wd8 hw) (by decide) (by decide)) (g := (mkF m 103 #[.val (.int p0), .val (.int p1), .val (.int p2), .val (.int p3), .val (.int p4), .val (.int p5), .val (.int 0), .val (.ref b2), .val (.ref b4), .unset] [(.int 0), (.int 0), (.ref b4)])) rfl (by rw [hml]; rfl) (argsL := [(.ref b4), (.int 0), (.int 0)]) (rest := []) (lenOf pd3 rfl) rfl (by show 2 * 0 + _ ≤ _; exact Nat.le_of_eq rfl) (hb hby at_103) (fun _ _ => ⟨rfl, rfl, (Nat.le_of_ble_eq_true rfl), (Nat.le_of_ble_eq_true rfl)⟩)
    dsimp only [Pt.U, Pt.locs, Pt.cells, Pt.slots] at X6 l6 y6 z6 st6 hQ6
    subst l6 y6 z6
    obtain ⟨rfl, rfl, e6⟩ := hQ6
    try rw [List.append_nil] at X6
    refine OD.go (B := (T6.setTop (mkF m 106 #[.val (.int p0), .val (.int p1), .val (.int p2), .val (.int p3), .val (.int p4), .val (.int p5), .val (.int 0), .val (.ref b2), .val (.ref b4), .unset] [(.int 0)]))) st6 ?_
    refine OD.go (B := (T6.setTop (mkF m 108 #[.val (.int p0), .val (.int p1), .val (.int p2), .val (.int p3), .val (.int p4), .val (.int p5), .val (.int 0), .val (.ref b2), .val (.ref b4), .unset] [(.ref b4), (.int 0)]))) (fun t k => XS.aload X6.here hx rfl (hb hby at_106) rfl rfl k) ?_
    refine OD.go (B := (T6.setTop (mkF m 109 #[.val (.int p0), .val (.int p1), .val (.int p2), .val (.int p3), .val (.int p4), .val (.int p5), .val (.int 0), .val (.ref b2), .val (.ref b4), .unset] [(.int 1), (.ref b4), (.int 0)]))) (fun t k => XS.iconst X6.here hx rfl (hb hby at_108) k) ?_
    refine OD.go (B := (T6.setTop (mkF m 111 #[.val (.int p0), .val (.int p1), .val (.int p2), .val (.int p3), .val (.int p4), .val (.int p5), .val (.int 0), .val (.ref b2), .val (.ref b4), .unset] [(.int 0), (.int 1), (.ref b4), (.int 0)]))) (fun t k => XS.iload X6.here hx rfl (hb hby at_109) rfl k) ?_
    obtain ⟨_, _, ⟨T7, L7, k7, n7⟩, -, X7, ⟨Lc7, hQ7, l7, y7, z7⟩, st7⟩ := Jvm.LawKit.callS X6 hx (y := (⟨"com/example/topside/topside/DescendingOrderOfPinLaw", "bit", "([III)I"⟩ : MethodName)) hown (mvT hZ (Wd6 hw)) (mvT hZ (Wd7 hw)) (mvT hZ (Wd8 hw)) (mvT hZ (Wd9 hw)) (by decide) (backOf (W := 1) (rmB0 l Z a0 hw [] b4 (1 : Int32) (0 : Int32) T4.heap (by decide)) hZ (Wd9 hw) (Wd8 hw) (by decide) (by decide)) (g := (mkF m 111 #[.val (.int p0), .val (.int p1), .val (.int p2), .val (.int p3), .val (.int p4), .val (.int p5), .val (.int 0), .val (.ref b2), .val (.ref b4), .unset] [(.int 0), (.int 1), (.ref b4), (.int 0)])) rfl (by rw [hml]; rfl) (argsL := [(.ref b4), (.int 1), (.int 0)]) (rest := [(.int 0)]) (lenOf pd3 rfl) rfl (by show 2 * 0 + _ ≤ _; exact Nat.le_of_eq rfl) (hb hby at_111) (fun _ _ => ⟨rfl, e6, (Nat.le_of_ble_eq_true rfl), (Nat.le_of_ble_eq_true rfl)⟩)
    dsimp only [Pt.U, Pt.locs, Pt.cells, Pt.slots] at X7 l7 y7 z7 st7 hQ7
    subst l7 y7 z7
    obtain ⟨rfl, rfl, e7⟩ := hQ7
    try rw [List.append_nil] at X7
    refine OD.go (B := (T7.setTop (mkF m 114 #[.val (.int p0), .val (.int p1), .val (.int p2), .val (.int p3), .val (.int p4), .val (.int p5), .val (.int 0), .val (.ref b2), .val (.ref b4), .unset] [(.int 0), (.int 0)]))) st7 ?_
    refine OD.go (B := (T7.setTop (mkF m 115 #[.val (.int p0), .val (.int p1), .val (.int p2), .val (.int p3), .val (.int p4), .val (.int p5), .val (.int 0), .val (.ref b2), .val (.ref b4), .unset] [(.int ((0 : Int32) ||| (0 : Int32)))]))) (fun t k => XS.ior X7.here hx rfl (hb hby at_114) rfl k) ?_
    refine OD.go (B := (T7.setTop (mkF m 117 #[.val (.int p0), .val (.int p1), .val (.int p2), .val (.int p3), .val (.int p4), .val (.int p5), .val (.int 0), .val (.ref b2), .val (.ref b4), .unset] [(.ref b4), (.int ((0 : Int32) ||| (0 : Int32)))]))) (fun t k => XS.aload X7.here hx rfl (hb hby at_115) rfl rfl k) ?_
    refine OD.go (B := (T7.setTop (mkF m 118 #[.val (.int p0), .val (.int p1), .val (.int p2), .val (.int p3), .val (.int p4), .val (.int p5), .val (.int 0), .val (.ref b2), .val (.ref b4), .unset] [(.int 2), (.ref b4), (.int ((0 : Int32) ||| (0 : Int32)))]))) (fun t k => XS.iconst X7.here hx rfl (hb hby at_117) k) ?_
    refine OD.go (B := (T7.setTop (mkF m 120 #[.val (.int p0), .val (.int p1), .val (.int p2), .val (.int p3), .val (.int p4), .val (.int p5), .val (.int 0), .val (.ref b2), .val (.ref b4), .unset] [(.int 0), (.int 2), (.ref b4), (.int ((0 : Int32) ||| (0 : Int32)))]))) (fun t k => XS.iload X7.here hx rfl (hb hby at_118) rfl k) ?_
    obtain ⟨_, _, ⟨T8, L8, k8, n8⟩, -, X8, ⟨Lc8, hQ8, l8, y8, z8⟩, st8⟩ := Jvm.LawKit.callS X7 hx (y := (⟨"com/example/topside/topside/DescendingOrderOfPinLaw", "bit", "([III)I"⟩ : MethodName)) hown (mvT hZ (Wd6 hw)) (mvT hZ (Wd7 hw)) (mvT hZ (Wd8 hw)) (mvT hZ (Wd9 hw)) (by decide) (backOf (W := 1) (rmB0 l Z a0 hw [] b4 (2 : Int32) (0 : Int32) T4.heap (by decide)) hZ (Wd9 hw) (Wd8 hw) (by decide) (by decide)) (g := (mkF m 120 #[.val (.int p0), .val (.int p1), .val (.int p2), .val (.int p3), .val (.int p4), .val (.int p5), .val (.int 0), .val (.ref b2), .val (.ref b4), .unset] [(.int 0), (.int 2), (.ref b4), (.int ((0 : Int32) ||| (0 : Int32)))])) rfl (by rw [hml]; rfl) (argsL := [(.ref b4), (.int 2), (.int 0)]) (rest := [(.int ((0 : Int32) ||| (0 : Int32)))]) (lenOf pd3 rfl) rfl (by show 2 * 0 + _ ≤ _; exact Nat.le_of_eq rfl) (hb hby at_120) (fun _ _ => ⟨rfl, e7, (Nat.le_of_ble_eq_true rfl), (Nat.le_of_ble_eq_true rfl)⟩)
    dsimp only [Pt.U, Pt.locs, Pt.cells, Pt.slots] at X8 l8 y8 z8 st8 hQ8
    subst l8 y8 z8
    obtain ⟨rfl, rfl, e8⟩ := hQ8
    try rw [List.append_nil] at X8
    refine OD.go (B := (T8.setTop (mkF m 123 #[.val (.int p0), .val (.int p1), .val (.int p2), .val (.int p3), .val (.int p4), .val (.int p5), .val (.int 0), .val (.ref b2), .val (.ref b4), .unset] [(.int 0), (.int ((0 : Int32) ||| (0 : Int32)))]))) st8 ?_
    refine OD.go (B := (T8.setTop (mkF m 124 #[.val (.int p0), .val (.int p1), .val (.int p2), .val (.int p3), .val (.int p4), .val (.int p5), .val (.int 0), .val (.ref b2), .val (.ref b4), .unset] [(.int (((0 : Int32) ||| (0 : Int32)) ||| (0 : Int32)))]))) (fun t k => XS.ior X8.here hx rfl (hb hby at_123) rfl k) ?_
    refine OD.go (B := (T8.setTop (mkF m 126 #[.val (.int p0), .val (.int p1), .val (.int p2), .val (.int p3), .val (.int p4), .val (.int p5), .val (.int 0), .val (.ref b2), .val (.ref b4), .unset] [(.ref b4), (.int (((0 : Int32) ||| (0 : Int32)) ||| (0 : Int32)))]))) (fun t k => XS.aload X8.here hx rfl (hb hby at_124) rfl rfl k) ?_
    refine OD.go (B := (T8.setTop (mkF m 127 #[.val (.int p0), .val (.int p1), .val (.int p2), .val (.int p3), .val (.int p4), .val (.int p5), .val (.int 0), .val (.ref b2), .val (.ref b4), .unset] [(.int 3), (.ref b4), (.int (((0 : Int32) ||| (0 : Int32)) ||| (0 : Int32)))]))) (fun t k => XS.iconst X8.here hx rfl (hb hby at_126) k) ?_
    refine OD.go (B := (T8.setTop (mkF m 129 #[.val (.int p0), .val (.int p1), .val (.int p2), .val (.int p3), .val (.int p4), .val (.int p5), .val (.int 0), .val (.ref b2), .val (.ref b4), .unset] [(.int 0), (.int 3), (.ref b4), (.int (((0 : Int32) ||| (0 : Int32)) ||| (0 : Int32)))]))) (fun t k => XS.iload X8.here hx rfl (hb hby at_127) rfl k) ?_
    obtain ⟨_, _, ⟨T9, L9, k9, n9⟩, -, X9, ⟨Lc9, hQ9, l9, y9, z9⟩, st9⟩ := Jvm.LawKit.callS X8 hx (y := (⟨"com/example/topside/topside/DescendingOrderOfPinLaw", "bit", "([III)I"⟩ : MethodName)) hown (mvT hZ (Wd6 hw)) (mvT hZ (Wd7 hw)) (mvT hZ (Wd8 hw)) (mvT hZ (Wd9 hw)) (by decide) (backOf (W := 1) (rmB0 l Z a0 hw [] b4 (3 : Int32) (0 : Int32) T4.heap (by decide)) hZ (Wd9 hw) (Wd8 hw) (by decide) (by decide)) (g := (mkF m 129 #[.val (.int p0), .val (.int p1), .val (.int p2), .val (.int p3), .val (.int p4), .val (.int p5), .val (.int 0), .val (.ref b2), .val (.ref b4), .unset] [(.int 0), (.int 3), (.ref b4), (.int (((0 : Int32) ||| (0 : Int32)) ||| (0 : Int32)))])) rfl (by rw [hml]; rfl) (argsL := [(.ref b4), (.int 3), (.int 0)]) (rest := [(.int (((0 : Int32) ||| (0 : Int32)) ||| (0 : Int32)))]) (lenOf pd3 rfl) rfl (by show 2 * 0 + _ ≤ _; exact Nat.le_of_eq rfl) (hb hby at_129) (fun _ _ => ⟨rfl, e8, (Nat.le_of_ble_eq_true rfl), (Nat.le_of_ble_eq_true rfl)⟩)
    dsimp only [Pt.U, Pt.locs, Pt.cells, Pt.slots] at X9 l9 y9 z9 st9 hQ9
    subst l9 y9 z9
    obtain ⟨rfl, rfl, e9⟩ := hQ9
    try rw [List.append_nil] at X9
    refine OD.go (B := (T9.setTop (mkF m 132 #[.val (.int p0), .val (.int p1), .val (.int p2), .val (.int p3), .val (.int p4), .val (.int p5), .val (.int 0), .val (.ref b2), .val (.ref b4), .unset] [(.int 0), (.int (((0 : Int32) ||| (0 : Int32)) ||| (0 : Int32)))]))) st9 ?_
    refine OD.go (B := (T9.setTop (mkF m 133 #[.val (.int p0), .val (.int p1), .val (.int p2), .val (.int p3), .val (.int p4), .val (.int p5), .val (.int 0), .val (.ref b2), .val (.ref b4), .unset] [(.int ((((0 : Int32) ||| (0 : Int32)) ||| (0 : Int32)) ||| (0 : Int32)))]))) (fun t k => XS.ior X9.here hx rfl (hb hby at_132) rfl k) ?_
    refine OD.go (B := (T9.setTop (mkF m 135 #[.val (.int p0), .val (.int p1), .val (.int p2), .val (.int p3), .val (.int p4), .val (.int p5), .val (.int 0), .val (.ref b2), .val (.ref b4), .unset] [(.ref b4), (.int ((((0 : Int32) ||| (0 : Int32)) ||| (0 : Int32)) ||| (0 : Int32)))]))) (fun t k => XS.aload X9.here hx rfl (hb hby at_133) rfl rfl k) ?_
    refine OD.go (B := (T9.setTop (mkF m 136 #[.val (.int p0), .val (.int p1), .val (.int p2), .val (.int p3), .val (.int p4), .val (.int p5), .val (.int 0), .val (.ref b2), .val (.ref b4), .unset] [(.int 4), (.ref b4), (.int ((((0 : Int32) ||| (0 : Int32)) ||| (0 : Int32)) ||| (0 : Int32)))]))) (fun t k => XS.iconst X9.here hx rfl (hb hby at_135) k) ?_
    refine OD.go (B := (T9.setTop (mkF m 138 #[.val (.int p0), .val (.int p1), .val (.int p2), .val (.int p3), .val (.int p4), .val (.int p5), .val (.int 0), .val (.ref b2), .val (.ref b4), .unset] [(.int 0), (.int 4), (.ref b4), (.int ((((0 : Int32) ||| (0 : Int32)) ||| (0 : Int32)) ||| (0 : Int32)))]))) (fun t k => XS.iload X9.here hx rfl (hb hby at_136) rfl k) ?_
    obtain ⟨_, _, ⟨T10, L10, k10, n10⟩, -, X10, ⟨Lc10, hQ10, l10, y10, z10⟩, st10⟩ := Jvm.LawKit.callS X9 hx (y := (⟨"com/example/topside/topside/DescendingOrderOfPinLaw", "bit", "([III)I"⟩ : MethodName)) hown (mvT hZ (Wd6 hw)) (mvT hZ (Wd7 hw)) (mvT hZ (Wd8 hw)) (mvT hZ (Wd9 hw)) (by decide) (backOf (W := 1) (rmB0 l Z a0 hw [] b4 (4 : Int32) (0 : Int32) T4.heap (by decide)) hZ (Wd9 hw) (Wd8 hw) (by decide) (by decide)) (g := (mkF m 138 #[.val (.int p0), .val (.int p1), .val (.int p2), .val (.int p3), .val (.int p4), .val (.int p5), .val (.int 0), .val (.ref b2), .val (.ref b4), .unset] [(.int 0), (.int 4), (.ref b4), (.int ((((0 : Int32) ||| (0 : Int32)) ||| (0 : Int32)) ||| (0 : Int32)))])) rfl (by rw [hml]; rfl) (argsL := [(.ref b4), (.int 4), (.int 0)]) (rest := [(.int ((((0 : Int32) ||| (0 : Int32)) ||| (0 : Int32)) ||| (0 : Int32)))]) (lenOf pd3 rfl) rfl (by show 2 * 0 + _ ≤ _; exact Nat.le_of_eq rfl) (hb hby at_138) (fun _ _ => ⟨rfl, e9, (Nat.le_of_ble_eq_true rfl), (Nat.le_of_ble_eq_true rfl)⟩)
    dsimp only [Pt.U, Pt.locs, Pt.cells, Pt.slots] at X10 l10 y10 z10 st10 hQ10
    subst l10 y10 z10
    obtain ⟨rfl, rfl, e10⟩ := hQ10
    try rw [List.append_nil] at X10
    refine OD.go (B := (T10.setTop (mkF m 141 #[.val (.int p0), .val (.int p1), .val (.int p2), .val (.int p3), .val (.int p4), .val (.int p5), .val (.int 0), .val (.ref b2), .val (.ref b4), .unset] [(.int 0), (.int ((((0 : Int32) ||| (0 : Int32)) ||| (0 : Int32)) ||| (0 : Int32)))]))) st10 ?_
    refine OD.go (B := (T10.setTop (mkF m 142 #[.val (.int p0), .val (.int p1), .val (.int p2), .val (.int p3), .val (.int p4), .val (.int p5), .val (.int 0), .val (.ref b2), .val (.ref b4), .unset] [(.int (((((0 : Int32) ||| (0 : Int32)) ||| (0 : Int32)) ||| (0 : Int32)) ||| (0 : Int32)))]))) (fun t k => XS.ior X10.here hx rfl (hb hby at_141) rfl k) ?_
    refine OD.go (B := (T10.setTop (mkF m 144 #[.val (.int p0), .val (.int p1), .val (.int p2), .val (.int p3), .val (.int p4), .val (.int p5), .val (.int 0), .val (.ref b2), .val (.ref b4), .val (.int (((((0 : Int32) ||| (0 : Int32)) ||| (0 : Int32)) ||| (0 : Int32)) ||| (0 : Int32)))] []))) (fun t k => XS.istore X10.here hx rfl (hb hby at_142) rfl (l' := #[.val (.int p0), .val (.int p1), .val (.int p2), .val (.int p3), .val (.int p4), .val (.int p5), .val (.int 0), .val (.ref b2), .val (.ref b4), .val (.int (((((0 : Int32) ||| (0 : Int32)) ||| (0 : Int32)) ||| (0 : Int32)) ||| (0 : Int32)))]) rfl k) ?_
    generalize hu142_11 : (((((0 : Int32) ||| (0 : Int32)) ||| (0 : Int32)) ||| (0 : Int32)) ||| (0 : Int32)) = u142_11
    refine OD.go (B := (T10.setTop (mkF m 146 #[.val (.int p0), .val (.int p1), .val (.int p2), .val (.int p3), .val (.int p4), .val (.int p5), .val (.int 0), .val (.ref b2), .val (.ref b4), .val (.int u142_11)] [(.int u142_11)]))) (fun t k => XS.iload X10.here hx rfl (hb hby at_144) rfl k) ?_
    refine OD.go (B := (T10.setTop (mkF m 147 #[.val (.int p0), .val (.int p1), .val (.int p2), .val (.int p3), .val (.int p4), .val (.int p5), .val (.int 0), .val (.ref b2), .val (.ref b4), .val (.int u142_11)] [(.int 1), (.int u142_11)]))) (fun t k => XS.iconst X10.here hx rfl (hb hby at_146) k) ?_
    refine OD.go (B := (T10.setTop (mkF m 149 #[.val (.int p0), .val (.int p1), .val (.int p2), .val (.int p3), .val (.int p4), .val (.int p5), .val (.int 0), .val (.ref b2), .val (.ref b4), .val (.int u142_11)] [(.int 0), (.int 1), (.int u142_11)]))) (fun t k => XS.iload X10.here hx rfl (hb hby at_147) rfl k) ?_
    refine OD.go (B := (T10.setTop (mkF m 150 #[.val (.int p0), .val (.int p1), .val (.int p2), .val (.int p3), .val (.int p4), .val (.int p5), .val (.int 0), .val (.ref b2), .val (.ref b4), .val (.int u142_11)] [(.int ((1 : Int32) <<< ((0 : Int32) &&& 31))), (.int u142_11)]))) (fun t k => XS.ishl X10.here hx rfl (hb hby at_149) rfl k) ?_
    refine OD.go (B := (T10.setTop (mkF m 151 #[.val (.int p0), .val (.int p1), .val (.int p2), .val (.int p3), .val (.int p4), .val (.int p5), .val (.int 0), .val (.ref b2), .val (.ref b4), .val (.int u142_11)] [(.int 1), (.int ((1 : Int32) <<< ((0 : Int32) &&& 31))), (.int u142_11)]))) (fun t k => XS.iconst X10.here hx rfl (hb hby at_150) k) ?_
    refine OD.go (B := (T10.setTop (mkF m 152 #[.val (.int p0), .val (.int p1), .val (.int p2), .val (.int p3), .val (.int p4), .val (.int p5), .val (.int 0), .val (.ref b2), .val (.ref b4), .val (.int u142_11)] [(.int (((1 : Int32) <<< ((0 : Int32) &&& 31)) - (1 : Int32))), (.int u142_11)]))) (fun t k => XS.isub X10.here hx rfl (hb hby at_151) rfl k) ?_
    refine OD.go (B := (T10.setTop (mkF m 157 #[.val (.int p0), .val (.int p1), .val (.int p2), .val (.int p3), .val (.int p4), .val (.int p5), .val (.int 0), .val (.ref b2), .val (.ref b4), .val (.int u142_11)] []))) (fun t k => XS.icmpYes X10.here hx rfl (pc0 := 152) (pc' := 157) rfl (hb hby at_152) rfl (teq (by rw [← hu142_11]; (try rw [hsv]); exact own_mask0 p1 p2 p3 p4 p5)).1 (by decide) (by decide) k) ?_
    refine OD.go (B := (T10.setTop (mkF m 159 #[.val (.int p0), .val (.int p1), .val (.int p2), .val (.int p3), .val (.int p4), .val (.int p5), .val (.int 0), .val (.ref b2), .val (.ref b4), .val (.int u142_11)] [(.ref b2)]))) (fun t k => XS.aload X10.here hx rfl (hb hby at_157) rfl rfl k) ?_
    refine OD.go (B := (T10.setTop (mkF m 161 #[.val (.int p0), .val (.int p1), .val (.int p2), .val (.int p3), .val (.int p4), .val (.int p5), .val (.int 0), .val (.ref b2), .val (.ref b4), .val (.int u142_11)] [(.ref b4), (.ref b2)]))) (fun t k => XS.aload X10.here hx rfl (hb hby at_159) rfl rfl k) ?_
    refine OD.go (B := (T10.setTop (mkF m 162 #[.val (.int p0), .val (.int p1), .val (.int p2), .val (.int p3), .val (.int p4), .val (.int p5), .val (.int 0), .val (.ref b2), .val (.ref b4), .val (.int u142_11)] [(.int 0), (.ref b4), (.ref b2)]))) (fun t k => XS.iconst X10.here hx rfl (hb hby at_161) k) ?_
    refine OD.go (B := (T10.setTop (mkF m 164 #[.val (.int p0), .val (.int p1), .val (.int p2), .val (.int p3), .val (.int p4), .val (.int p5), .val (.int 0), .val (.ref b2), .val (.ref b4), .val (.int u142_11)] [(.int 0), (.int 0), (.ref b4), (.ref b2)]))) (fun t k => XS.iload X10.here hx rfl (hb hby at_162) rfl k) ?_
    obtain ⟨_, _, ⟨T12, L12, k12, n12⟩, -, X12, ⟨Lc12, hQ12, l12, y12, z12⟩, st12⟩ := Jvm.LawKit.callS X10 hx (y := (⟨"com/example/topside/topside/DescendingOrderOfPinLaw", "pair", "([D[III)Z"⟩ : MethodName)) hown (mvT hZ (Wd10 hw)) (mvT hZ (Wd11 hw)) (mvT hZ (Wd8 hw)) (mvT hZ (Wd12 hw)) (by decide) (backOf (W := 0) (rmP0 l Z a0 hw [] b2 b4 (0 : Int32) (0 : Int32) T4.heap (by decide)) hZ (Wd12 hw) (Wd8 hw) (by decide) (by decide)) (g := (mkF m 164 #[.val (.int p0), .val (.int p1), .val (.int p2), .val (.int p3), .val (.int p4), .val (.int p5), .val (.int 0), .val (.ref b2), .val (.ref b4), .val (.int u142_11)] [(.int 0), (.int 0), (.ref b4), (.ref b2)])) rfl (by rw [hml]; rfl) (argsL := [(.ref b2), (.ref b4), (.int 0), (.int 0)]) (rest := []) (lenOf pd4 rfl) rfl (by show 2 * 0 + _ ≤ _; exact Nat.le_of_eq rfl) (hb hby at_164) (fun _ _ => ⟨rfl, e10, (Nat.le_of_ble_eq_true rfl), (Nat.le_of_ble_eq_true rfl)⟩)
    dsimp only [Pt.U, Pt.locs, Pt.cells, Pt.slots] at X12 l12 y12 z12 st12 hQ12
    subst l12 y12 z12
    obtain ⟨rfl, rfl, e12⟩ := hQ12
    try rw [List.append_nil] at X12
    refine OD.go (B := (T12.setTop (mkF m 167 #[.val (.int p0), .val (.int p1), .val (.int p2), .val (.int p3), .val (.int p4), .val (.int p5), .val (.int 0), .val (.ref b2), .val (.ref b4), .val (.int u142_11)] [(.int 1)]))) st12 ?_
    refine OD.go (B := (T12.setTop (mkF m 170 #[.val (.int p0), .val (.int p1), .val (.int p2), .val (.int p3), .val (.int p4), .val (.int p5), .val (.int 0), .val (.ref b2), .val (.ref b4), .val (.int u142_11)] []))) (fun t k => XS.ifNo X12.here hx rfl (hb hby at_167) rfl (by rw [if0]; exact (feq (by decide : ¬ (1 : Int32) = (0 : Int32))).1) k) ?_
    refine OD.go (B := (T12.setTop (mkF m 172 #[.val (.int p0), .val (.int p1), .val (.int p2), .val (.int p3), .val (.int p4), .val (.int p5), .val (.int 0), .val (.ref b2), .val (.ref b4), .val (.int u142_11)] [(.ref b2)]))) (fun t k => XS.aload X12.here hx rfl (hb hby at_170) rfl rfl k) ?_
    refine OD.go (B := (T12.setTop (mkF m 174 #[.val (.int p0), .val (.int p1), .val (.int p2), .val (.int p3), .val (.int p4), .val (.int p5), .val (.int 0), .val (.ref b2), .val (.ref b4), .val (.int u142_11)] [(.ref b4), (.ref b2)]))) (fun t k => XS.aload X12.here hx rfl (hb hby at_172) rfl rfl k) ?_
    refine OD.go (B := (T12.setTop (mkF m 175 #[.val (.int p0), .val (.int p1), .val (.int p2), .val (.int p3), .val (.int p4), .val (.int p5), .val (.int 0), .val (.ref b2), .val (.ref b4), .val (.int u142_11)] [(.int 1), (.ref b4), (.ref b2)]))) (fun t k => XS.iconst X12.here hx rfl (hb hby at_174) k) ?_
    refine OD.go (B := (T12.setTop (mkF m 177 #[.val (.int p0), .val (.int p1), .val (.int p2), .val (.int p3), .val (.int p4), .val (.int p5), .val (.int 0), .val (.ref b2), .val (.ref b4), .val (.int u142_11)] [(.int 0), (.int 1), (.ref b4), (.ref b2)]))) (fun t k => XS.iload X12.here hx rfl (hb hby at_175) rfl k) ?_
    obtain ⟨_, _, ⟨T13, L13, k13, n13⟩, -, X13, ⟨Lc13, hQ13, l13, y13, z13⟩, st13⟩ := Jvm.LawKit.callS X12 hx (y := (⟨"com/example/topside/topside/DescendingOrderOfPinLaw", "pair", "([D[III)Z"⟩ : MethodName)) hown (mvT hZ (Wd10 hw)) (mvT hZ (Wd11 hw)) (mvT hZ (Wd8 hw)) (mvT hZ (Wd12 hw)) (by decide) (backOf (W := 0) (rmP0 l Z a0 hw [] b2 b4 (1 : Int32) (0 : Int32) T4.heap (by decide)) hZ (Wd12 hw) (Wd8 hw) (by decide) (by decide)) (g := (mkF m 177 #[.val (.int p0), .val (.int p1), .val (.int p2), .val (.int p3), .val (.int p4), .val (.int p5), .val (.int 0), .val (.ref b2), .val (.ref b4), .val (.int u142_11)] [(.int 0), (.int 1), (.ref b4), (.ref b2)])) rfl (by rw [hml]; rfl) (argsL := [(.ref b2), (.ref b4), (.int 1), (.int 0)]) (rest := []) (lenOf pd4 rfl) rfl (by show 2 * 0 + _ ≤ _; exact Nat.le_of_eq rfl) (hb hby at_177) (fun _ _ => ⟨rfl, e12, (Nat.le_of_ble_eq_true rfl), (Nat.le_of_ble_eq_true rfl)⟩)
    dsimp only [Pt.U, Pt.locs, Pt.cells, Pt.slots] at X13 l13 y13 z13 st13 hQ13
    subst l13 y13 z13
    obtain ⟨rfl, rfl, e13⟩ := hQ13
    try rw [List.append_nil] at X13
    refine OD.go (B := (T13.setTop (mkF m 180 #[.val (.int p0), .val (.int p1), .val (.int p2), .val (.int p3), .val (.int p4), .val (.int p5), .val (.int 0), .val (.ref b2), .val (.ref b4), .val (.int u142_11)] [(.int 1)]))) st13 ?_
    refine OD.go (B := (T13.setTop (mkF m 183 #[.val (.int p0), .val (.int p1), .val (.int p2), .val (.int p3), .val (.int p4), .val (.int p5), .val (.int 0), .val (.ref b2), .val (.ref b4), .val (.int u142_11)] []))) (fun t k => XS.ifNo X13.here hx rfl (hb hby at_180) rfl (by rw [if0]; exact (feq (by decide : ¬ (1 : Int32) = (0 : Int32))).1) k) ?_
    refine OD.go (B := (T13.setTop (mkF m 185 #[.val (.int p0), .val (.int p1), .val (.int p2), .val (.int p3), .val (.int p4), .val (.int p5), .val (.int 0), .val (.ref b2), .val (.ref b4), .val (.int u142_11)] [(.ref b2)]))) (fun t k => XS.aload X13.here hx rfl (hb hby at_183) rfl rfl k) ?_
    refine OD.go (B := (T13.setTop (mkF m 187 #[.val (.int p0), .val (.int p1), .val (.int p2), .val (.int p3), .val (.int p4), .val (.int p5), .val (.int 0), .val (.ref b2), .val (.ref b4), .val (.int u142_11)] [(.ref b4), (.ref b2)]))) (fun t k => XS.aload X13.here hx rfl (hb hby at_185) rfl rfl k) ?_
    refine OD.go (B := (T13.setTop (mkF m 188 #[.val (.int p0), .val (.int p1), .val (.int p2), .val (.int p3), .val (.int p4), .val (.int p5), .val (.int 0), .val (.ref b2), .val (.ref b4), .val (.int u142_11)] [(.int 2), (.ref b4), (.ref b2)]))) (fun t k => XS.iconst X13.here hx rfl (hb hby at_187) k) ?_
    refine OD.go (B := (T13.setTop (mkF m 190 #[.val (.int p0), .val (.int p1), .val (.int p2), .val (.int p3), .val (.int p4), .val (.int p5), .val (.int 0), .val (.ref b2), .val (.ref b4), .val (.int u142_11)] [(.int 0), (.int 2), (.ref b4), (.ref b2)]))) (fun t k => XS.iload X13.here hx rfl (hb hby at_188) rfl k) ?_
    obtain ⟨_, _, ⟨T14, L14, k14, n14⟩, -, X14, ⟨Lc14, hQ14, l14, y14, z14⟩, st14⟩ := Jvm.LawKit.callS X13 hx (y := (⟨"com/example/topside/topside/DescendingOrderOfPinLaw", "pair", "([D[III)Z"⟩ : MethodName)) hown (mvT hZ (Wd10 hw)) (mvT hZ (Wd11 hw)) (mvT hZ (Wd8 hw)) (mvT hZ (Wd12 hw)) (by decide) (backOf (W := 0) (rmP0 l Z a0 hw [] b2 b4 (2 : Int32) (0 : Int32) T4.heap (by decide)) hZ (Wd12 hw) (Wd8 hw) (by decide) (by decide)) (g := (mkF m 190 #[.val (.int p0), .val (.int p1), .val (.int p2), .val (.int p3), .val (.int p4), .val (.int p5), .val (.int 0), .val (.ref b2), .val (.ref b4), .val (.int u142_11)] [(.int 0), (.int 2), (.ref b4), (.ref b2)])) rfl (by rw [hml]; rfl) (argsL := [(.ref b2), (.ref b4), (.int 2), (.int 0)]) (rest := []) (lenOf pd4 rfl) rfl (by show 2 * 0 + _ ≤ _; exact Nat.le_of_eq rfl) (hb hby at_190) (fun _ _ => ⟨rfl, e13, (Nat.le_of_ble_eq_true rfl), (Nat.le_of_ble_eq_true rfl)⟩)
    dsimp only [Pt.U, Pt.locs, Pt.cells, Pt.slots] at X14 l14 y14 z14 st14 hQ14
    subst l14 y14 z14
    obtain ⟨rfl, rfl, e14⟩ := hQ14
    try rw [List.append_nil] at X14
    refine OD.go (B := (T14.setTop (mkF m 193 #[.val (.int p0), .val (.int p1), .val (.int p2), .val (.int p3), .val (.int p4), .val (.int p5), .val (.int 0), .val (.ref b2), .val (.ref b4), .val (.int u142_11)] [(.int 1)]))) st14 ?_
    refine OD.go (B := (T14.setTop (mkF m 196 #[.val (.int p0), .val (.int p1), .val (.int p2), .val (.int p3), .val (.int p4), .val (.int p5), .val (.int 0), .val (.ref b2), .val (.ref b4), .val (.int u142_11)] []))) (fun t k => XS.ifNo X14.here hx rfl (hb hby at_193) rfl (by rw [if0]; exact (feq (by decide : ¬ (1 : Int32) = (0 : Int32))).1) k) ?_
    refine OD.go (B := (T14.setTop (mkF m 198 #[.val (.int p0), .val (.int p1), .val (.int p2), .val (.int p3), .val (.int p4), .val (.int p5), .val (.int 0), .val (.ref b2), .val (.ref b4), .val (.int u142_11)] [(.ref b2)]))) (fun t k => XS.aload X14.here hx rfl (hb hby at_196) rfl rfl k) ?_
    refine OD.go (B := (T14.setTop (mkF m 200 #[.val (.int p0), .val (.int p1), .val (.int p2), .val (.int p3), .val (.int p4), .val (.int p5), .val (.int 0), .val (.ref b2), .val (.ref b4), .val (.int u142_11)] [(.ref b4), (.ref b2)]))) (fun t k => XS.aload X14.here hx rfl (hb hby at_198) rfl rfl k) ?_
    refine OD.go (B := (T14.setTop (mkF m 201 #[.val (.int p0), .val (.int p1), .val (.int p2), .val (.int p3), .val (.int p4), .val (.int p5), .val (.int 0), .val (.ref b2), .val (.ref b4), .val (.int u142_11)] [(.int 3), (.ref b4), (.ref b2)]))) (fun t k => XS.iconst X14.here hx rfl (hb hby at_200) k) ?_
    refine OD.go (B := (T14.setTop (mkF m 203 #[.val (.int p0), .val (.int p1), .val (.int p2), .val (.int p3), .val (.int p4), .val (.int p5), .val (.int 0), .val (.ref b2), .val (.ref b4), .val (.int u142_11)] [(.int 0), (.int 3), (.ref b4), (.ref b2)]))) (fun t k => XS.iload X14.here hx rfl (hb hby at_201) rfl k) ?_
    obtain ⟨_, _, ⟨T15, L15, k15, n15⟩, -, X15, ⟨Lc15, hQ15, l15, y15, z15⟩, st15⟩ := Jvm.LawKit.callS X14 hx (y := (⟨"com/example/topside/topside/DescendingOrderOfPinLaw", "pair", "([D[III)Z"⟩ : MethodName)) hown (mvT hZ (Wd10 hw)) (mvT hZ (Wd11 hw)) (mvT hZ (Wd8 hw)) (mvT hZ (Wd12 hw)) (by decide) (backOf (W := 0) (rmP0 l Z a0 hw [] b2 b4 (3 : Int32) (0 : Int32) T4.heap (by decide)) hZ (Wd12 hw) (Wd8 hw) (by decide) (by decide)) (g := (mkF m 203 #[.val (.int p0), .val (.int p1), .val (.int p2), .val (.int p3), .val (.int p4), .val (.int p5), .val (.int 0), .val (.ref b2), .val (.ref b4), .val (.int u142_11)] [(.int 0), (.int 3), (.ref b4), (.ref b2)])) rfl (by rw [hml]; rfl) (argsL := [(.ref b2), (.ref b4), (.int 3), (.int 0)]) (rest := []) (lenOf pd4 rfl) rfl (by show 2 * 0 + _ ≤ _; exact Nat.le_of_eq rfl) (hb hby at_203) (fun _ _ => ⟨rfl, e14, (Nat.le_of_ble_eq_true rfl), (Nat.le_of_ble_eq_true rfl)⟩)
    dsimp only [Pt.U, Pt.locs, Pt.cells, Pt.slots] at X15 l15 y15 z15 st15 hQ15
    subst l15 y15 z15
    obtain ⟨rfl, rfl, e15⟩ := hQ15
    try rw [List.append_nil] at X15
    refine OD.go (B := (T15.setTop (mkF m 206 #[.val (.int p0), .val (.int p1), .val (.int p2), .val (.int p3), .val (.int p4), .val (.int p5), .val (.int 0), .val (.ref b2), .val (.ref b4), .val (.int u142_11)] [(.int 1)]))) st15 ?_
    refine OD.go (B := (T15.setTop (mkF m 209 #[.val (.int p0), .val (.int p1), .val (.int p2), .val (.int p3), .val (.int p4), .val (.int p5), .val (.int 0), .val (.ref b2), .val (.ref b4), .val (.int u142_11)] []))) (fun t k => XS.ifNo X15.here hx rfl (hb hby at_206) rfl (by rw [if0]; exact (feq (by decide : ¬ (1 : Int32) = (0 : Int32))).1) k) ?_
    refine OD.go (B := (T15.setTop (mkF m 210 #[.val (.int p0), .val (.int p1), .val (.int p2), .val (.int p3), .val (.int p4), .val (.int p5), .val (.int 0), .val (.ref b2), .val (.ref b4), .val (.int u142_11)] [(.int 1)]))) (fun t k => XS.iconst X15.here hx rfl (hb hby at_209) k) ?_
    refine OD.go (B := (T15.setTop (mkF m 214 #[.val (.int p0), .val (.int p1), .val (.int p2), .val (.int p3), .val (.int p4), .val (.int p5), .val (.int 0), .val (.ref b2), .val (.ref b4), .val (.int u142_11)] [(.int 1)]))) (fun t k => XS.goto X15.here hx rfl (pc0 := 210) (pc' := 214) rfl (hb hby at_210) (by decide) (by decide) k) ?_
    exact OD.ret X15 hx hlk (t := .boolean) Bd.returns rfl (Or.inl ⟨rfl, Or.inr (Or.inl rfl), _, rfl⟩) (hb hby at_214) (Nat.le_of_ble_eq_true rfl) (Nat.le_of_ble_eq_true rfl) ⟨rfl, N4⟩
  · subst q6
    refine OD.go (B := (s₁.setTop (mkF m 11 #[.val (.int p0), .val (.int p1), .val (.int p2), .val (.int p3), .val (.int p4), .val (.int p5), .val (.int 1), .unset, .unset, .unset] [(.int 1)]))) (fun t k => XS.iload X0.here hx rfl (hb hby at_9) rfl k) ?_
    obtain ⟨T16, h16, k16, X16, e16, E16, A16, st16⟩ := newP X0 hx hZ (aty := .double) (Wd0 hw) e0 (g := (mkF m 11 #[.val (.int p0), .val (.int p1), .val (.int p2), .val (.int p3), .val (.int p4), .val (.int p5), .val (.int 1), .unset, .unset, .unset] [(.int 1)])) rfl (hb hby at_11) rfl (by decide) (cap := 1) (by decide) (by decide) (Nat.le_of_ble_eq_true rfl) (Nat.le_of_ble_eq_true rfl)
    obtain ⟨b16, g16⟩ : ∃ z, z = h0.size := ⟨_, rfl⟩
    rw [← g16] at A16 st16
    have V16 : Arv Z h16 b16 k16 .double (1 : Int32) [(.double (0 : UInt64))] (.double (0 : UInt64)) := (Arv.new A16 (by decide)).pad (pad_rep [] (.double (0 : UInt64)) 1)
    refine OD.go (B := (T16.setTop (mkF m 13 #[.val (.int p0), .val (.int p1), .val (.int p2), .val (.int p3), .val (.int p4), .val (.int p5), .val (.int 1), .unset, .unset, .unset] [(.ref b16)]))) st16 ?_
    refine OD.go (B := (T16.setTop (mkF m 15 #[.val (.int p0), .val (.int p1), .val (.int p2), .val (.int p3), .val (.int p4), .val (.int p5), .val (.int 1), .val (.ref b16), .unset, .unset] []))) (fun t k => XS.astore X16.here hx rfl (hb hby at_13) rfl rfl (l' := #[.val (.int p0), .val (.int p1), .val (.int p2), .val (.int p3), .val (.int p4), .val (.int p5), .val (.int 1), .val (.ref b16), .unset, .unset]) rfl k) ?_
    refine OD.go (B := (T16.setTop (mkF m 17 #[.val (.int p0), .val (.int p1), .val (.int p2), .val (.int p3), .val (.int p4), .val (.int p5), .val (.int 1), .val (.ref b16), .unset, .unset] [(.int 1)]))) (fun t k => XS.iload X16.here hx rfl (hb hby at_15) rfl k) ?_
    refine OD.go (B := (T16.setTop (mkF m 20 #[.val (.int p0), .val (.int p1), .val (.int p2), .val (.int p3), .val (.int p4), .val (.int p5), .val (.int 1), .val (.ref b16), .unset, .unset] []))) (fun t k => XS.ifNo X16.here hx rfl (hb hby at_17) rfl (by rw [if0]; exact (tlt (by decide : (0 : Int32) < (1 : Int32))).2.2.2) k) ?_
    refine OD.go (B := (T16.setTop (mkF m 22 #[.val (.int p0), .val (.int p1), .val (.int p2), .val (.int p3), .val (.int p4), .val (.int p5), .val (.int 1), .val (.ref b16), .unset, .unset] [(.ref b16)]))) (fun t k => XS.aload X16.here hx rfl (hb hby at_20) rfl rfl k) ?_
    refine OD.go (B := (T16.setTop (mkF m 23 #[.val (.int p0), .val (.int p1), .val (.int p2), .val (.int p3), .val (.int p4), .val (.int p5), .val (.int 1), .val (.ref b16), .unset, .unset] [(.int 0), (.ref b16)]))) (fun t k => XS.iconst X16.here hx rfl (hb hby at_22) k) ?_
    refine OD.go (B := (T16.setTop (mkF m 24 #[.val (.int p0), .val (.int p1), .val (.int p2), .val (.int p3), .val (.int p4), .val (.int p5), .val (.int 1), .val (.ref b16), .unset, .unset] [(.int p1), (.int 0), (.ref b16)]))) (fun t k => XS.iloadN X16.here hx rfl (hb hby at_23) rfl k) ?_
    refine OD.go (B := (T16.setTop (mkF m 25 #[.val (.int p0), .val (.int p1), .val (.int p2), .val (.int p3), .val (.int p4), .val (.int p5), .val (.int 1), .val (.ref b16), .unset, .unset] [(.double (FP.i2d p1)), (.int 0), (.ref b16)]))) (fun t k => XS.i2dS X16.here hx rfl (hb hby at_24) rfl (v := (FP.i2d p1)) rfl k) ?_
    obtain ⟨cl17, Ar17, q17, S17, M17, H17, G17⟩ := id V16
    obtain ⟨T17, h17, X17, e17, W17, st17⟩ := stD X16 hx hZ e16 Ar17 (j := (0 : Int32)) (inb_of S17 ⟨by decide, by decide⟩) (g := (mkF m 25 #[.val (.int p0), .val (.int p1), .val (.int p2), .val (.int p3), .val (.int p4), .val (.int p5), .val (.int 1), .val (.ref b16), .unset, .unset] [(.double (FP.i2d p1)), (.int 0), (.ref b16)])) rfl rfl (hb hby at_25)
    have V17 : Arv Z h17 b16 k16 .double (1 : Int32) [(.double (FP.i2d p1))] (.double (0 : UInt64)) := Arv.set Ar17 q17 S17 M17 H17 G17 rfl W17 0 rfl (Nat.le_of_ble_eq_true rfl)
    have N17 := Fr.snoc X17 N0 (Nat.le_trans (Nat.le_refl _) (Nat.le_of_eq g16.symm))
    refine OD.go (B := (T17.setTop (mkF m 26 #[.val (.int p0), .val (.int p1), .val (.int p2), .val (.int p3), .val (.int p4), .val (.int p5), .val (.int 1), .val (.ref b16), .unset, .unset] []))) st17 ?_
    refine OD.go (B := (T17.setTop (mkF m 28 #[.val (.int p0), .val (.int p1), .val (.int p2), .val (.int p3), .val (.int p4), .val (.int p5), .val (.int 1), .val (.ref b16), .unset, .unset] [(.int 1)]))) (fun t k => XS.iload X17.here hx rfl (hb hby at_26) rfl k) ?_
    refine OD.go (B := (T17.setTop (mkF m 29 #[.val (.int p0), .val (.int p1), .val (.int p2), .val (.int p3), .val (.int p4), .val (.int p5), .val (.int 1), .val (.ref b16), .unset, .unset] [(.int 1), (.int 1)]))) (fun t k => XS.iconst X17.here hx rfl (hb hby at_28) k) ?_
    refine OD.go (B := (T17.setTop (mkF m 38 #[.val (.int p0), .val (.int p1), .val (.int p2), .val (.int p3), .val (.int p4), .val (.int p5), .val (.int 1), .val (.ref b16), .unset, .unset] []))) (fun t k => XS.icmpYes X17.here hx rfl (pc0 := 29) (pc' := 38) rfl (hb hby at_29) rfl (flt (by decide : ¬ (1 : Int32) < (1 : Int32))).2.2.2 (by decide) (by decide) k) ?_
    refine OD.go (B := (T17.setTop (mkF m 40 #[.val (.int p0), .val (.int p1), .val (.int p2), .val (.int p3), .val (.int p4), .val (.int p5), .val (.int 1), .val (.ref b16), .unset, .unset] [(.int 1)]))) (fun t k => XS.iload X17.here hx rfl (hb hby at_38) rfl k) ?_
    refine OD.go (B := (T17.setTop (mkF m 41 #[.val (.int p0), .val (.int p1), .val (.int p2), .val (.int p3), .val (.int p4), .val (.int p5), .val (.int 1), .val (.ref b16), .unset, .unset] [(.int 2), (.int 1)]))) (fun t k => XS.iconst X17.here hx rfl (hb hby at_40) k) ?_
    refine OD.go (B := (T17.setTop (mkF m 50 #[.val (.int p0), .val (.int p1), .val (.int p2), .val (.int p3), .val (.int p4), .val (.int p5), .val (.int 1), .val (.ref b16), .unset, .unset] []))) (fun t k => XS.icmpYes X17.here hx rfl (pc0 := 41) (pc' := 50) rfl (hb hby at_41) rfl (flt (by decide : ¬ (2 : Int32) < (1 : Int32))).2.2.2 (by decide) (by decide) k) ?_
    refine OD.go (B := (T17.setTop (mkF m 52 #[.val (.int p0), .val (.int p1), .val (.int p2), .val (.int p3), .val (.int p4), .val (.int p5), .val (.int 1), .val (.ref b16), .unset, .unset] [(.int 1)]))) (fun t k => XS.iload X17.here hx rfl (hb hby at_50) rfl k) ?_
    refine OD.go (B := (T17.setTop (mkF m 53 #[.val (.int p0), .val (.int p1), .val (.int p2), .val (.int p3), .val (.int p4), .val (.int p5), .val (.int 1), .val (.ref b16), .unset, .unset] [(.int 3), (.int 1)]))) (fun t k => XS.iconst X17.here hx rfl (hb hby at_52) k) ?_
    refine OD.go (B := (T17.setTop (mkF m 63 #[.val (.int p0), .val (.int p1), .val (.int p2), .val (.int p3), .val (.int p4), .val (.int p5), .val (.int 1), .val (.ref b16), .unset, .unset] []))) (fun t k => XS.icmpYes X17.here hx rfl (pc0 := 53) (pc' := 63) rfl (hb hby at_53) rfl (flt (by decide : ¬ (3 : Int32) < (1 : Int32))).2.2.2 (by decide) (by decide) k) ?_
    refine OD.go (B := (T17.setTop (mkF m 65 #[.val (.int p0), .val (.int p1), .val (.int p2), .val (.int p3), .val (.int p4), .val (.int p5), .val (.int 1), .val (.ref b16), .unset, .unset] [(.int 1)]))) (fun t k => XS.iload X17.here hx rfl (hb hby at_63) rfl k) ?_
    refine OD.go (B := (T17.setTop (mkF m 66 #[.val (.int p0), .val (.int p1), .val (.int p2), .val (.int p3), .val (.int p4), .val (.int p5), .val (.int 1), .val (.ref b16), .unset, .unset] [(.int 4), (.int 1)]))) (fun t k => XS.iconst X17.here hx rfl (hb hby at_65) k) ?_
    refine OD.go (B := (T17.setTop (mkF m 76 #[.val (.int p0), .val (.int p1), .val (.int p2), .val (.int p3), .val (.int p4), .val (.int p5), .val (.int 1), .val (.ref b16), .unset, .unset] []))) (fun t k => XS.icmpYes X17.here hx rfl (pc0 := 66) (pc' := 76) rfl (hb hby at_66) rfl (flt (by decide : ¬ (4 : Int32) < (1 : Int32))).2.2.2 (by decide) (by decide) k) ?_
    refine OD.go (B := (T17.setTop (mkF m 78 #[.val (.int p0), .val (.int p1), .val (.int p2), .val (.int p3), .val (.int p4), .val (.int p5), .val (.int 1), .val (.ref b16), .unset, .unset] [(.ref b16)]))) (fun t k => XS.aload X17.here hx rfl (hb hby at_76) rfl rfl k) ?_
    have Vf18 : Arv Z h17 b16 k16 .double (1 : Int32) (own_rg (1 : Int32).toNatClampNeg (fun x => .double (sv0 x))) (.double 0) := by rw [hsv]; exact V17
    obtain ⟨_, _, ⟨T19, L19, k19, n19⟩, -, X19, ⟨Lc19, hQ19, l19, y19, z19⟩, st19⟩ := Jvm.LawKit.callS X17 hx (y := (⟨"com/example/topside/topside/DescendingOrder", "of", "([D)[I"⟩ : MethodName)) hown (mvT hZ (Wd1 hw)) (mvT hZ (Wd2 hw)) (mvT hZ (Wd3 hw)) (mvT hZ (Wd4 hw)) (by decide) (backOf (W := 0) (rmO1 l Z a0 hw [] b16 h17 h0.size (Nat.le_trans (Nat.le_trans (Nat.le_refl _) E16.1) (Keep.of_wr W17).1) k16 sv0 Vf18) hZ (Wd4 hw) (Wd3 hw) (by decide) (by decide)) (g := (mkF m 78 #[.val (.int p0), .val (.int p1), .val (.int p2), .val (.int p3), .val (.int p4), .val (.int p5), .val (.int 1), .val (.ref b16), .unset, .unset] [(.ref b16)])) rfl (by rw [hml]; rfl) (argsL := [(.ref b16)]) (rest := []) (lenOf pd2 rfl) rfl (by show 2 * 0 + _ ≤ _; exact Nat.le_of_eq rfl) (hb hby at_78) (fun _ _ => ⟨rfl, e17, (Nat.le_of_ble_eq_true rfl), (Nat.le_of_ble_eq_true rfl)⟩)
    dsimp only [Pt.U, Pt.locs, Pt.cells, Pt.slots] at X19 l19 y19 z19 st19 hQ19
    subst l19 y19 z19
    obtain ⟨b19, k19', rfl, Nq19, K19, ob19, A19⟩ := hQ19
    have N19 := Fr.app N17 Nq19
    refine OD.go (B := (T19.setTop (mkF m 81 #[.val (.int p0), .val (.int p1), .val (.int p2), .val (.int p3), .val (.int p4), .val (.int p5), .val (.int 1), .val (.ref b16), .unset, .unset] [(.ref b19)]))) st19 ?_
    refine OD.go (B := (T19.setTop (mkF m 83 #[.val (.int p0), .val (.int p1), .val (.int p2), .val (.int p3), .val (.int p4), .val (.int p5), .val (.int 1), .val (.ref b16), .val (.ref b19), .unset] []))) (fun t k => XS.astore X19.here hx rfl (hb hby at_81) rfl rfl (l' := #[.val (.int p0), .val (.int p1), .val (.int p2), .val (.int p3), .val (.int p4), .val (.int p5), .val (.int 1), .val (.ref b16), .val (.ref b19), .unset]) rfl k) ?_
    refine OD.go (B := (T19.setTop (mkF m 85 #[.val (.int p0), .val (.int p1), .val (.int p2), .val (.int p3), .val (.int p4), .val (.int p5), .val (.int 1), .val (.ref b16), .val (.ref b19), .unset] [(.ref b19)]))) (fun t k => XS.aload X19.here hx rfl (hb hby at_83) rfl rfl k) ?_
    refine OD.go (B := (T19.setTop (mkF m 88 #[.val (.int p0), .val (.int p1), .val (.int p2), .val (.int p3), .val (.int p4), .val (.int p5), .val (.int 1), .val (.ref b16), .val (.ref b19), .unset] []))) (fun t k => XS.ifnullNo X19.here hx rfl (hb hby at_85) rfl k) ?_
    refine OD.go (B := (T19.setTop (mkF m 90 #[.val (.int p0), .val (.int p1), .val (.int p2), .val (.int p3), .val (.int p4), .val (.int p5), .val (.int 1), .val (.ref b16), .val (.ref b19), .unset] [(.ref b19)]))) (fun t k => XS.aload X19.here hx rfl (hb hby at_88) rfl rfl k) ?_
    obtain ⟨cl20, Ar20, hl20⟩ := own_len A19
    refine OD.go (B := (T19.setTop (mkF m 91 #[.val (.int p0), .val (.int p1), .val (.int p2), .val (.int p3), .val (.int p4), .val (.int p5), .val (.int 1), .val (.ref b16), .val (.ref b19), .unset] [(.int 1)]))) (fun t k => X19.arraylength hx (by exact Ar20.1) (State.isArrayOf_alike hZ.alike Ar20.2.1) (g := (mkF m 90 #[.val (.int p0), .val (.int p1), .val (.int p2), .val (.int p3), .val (.int p4), .val (.int p5), .val (.int 1), .val (.ref b16), .val (.ref b19), .unset] [(.ref b19)])) rfl rfl (hb hby at_90) _ (by rw [hl20]; exact k)) ?_
    refine OD.go (B := (T19.setTop (mkF m 93 #[.val (.int p0), .val (.int p1), .val (.int p2), .val (.int p3), .val (.int p4), .val (.int p5), .val (.int 1), .val (.ref b16), .val (.ref b19), .unset] [(.int 1), (.int 1)]))) (fun t k => XS.iload X19.here hx rfl (hb hby at_91) rfl k) ?_
    refine OD.go (B := (T19.setTop (mkF m 98 #[.val (.int p0), .val (.int p1), .val (.int p2), .val (.int p3), .val (.int p4), .val (.int p5), .val (.int 1), .val (.ref b16), .val (.ref b19), .unset] []))) (fun t k => XS.icmpYes X19.here hx rfl (pc0 := 93) (pc' := 98) rfl (hb hby at_93) rfl (teq (by decide : (1 : Int32) = (1 : Int32))).1 (by decide) (by decide) k) ?_
    refine OD.go (B := (T19.setTop (mkF m 100 #[.val (.int p0), .val (.int p1), .val (.int p2), .val (.int p3), .val (.int p4), .val (.int p5), .val (.int 1), .val (.ref b16), .val (.ref b19), .unset] [(.ref b19)]))) (fun t k => XS.aload X19.here hx rfl (hb hby at_98) rfl rfl k) ?_
    refine OD.go (B := (T19.setTop (mkF m 101 #[.val (.int p0), .val (.int p1), .val (.int p2), .val (.int p3), .val (.int p4), .val (.int p5), .val (.int 1), .val (.ref b16), .val (.ref b19), .unset] [(.int 0), (.ref b19)]))) (fun t k => XS.iconst X19.here hx rfl (hb hby at_100) k) ?_
    refine OD.go (B := (T19.setTop (mkF m 103 #[.val (.int p0), .val (.int p1), .val (.int p2), .val (.int p3), .val (.int p4), .val (.int p5), .val (.int 1), .val (.ref b16), .val (.ref b19), .unset] [(.int 1), (.int 0), (.ref b19)]))) (fun t k => XS.iload X19.here hx rfl (hb hby at_101) rfl k) ?_
    obtain ⟨_, _, ⟨T21, L21, k21, n21⟩, -, X21, ⟨Lc21, hQ21, l21, y21, z21⟩, st21⟩ := Jvm.LawKit.callS X19 hx (y := (⟨"com/example/topside/topside/DescendingOrderOfPinLaw", "bit", "([III)I"⟩ : MethodName)) hown (mvT hZ (Wd6 hw)) (mvT hZ (Wd7 hw)) (mvT hZ (Wd8 hw)) (mvT hZ (Wd9 hw)) (by decide) (backOf (W := 0) (rmB1 l Z a0 hw [] b19 (0 : Int32) (1 : Int32) T19.heap k19' own_id A19 ⟨by decide, by decide⟩ (own_idB _)) hZ (Wd9 hw) (Wd8 hw) (by decide) (by decide)) (g := (mkF m 103 #[.val (.int p0), .val (.int p1), .val (.int p2), .val (.int p3), .val (.int p4), .val (.int p5), .val (.int 1), .val (.ref b16), .val (.ref b19), .unset] [(.int 1), (.int 0), (.ref b19)])) rfl (by rw [hml]; rfl) (argsL := [(.ref b19), (.int 0), (.int 1)]) (rest := []) (lenOf pd3 rfl) rfl (by show 2 * 0 + _ ≤ _; exact Nat.le_of_eq rfl) (hb hby at_103) (fun _ _ => ⟨rfl, rfl, (Nat.le_of_ble_eq_true rfl), (Nat.le_of_ble_eq_true rfl)⟩)
    dsimp only [Pt.U, Pt.locs, Pt.cells, Pt.slots] at X21 l21 y21 z21 st21 hQ21
    subst l21 y21 z21
    obtain ⟨rfl, rfl, e21⟩ := hQ21
    try rw [List.append_nil] at X21
    refine OD.go (B := (T21.setTop (mkF m 106 #[.val (.int p0), .val (.int p1), .val (.int p2), .val (.int p3), .val (.int p4), .val (.int p5), .val (.int 1), .val (.ref b16), .val (.ref b19), .unset] [(.int ((1 : Int32) <<< ((own_id (0 : Int32)) &&& 31)))]))) st21 ?_
    refine OD.go (B := (T21.setTop (mkF m 108 #[.val (.int p0), .val (.int p1), .val (.int p2), .val (.int p3), .val (.int p4), .val (.int p5), .val (.int 1), .val (.ref b16), .val (.ref b19), .unset] [(.ref b19), (.int ((1 : Int32) <<< ((own_id (0 : Int32)) &&& 31)))]))) (fun t k => XS.aload X21.here hx rfl (hb hby at_106) rfl rfl k) ?_
    refine OD.go (B := (T21.setTop (mkF m 109 #[.val (.int p0), .val (.int p1), .val (.int p2), .val (.int p3), .val (.int p4), .val (.int p5), .val (.int 1), .val (.ref b16), .val (.ref b19), .unset] [(.int 1), (.ref b19), (.int ((1 : Int32) <<< ((own_id (0 : Int32)) &&& 31)))]))) (fun t k => XS.iconst X21.here hx rfl (hb hby at_108) k) ?_
    refine OD.go (B := (T21.setTop (mkF m 111 #[.val (.int p0), .val (.int p1), .val (.int p2), .val (.int p3), .val (.int p4), .val (.int p5), .val (.int 1), .val (.ref b16), .val (.ref b19), .unset] [(.int 1), (.int 1), (.ref b19), (.int ((1 : Int32) <<< ((own_id (0 : Int32)) &&& 31)))]))) (fun t k => XS.iload X21.here hx rfl (hb hby at_109) rfl k) ?_
    obtain ⟨_, _, ⟨T22, L22, k22, n22⟩, -, X22, ⟨Lc22, hQ22, l22, y22, z22⟩, st22⟩ := Jvm.LawKit.callS X21 hx (y := (⟨"com/example/topside/topside/DescendingOrderOfPinLaw", "bit", "([III)I"⟩ : MethodName)) hown (mvT hZ (Wd6 hw)) (mvT hZ (Wd7 hw)) (mvT hZ (Wd8 hw)) (mvT hZ (Wd9 hw)) (by decide) (backOf (W := 1) (rmB0 l Z a0 hw [] b19 (1 : Int32) (1 : Int32) T19.heap (by decide)) hZ (Wd9 hw) (Wd8 hw) (by decide) (by decide)) (g := (mkF m 111 #[.val (.int p0), .val (.int p1), .val (.int p2), .val (.int p3), .val (.int p4), .val (.int p5), .val (.int 1), .val (.ref b16), .val (.ref b19), .unset] [(.int 1), (.int 1), (.ref b19), (.int ((1 : Int32) <<< ((own_id (0 : Int32)) &&& 31)))])) rfl (by rw [hml]; rfl) (argsL := [(.ref b19), (.int 1), (.int 1)]) (rest := [(.int ((1 : Int32) <<< ((own_id (0 : Int32)) &&& 31)))]) (lenOf pd3 rfl) rfl (by show 2 * 0 + _ ≤ _; exact Nat.le_of_eq rfl) (hb hby at_111) (fun _ _ => ⟨rfl, e21, (Nat.le_of_ble_eq_true rfl), (Nat.le_of_ble_eq_true rfl)⟩)
    dsimp only [Pt.U, Pt.locs, Pt.cells, Pt.slots] at X22 l22 y22 z22 st22 hQ22
    subst l22 y22 z22
    obtain ⟨rfl, rfl, e22⟩ := hQ22
    try rw [List.append_nil] at X22
    refine OD.go (B := (T22.setTop (mkF m 114 #[.val (.int p0), .val (.int p1), .val (.int p2), .val (.int p3), .val (.int p4), .val (.int p5), .val (.int 1), .val (.ref b16), .val (.ref b19), .unset] [(.int 0), (.int ((1 : Int32) <<< ((own_id (0 : Int32)) &&& 31)))]))) st22 ?_
    refine OD.go (B := (T22.setTop (mkF m 115 #[.val (.int p0), .val (.int p1), .val (.int p2), .val (.int p3), .val (.int p4), .val (.int p5), .val (.int 1), .val (.ref b16), .val (.ref b19), .unset] [(.int (((1 : Int32) <<< ((own_id (0 : Int32)) &&& 31)) ||| (0 : Int32)))]))) (fun t k => XS.ior X22.here hx rfl (hb hby at_114) rfl k) ?_
    refine OD.go (B := (T22.setTop (mkF m 117 #[.val (.int p0), .val (.int p1), .val (.int p2), .val (.int p3), .val (.int p4), .val (.int p5), .val (.int 1), .val (.ref b16), .val (.ref b19), .unset] [(.ref b19), (.int (((1 : Int32) <<< ((own_id (0 : Int32)) &&& 31)) ||| (0 : Int32)))]))) (fun t k => XS.aload X22.here hx rfl (hb hby at_115) rfl rfl k) ?_
    refine OD.go (B := (T22.setTop (mkF m 118 #[.val (.int p0), .val (.int p1), .val (.int p2), .val (.int p3), .val (.int p4), .val (.int p5), .val (.int 1), .val (.ref b16), .val (.ref b19), .unset] [(.int 2), (.ref b19), (.int (((1 : Int32) <<< ((own_id (0 : Int32)) &&& 31)) ||| (0 : Int32)))]))) (fun t k => XS.iconst X22.here hx rfl (hb hby at_117) k) ?_
    refine OD.go (B := (T22.setTop (mkF m 120 #[.val (.int p0), .val (.int p1), .val (.int p2), .val (.int p3), .val (.int p4), .val (.int p5), .val (.int 1), .val (.ref b16), .val (.ref b19), .unset] [(.int 1), (.int 2), (.ref b19), (.int (((1 : Int32) <<< ((own_id (0 : Int32)) &&& 31)) ||| (0 : Int32)))]))) (fun t k => XS.iload X22.here hx rfl (hb hby at_118) rfl k) ?_
    obtain ⟨_, _, ⟨T23, L23, k23, n23⟩, -, X23, ⟨Lc23, hQ23, l23, y23, z23⟩, st23⟩ := Jvm.LawKit.callS X22 hx (y := (⟨"com/example/topside/topside/DescendingOrderOfPinLaw", "bit", "([III)I"⟩ : MethodName)) hown (mvT hZ (Wd6 hw)) (mvT hZ (Wd7 hw)) (mvT hZ (Wd8 hw)) (mvT hZ (Wd9 hw)) (by decide) (backOf (W := 1) (rmB0 l Z a0 hw [] b19 (2 : Int32) (1 : Int32) T19.heap (by decide)) hZ (Wd9 hw) (Wd8 hw) (by decide) (by decide)) (g := (mkF m 120 #[.val (.int p0), .val (.int p1), .val (.int p2), .val (.int p3), .val (.int p4), .val (.int p5), .val (.int 1), .val (.ref b16), .val (.ref b19), .unset] [(.int 1), (.int 2), (.ref b19), (.int (((1 : Int32) <<< ((own_id (0 : Int32)) &&& 31)) ||| (0 : Int32)))])) rfl (by rw [hml]; rfl) (argsL := [(.ref b19), (.int 2), (.int 1)]) (rest := [(.int (((1 : Int32) <<< ((own_id (0 : Int32)) &&& 31)) ||| (0 : Int32)))]) (lenOf pd3 rfl) rfl (by show 2 * 0 + _ ≤ _; exact Nat.le_of_eq rfl) (hb hby at_120) (fun _ _ => ⟨rfl, e22, (Nat.le_of_ble_eq_true rfl), (Nat.le_of_ble_eq_true rfl)⟩)
    dsimp only [Pt.U, Pt.locs, Pt.cells, Pt.slots] at X23 l23 y23 z23 st23 hQ23
    subst l23 y23 z23
    obtain ⟨rfl, rfl, e23⟩ := hQ23
    try rw [List.append_nil] at X23
    refine OD.go (B := (T23.setTop (mkF m 123 #[.val (.int p0), .val (.int p1), .val (.int p2), .val (.int p3), .val (.int p4), .val (.int p5), .val (.int 1), .val (.ref b16), .val (.ref b19), .unset] [(.int 0), (.int (((1 : Int32) <<< ((own_id (0 : Int32)) &&& 31)) ||| (0 : Int32)))]))) st23 ?_
    refine OD.go (B := (T23.setTop (mkF m 124 #[.val (.int p0), .val (.int p1), .val (.int p2), .val (.int p3), .val (.int p4), .val (.int p5), .val (.int 1), .val (.ref b16), .val (.ref b19), .unset] [(.int ((((1 : Int32) <<< ((own_id (0 : Int32)) &&& 31)) ||| (0 : Int32)) ||| (0 : Int32)))]))) (fun t k => XS.ior X23.here hx rfl (hb hby at_123) rfl k) ?_
    refine OD.go (B := (T23.setTop (mkF m 126 #[.val (.int p0), .val (.int p1), .val (.int p2), .val (.int p3), .val (.int p4), .val (.int p5), .val (.int 1), .val (.ref b16), .val (.ref b19), .unset] [(.ref b19), (.int ((((1 : Int32) <<< ((own_id (0 : Int32)) &&& 31)) ||| (0 : Int32)) ||| (0 : Int32)))]))) (fun t k => XS.aload X23.here hx rfl (hb hby at_124) rfl rfl k) ?_
    refine OD.go (B := (T23.setTop (mkF m 127 #[.val (.int p0), .val (.int p1), .val (.int p2), .val (.int p3), .val (.int p4), .val (.int p5), .val (.int 1), .val (.ref b16), .val (.ref b19), .unset] [(.int 3), (.ref b19), (.int ((((1 : Int32) <<< ((own_id (0 : Int32)) &&& 31)) ||| (0 : Int32)) ||| (0 : Int32)))]))) (fun t k => XS.iconst X23.here hx rfl (hb hby at_126) k) ?_
    refine OD.go (B := (T23.setTop (mkF m 129 #[.val (.int p0), .val (.int p1), .val (.int p2), .val (.int p3), .val (.int p4), .val (.int p5), .val (.int 1), .val (.ref b16), .val (.ref b19), .unset] [(.int 1), (.int 3), (.ref b19), (.int ((((1 : Int32) <<< ((own_id (0 : Int32)) &&& 31)) ||| (0 : Int32)) ||| (0 : Int32)))]))) (fun t k => XS.iload X23.here hx rfl (hb hby at_127) rfl k) ?_
    obtain ⟨_, _, ⟨T24, L24, k24, n24⟩, -, X24, ⟨Lc24, hQ24, l24, y24, z24⟩, st24⟩ := Jvm.LawKit.callS X23 hx (y := (⟨"com/example/topside/topside/DescendingOrderOfPinLaw", "bit", "([III)I"⟩ : MethodName)) hown (mvT hZ (Wd6 hw)) (mvT hZ (Wd7 hw)) (mvT hZ (Wd8 hw)) (mvT hZ (Wd9 hw)) (by decide) (backOf (W := 1) (rmB0 l Z a0 hw [] b19 (3 : Int32) (1 : Int32) T19.heap (by decide)) hZ (Wd9 hw) (Wd8 hw) (by decide) (by decide)) (g := (mkF m 129 #[.val (.int p0), .val (.int p1), .val (.int p2), .val (.int p3), .val (.int p4), .val (.int p5), .val (.int 1), .val (.ref b16), .val (.ref b19), .unset] [(.int 1), (.int 3), (.ref b19), (.int ((((1 : Int32) <<< ((own_id (0 : Int32)) &&& 31)) ||| (0 : Int32)) ||| (0 : Int32)))])) rfl (by rw [hml]; rfl) (argsL := [(.ref b19), (.int 3), (.int 1)]) (rest := [(.int ((((1 : Int32) <<< ((own_id (0 : Int32)) &&& 31)) ||| (0 : Int32)) ||| (0 : Int32)))]) (lenOf pd3 rfl) rfl (by show 2 * 0 + _ ≤ _; exact Nat.le_of_eq rfl) (hb hby at_129) (fun _ _ => ⟨rfl, e23, (Nat.le_of_ble_eq_true rfl), (Nat.le_of_ble_eq_true rfl)⟩)
    dsimp only [Pt.U, Pt.locs, Pt.cells, Pt.slots] at X24 l24 y24 z24 st24 hQ24
    subst l24 y24 z24
    obtain ⟨rfl, rfl, e24⟩ := hQ24
    try rw [List.append_nil] at X24
    refine OD.go (B := (T24.setTop (mkF m 132 #[.val (.int p0), .val (.int p1), .val (.int p2), .val (.int p3), .val (.int p4), .val (.int p5), .val (.int 1), .val (.ref b16), .val (.ref b19), .unset] [(.int 0), (.int ((((1 : Int32) <<< ((own_id (0 : Int32)) &&& 31)) ||| (0 : Int32)) ||| (0 : Int32)))]))) st24 ?_
    refine OD.go (B := (T24.setTop (mkF m 133 #[.val (.int p0), .val (.int p1), .val (.int p2), .val (.int p3), .val (.int p4), .val (.int p5), .val (.int 1), .val (.ref b16), .val (.ref b19), .unset] [(.int (((((1 : Int32) <<< ((own_id (0 : Int32)) &&& 31)) ||| (0 : Int32)) ||| (0 : Int32)) ||| (0 : Int32)))]))) (fun t k => XS.ior X24.here hx rfl (hb hby at_132) rfl k) ?_
    refine OD.go (B := (T24.setTop (mkF m 135 #[.val (.int p0), .val (.int p1), .val (.int p2), .val (.int p3), .val (.int p4), .val (.int p5), .val (.int 1), .val (.ref b16), .val (.ref b19), .unset] [(.ref b19), (.int (((((1 : Int32) <<< ((own_id (0 : Int32)) &&& 31)) ||| (0 : Int32)) ||| (0 : Int32)) ||| (0 : Int32)))]))) (fun t k => XS.aload X24.here hx rfl (hb hby at_133) rfl rfl k) ?_
    refine OD.go (B := (T24.setTop (mkF m 136 #[.val (.int p0), .val (.int p1), .val (.int p2), .val (.int p3), .val (.int p4), .val (.int p5), .val (.int 1), .val (.ref b16), .val (.ref b19), .unset] [(.int 4), (.ref b19), (.int (((((1 : Int32) <<< ((own_id (0 : Int32)) &&& 31)) ||| (0 : Int32)) ||| (0 : Int32)) ||| (0 : Int32)))]))) (fun t k => XS.iconst X24.here hx rfl (hb hby at_135) k) ?_
    refine OD.go (B := (T24.setTop (mkF m 138 #[.val (.int p0), .val (.int p1), .val (.int p2), .val (.int p3), .val (.int p4), .val (.int p5), .val (.int 1), .val (.ref b16), .val (.ref b19), .unset] [(.int 1), (.int 4), (.ref b19), (.int (((((1 : Int32) <<< ((own_id (0 : Int32)) &&& 31)) ||| (0 : Int32)) ||| (0 : Int32)) ||| (0 : Int32)))]))) (fun t k => XS.iload X24.here hx rfl (hb hby at_136) rfl k) ?_
    obtain ⟨_, _, ⟨T25, L25, k25, n25⟩, -, X25, ⟨Lc25, hQ25, l25, y25, z25⟩, st25⟩ := Jvm.LawKit.callS X24 hx (y := (⟨"com/example/topside/topside/DescendingOrderOfPinLaw", "bit", "([III)I"⟩ : MethodName)) hown (mvT hZ (Wd6 hw)) (mvT hZ (Wd7 hw)) (mvT hZ (Wd8 hw)) (mvT hZ (Wd9 hw)) (by decide) (backOf (W := 1) (rmB0 l Z a0 hw [] b19 (4 : Int32) (1 : Int32) T19.heap (by decide)) hZ (Wd9 hw) (Wd8 hw) (by decide) (by decide)) (g := (mkF m 138 #[.val (.int p0), .val (.int p1), .val (.int p2), .val (.int p3), .val (.int p4), .val (.int p5), .val (.int 1), .val (.ref b16), .val (.ref b19), .unset] [(.int 1), (.int 4), (.ref b19), (.int (((((1 : Int32) <<< ((own_id (0 : Int32)) &&& 31)) ||| (0 : Int32)) ||| (0 : Int32)) ||| (0 : Int32)))])) rfl (by rw [hml]; rfl) (argsL := [(.ref b19), (.int 4), (.int 1)]) (rest := [(.int (((((1 : Int32) <<< ((own_id (0 : Int32)) &&& 31)) ||| (0 : Int32)) ||| (0 : Int32)) ||| (0 : Int32)))]) (lenOf pd3 rfl) rfl (by show 2 * 0 + _ ≤ _; exact Nat.le_of_eq rfl) (hb hby at_138) (fun _ _ => ⟨rfl, e24, (Nat.le_of_ble_eq_true rfl), (Nat.le_of_ble_eq_true rfl)⟩)
    dsimp only [Pt.U, Pt.locs, Pt.cells, Pt.slots] at X25 l25 y25 z25 st25 hQ25
    subst l25 y25 z25
    obtain ⟨rfl, rfl, e25⟩ := hQ25
    try rw [List.append_nil] at X25
    refine OD.go (B := (T25.setTop (mkF m 141 #[.val (.int p0), .val (.int p1), .val (.int p2), .val (.int p3), .val (.int p4), .val (.int p5), .val (.int 1), .val (.ref b16), .val (.ref b19), .unset] [(.int 0), (.int (((((1 : Int32) <<< ((own_id (0 : Int32)) &&& 31)) ||| (0 : Int32)) ||| (0 : Int32)) ||| (0 : Int32)))]))) st25 ?_
    refine OD.go (B := (T25.setTop (mkF m 142 #[.val (.int p0), .val (.int p1), .val (.int p2), .val (.int p3), .val (.int p4), .val (.int p5), .val (.int 1), .val (.ref b16), .val (.ref b19), .unset] [(.int ((((((1 : Int32) <<< ((own_id (0 : Int32)) &&& 31)) ||| (0 : Int32)) ||| (0 : Int32)) ||| (0 : Int32)) ||| (0 : Int32)))]))) (fun t k => XS.ior X25.here hx rfl (hb hby at_141) rfl k) ?_
    refine OD.go (B := (T25.setTop (mkF m 144 #[.val (.int p0), .val (.int p1), .val (.int p2), .val (.int p3), .val (.int p4), .val (.int p5), .val (.int 1), .val (.ref b16), .val (.ref b19), .val (.int ((((((1 : Int32) <<< ((own_id (0 : Int32)) &&& 31)) ||| (0 : Int32)) ||| (0 : Int32)) ||| (0 : Int32)) ||| (0 : Int32)))] []))) (fun t k => XS.istore X25.here hx rfl (hb hby at_142) rfl (l' := #[.val (.int p0), .val (.int p1), .val (.int p2), .val (.int p3), .val (.int p4), .val (.int p5), .val (.int 1), .val (.ref b16), .val (.ref b19), .val (.int ((((((1 : Int32) <<< ((own_id (0 : Int32)) &&& 31)) ||| (0 : Int32)) ||| (0 : Int32)) ||| (0 : Int32)) ||| (0 : Int32)))]) rfl k) ?_
    generalize hu142_26 : ((((((1 : Int32) <<< ((own_id (0 : Int32)) &&& 31)) ||| (0 : Int32)) ||| (0 : Int32)) ||| (0 : Int32)) ||| (0 : Int32)) = u142_26
    refine OD.go (B := (T25.setTop (mkF m 146 #[.val (.int p0), .val (.int p1), .val (.int p2), .val (.int p3), .val (.int p4), .val (.int p5), .val (.int 1), .val (.ref b16), .val (.ref b19), .val (.int u142_26)] [(.int u142_26)]))) (fun t k => XS.iload X25.here hx rfl (hb hby at_144) rfl k) ?_
    refine OD.go (B := (T25.setTop (mkF m 147 #[.val (.int p0), .val (.int p1), .val (.int p2), .val (.int p3), .val (.int p4), .val (.int p5), .val (.int 1), .val (.ref b16), .val (.ref b19), .val (.int u142_26)] [(.int 1), (.int u142_26)]))) (fun t k => XS.iconst X25.here hx rfl (hb hby at_146) k) ?_
    refine OD.go (B := (T25.setTop (mkF m 149 #[.val (.int p0), .val (.int p1), .val (.int p2), .val (.int p3), .val (.int p4), .val (.int p5), .val (.int 1), .val (.ref b16), .val (.ref b19), .val (.int u142_26)] [(.int 1), (.int 1), (.int u142_26)]))) (fun t k => XS.iload X25.here hx rfl (hb hby at_147) rfl k) ?_
    refine OD.go (B := (T25.setTop (mkF m 150 #[.val (.int p0), .val (.int p1), .val (.int p2), .val (.int p3), .val (.int p4), .val (.int p5), .val (.int 1), .val (.ref b16), .val (.ref b19), .val (.int u142_26)] [(.int ((1 : Int32) <<< ((1 : Int32) &&& 31))), (.int u142_26)]))) (fun t k => XS.ishl X25.here hx rfl (hb hby at_149) rfl k) ?_
    refine OD.go (B := (T25.setTop (mkF m 151 #[.val (.int p0), .val (.int p1), .val (.int p2), .val (.int p3), .val (.int p4), .val (.int p5), .val (.int 1), .val (.ref b16), .val (.ref b19), .val (.int u142_26)] [(.int 1), (.int ((1 : Int32) <<< ((1 : Int32) &&& 31))), (.int u142_26)]))) (fun t k => XS.iconst X25.here hx rfl (hb hby at_150) k) ?_
    refine OD.go (B := (T25.setTop (mkF m 152 #[.val (.int p0), .val (.int p1), .val (.int p2), .val (.int p3), .val (.int p4), .val (.int p5), .val (.int 1), .val (.ref b16), .val (.ref b19), .val (.int u142_26)] [(.int (((1 : Int32) <<< ((1 : Int32) &&& 31)) - (1 : Int32))), (.int u142_26)]))) (fun t k => XS.isub X25.here hx rfl (hb hby at_151) rfl k) ?_
    refine OD.go (B := (T25.setTop (mkF m 157 #[.val (.int p0), .val (.int p1), .val (.int p2), .val (.int p3), .val (.int p4), .val (.int p5), .val (.int 1), .val (.ref b16), .val (.ref b19), .val (.int u142_26)] []))) (fun t k => XS.icmpYes X25.here hx rfl (pc0 := 152) (pc' := 157) rfl (hb hby at_152) rfl (teq (by rw [← hu142_26]; (try rw [hsv]); exact own_mask1 p1 p2 p3 p4 p5)).1 (by decide) (by decide) k) ?_
    refine OD.go (B := (T25.setTop (mkF m 159 #[.val (.int p0), .val (.int p1), .val (.int p2), .val (.int p3), .val (.int p4), .val (.int p5), .val (.int 1), .val (.ref b16), .val (.ref b19), .val (.int u142_26)] [(.ref b16)]))) (fun t k => XS.aload X25.here hx rfl (hb hby at_157) rfl rfl k) ?_
    refine OD.go (B := (T25.setTop (mkF m 161 #[.val (.int p0), .val (.int p1), .val (.int p2), .val (.int p3), .val (.int p4), .val (.int p5), .val (.int 1), .val (.ref b16), .val (.ref b19), .val (.int u142_26)] [(.ref b19), (.ref b16)]))) (fun t k => XS.aload X25.here hx rfl (hb hby at_159) rfl rfl k) ?_
    refine OD.go (B := (T25.setTop (mkF m 162 #[.val (.int p0), .val (.int p1), .val (.int p2), .val (.int p3), .val (.int p4), .val (.int p5), .val (.int 1), .val (.ref b16), .val (.ref b19), .val (.int u142_26)] [(.int 0), (.ref b19), (.ref b16)]))) (fun t k => XS.iconst X25.here hx rfl (hb hby at_161) k) ?_
    refine OD.go (B := (T25.setTop (mkF m 164 #[.val (.int p0), .val (.int p1), .val (.int p2), .val (.int p3), .val (.int p4), .val (.int p5), .val (.int 1), .val (.ref b16), .val (.ref b19), .val (.int u142_26)] [(.int 1), (.int 0), (.ref b19), (.ref b16)]))) (fun t k => XS.iload X25.here hx rfl (hb hby at_162) rfl k) ?_
    obtain ⟨_, _, ⟨T27, L27, k27, n27⟩, -, X27, ⟨Lc27, hQ27, l27, y27, z27⟩, st27⟩ := Jvm.LawKit.callS X25 hx (y := (⟨"com/example/topside/topside/DescendingOrderOfPinLaw", "pair", "([D[III)Z"⟩ : MethodName)) hown (mvT hZ (Wd10 hw)) (mvT hZ (Wd11 hw)) (mvT hZ (Wd8 hw)) (mvT hZ (Wd12 hw)) (by decide) (backOf (W := 0) (rmP0 l Z a0 hw [] b16 b19 (0 : Int32) (1 : Int32) T19.heap (by decide)) hZ (Wd12 hw) (Wd8 hw) (by decide) (by decide)) (g := (mkF m 164 #[.val (.int p0), .val (.int p1), .val (.int p2), .val (.int p3), .val (.int p4), .val (.int p5), .val (.int 1), .val (.ref b16), .val (.ref b19), .val (.int u142_26)] [(.int 1), (.int 0), (.ref b19), (.ref b16)])) rfl (by rw [hml]; rfl) (argsL := [(.ref b16), (.ref b19), (.int 0), (.int 1)]) (rest := []) (lenOf pd4 rfl) rfl (by show 2 * 0 + _ ≤ _; exact Nat.le_of_eq rfl) (hb hby at_164) (fun _ _ => ⟨rfl, e25, (Nat.le_of_ble_eq_true rfl), (Nat.le_of_ble_eq_true rfl)⟩)
    dsimp only [Pt.U, Pt.locs, Pt.cells, Pt.slots] at X27 l27 y27 z27 st27 hQ27
    subst l27 y27 z27
    obtain ⟨rfl, rfl, e27⟩ := hQ27
    try rw [List.append_nil] at X27
    refine OD.go (B := (T27.setTop (mkF m 167 #[.val (.int p0), .val (.int p1), .val (.int p2), .val (.int p3), .val (.int p4), .val (.int p5), .val (.int 1), .val (.ref b16), .val (.ref b19), .val (.int u142_26)] [(.int 1)]))) st27 ?_
    refine OD.go (B := (T27.setTop (mkF m 170 #[.val (.int p0), .val (.int p1), .val (.int p2), .val (.int p3), .val (.int p4), .val (.int p5), .val (.int 1), .val (.ref b16), .val (.ref b19), .val (.int u142_26)] []))) (fun t k => XS.ifNo X27.here hx rfl (hb hby at_167) rfl (by rw [if0]; exact (feq (by decide : ¬ (1 : Int32) = (0 : Int32))).1) k) ?_
    refine OD.go (B := (T27.setTop (mkF m 172 #[.val (.int p0), .val (.int p1), .val (.int p2), .val (.int p3), .val (.int p4), .val (.int p5), .val (.int 1), .val (.ref b16), .val (.ref b19), .val (.int u142_26)] [(.ref b16)]))) (fun t k => XS.aload X27.here hx rfl (hb hby at_170) rfl rfl k) ?_
    refine OD.go (B := (T27.setTop (mkF m 174 #[.val (.int p0), .val (.int p1), .val (.int p2), .val (.int p3), .val (.int p4), .val (.int p5), .val (.int 1), .val (.ref b16), .val (.ref b19), .val (.int u142_26)] [(.ref b19), (.ref b16)]))) (fun t k => XS.aload X27.here hx rfl (hb hby at_172) rfl rfl k) ?_
    refine OD.go (B := (T27.setTop (mkF m 175 #[.val (.int p0), .val (.int p1), .val (.int p2), .val (.int p3), .val (.int p4), .val (.int p5), .val (.int 1), .val (.ref b16), .val (.ref b19), .val (.int u142_26)] [(.int 1), (.ref b19), (.ref b16)]))) (fun t k => XS.iconst X27.here hx rfl (hb hby at_174) k) ?_
    refine OD.go (B := (T27.setTop (mkF m 177 #[.val (.int p0), .val (.int p1), .val (.int p2), .val (.int p3), .val (.int p4), .val (.int p5), .val (.int 1), .val (.ref b16), .val (.ref b19), .val (.int u142_26)] [(.int 1), (.int 1), (.ref b19), (.ref b16)]))) (fun t k => XS.iload X27.here hx rfl (hb hby at_175) rfl k) ?_
    obtain ⟨_, _, ⟨T28, L28, k28, n28⟩, -, X28, ⟨Lc28, hQ28, l28, y28, z28⟩, st28⟩ := Jvm.LawKit.callS X27 hx (y := (⟨"com/example/topside/topside/DescendingOrderOfPinLaw", "pair", "([D[III)Z"⟩ : MethodName)) hown (mvT hZ (Wd10 hw)) (mvT hZ (Wd11 hw)) (mvT hZ (Wd8 hw)) (mvT hZ (Wd12 hw)) (by decide) (backOf (W := 0) (rmP0 l Z a0 hw [] b16 b19 (1 : Int32) (1 : Int32) T19.heap (by decide)) hZ (Wd12 hw) (Wd8 hw) (by decide) (by decide)) (g := (mkF m 177 #[.val (.int p0), .val (.int p1), .val (.int p2), .val (.int p3), .val (.int p4), .val (.int p5), .val (.int 1), .val (.ref b16), .val (.ref b19), .val (.int u142_26)] [(.int 1), (.int 1), (.ref b19), (.ref b16)])) rfl (by rw [hml]; rfl) (argsL := [(.ref b16), (.ref b19), (.int 1), (.int 1)]) (rest := []) (lenOf pd4 rfl) rfl (by show 2 * 0 + _ ≤ _; exact Nat.le_of_eq rfl) (hb hby at_177) (fun _ _ => ⟨rfl, e27, (Nat.le_of_ble_eq_true rfl), (Nat.le_of_ble_eq_true rfl)⟩)
    dsimp only [Pt.U, Pt.locs, Pt.cells, Pt.slots] at X28 l28 y28 z28 st28 hQ28
    subst l28 y28 z28
    obtain ⟨rfl, rfl, e28⟩ := hQ28
    try rw [List.append_nil] at X28
    refine OD.go (B := (T28.setTop (mkF m 180 #[.val (.int p0), .val (.int p1), .val (.int p2), .val (.int p3), .val (.int p4), .val (.int p5), .val (.int 1), .val (.ref b16), .val (.ref b19), .val (.int u142_26)] [(.int 1)]))) st28 ?_
    refine OD.go (B := (T28.setTop (mkF m 183 #[.val (.int p0), .val (.int p1), .val (.int p2), .val (.int p3), .val (.int p4), .val (.int p5), .val (.int 1), .val (.ref b16), .val (.ref b19), .val (.int u142_26)] []))) (fun t k => XS.ifNo X28.here hx rfl (hb hby at_180) rfl (by rw [if0]; exact (feq (by decide : ¬ (1 : Int32) = (0 : Int32))).1) k) ?_
    refine OD.go (B := (T28.setTop (mkF m 185 #[.val (.int p0), .val (.int p1), .val (.int p2), .val (.int p3), .val (.int p4), .val (.int p5), .val (.int 1), .val (.ref b16), .val (.ref b19), .val (.int u142_26)] [(.ref b16)]))) (fun t k => XS.aload X28.here hx rfl (hb hby at_183) rfl rfl k) ?_
    refine OD.go (B := (T28.setTop (mkF m 187 #[.val (.int p0), .val (.int p1), .val (.int p2), .val (.int p3), .val (.int p4), .val (.int p5), .val (.int 1), .val (.ref b16), .val (.ref b19), .val (.int u142_26)] [(.ref b19), (.ref b16)]))) (fun t k => XS.aload X28.here hx rfl (hb hby at_185) rfl rfl k) ?_
    refine OD.go (B := (T28.setTop (mkF m 188 #[.val (.int p0), .val (.int p1), .val (.int p2), .val (.int p3), .val (.int p4), .val (.int p5), .val (.int 1), .val (.ref b16), .val (.ref b19), .val (.int u142_26)] [(.int 2), (.ref b19), (.ref b16)]))) (fun t k => XS.iconst X28.here hx rfl (hb hby at_187) k) ?_
    refine OD.go (B := (T28.setTop (mkF m 190 #[.val (.int p0), .val (.int p1), .val (.int p2), .val (.int p3), .val (.int p4), .val (.int p5), .val (.int 1), .val (.ref b16), .val (.ref b19), .val (.int u142_26)] [(.int 1), (.int 2), (.ref b19), (.ref b16)]))) (fun t k => XS.iload X28.here hx rfl (hb hby at_188) rfl k) ?_
    obtain ⟨_, _, ⟨T29, L29, k29, n29⟩, -, X29, ⟨Lc29, hQ29, l29, y29, z29⟩, st29⟩ := Jvm.LawKit.callS X28 hx (y := (⟨"com/example/topside/topside/DescendingOrderOfPinLaw", "pair", "([D[III)Z"⟩ : MethodName)) hown (mvT hZ (Wd10 hw)) (mvT hZ (Wd11 hw)) (mvT hZ (Wd8 hw)) (mvT hZ (Wd12 hw)) (by decide) (backOf (W := 0) (rmP0 l Z a0 hw [] b16 b19 (2 : Int32) (1 : Int32) T19.heap (by decide)) hZ (Wd12 hw) (Wd8 hw) (by decide) (by decide)) (g := (mkF m 190 #[.val (.int p0), .val (.int p1), .val (.int p2), .val (.int p3), .val (.int p4), .val (.int p5), .val (.int 1), .val (.ref b16), .val (.ref b19), .val (.int u142_26)] [(.int 1), (.int 2), (.ref b19), (.ref b16)])) rfl (by rw [hml]; rfl) (argsL := [(.ref b16), (.ref b19), (.int 2), (.int 1)]) (rest := []) (lenOf pd4 rfl) rfl (by show 2 * 0 + _ ≤ _; exact Nat.le_of_eq rfl) (hb hby at_190) (fun _ _ => ⟨rfl, e28, (Nat.le_of_ble_eq_true rfl), (Nat.le_of_ble_eq_true rfl)⟩)
    dsimp only [Pt.U, Pt.locs, Pt.cells, Pt.slots] at X29 l29 y29 z29 st29 hQ29
    subst l29 y29 z29
    obtain ⟨rfl, rfl, e29⟩ := hQ29
    try rw [List.append_nil] at X29
    refine OD.go (B := (T29.setTop (mkF m 193 #[.val (.int p0), .val (.int p1), .val (.int p2), .val (.int p3), .val (.int p4), .val (.int p5), .val (.int 1), .val (.ref b16), .val (.ref b19), .val (.int u142_26)] [(.int 1)]))) st29 ?_
    refine OD.go (B := (T29.setTop (mkF m 196 #[.val (.int p0), .val (.int p1), .val (.int p2), .val (.int p3), .val (.int p4), .val (.int p5), .val (.int 1), .val (.ref b16), .val (.ref b19), .val (.int u142_26)] []))) (fun t k => XS.ifNo X29.here hx rfl (hb hby at_193) rfl (by rw [if0]; exact (feq (by decide : ¬ (1 : Int32) = (0 : Int32))).1) k) ?_
    refine OD.go (B := (T29.setTop (mkF m 198 #[.val (.int p0), .val (.int p1), .val (.int p2), .val (.int p3), .val (.int p4), .val (.int p5), .val (.int 1), .val (.ref b16), .val (.ref b19), .val (.int u142_26)] [(.ref b16)]))) (fun t k => XS.aload X29.here hx rfl (hb hby at_196) rfl rfl k) ?_
    refine OD.go (B := (T29.setTop (mkF m 200 #[.val (.int p0), .val (.int p1), .val (.int p2), .val (.int p3), .val (.int p4), .val (.int p5), .val (.int 1), .val (.ref b16), .val (.ref b19), .val (.int u142_26)] [(.ref b19), (.ref b16)]))) (fun t k => XS.aload X29.here hx rfl (hb hby at_198) rfl rfl k) ?_
    refine OD.go (B := (T29.setTop (mkF m 201 #[.val (.int p0), .val (.int p1), .val (.int p2), .val (.int p3), .val (.int p4), .val (.int p5), .val (.int 1), .val (.ref b16), .val (.ref b19), .val (.int u142_26)] [(.int 3), (.ref b19), (.ref b16)]))) (fun t k => XS.iconst X29.here hx rfl (hb hby at_200) k) ?_
    refine OD.go (B := (T29.setTop (mkF m 203 #[.val (.int p0), .val (.int p1), .val (.int p2), .val (.int p3), .val (.int p4), .val (.int p5), .val (.int 1), .val (.ref b16), .val (.ref b19), .val (.int u142_26)] [(.int 1), (.int 3), (.ref b19), (.ref b16)]))) (fun t k => XS.iload X29.here hx rfl (hb hby at_201) rfl k) ?_
    obtain ⟨_, _, ⟨T30, L30, k30, n30⟩, -, X30, ⟨Lc30, hQ30, l30, y30, z30⟩, st30⟩ := Jvm.LawKit.callS X29 hx (y := (⟨"com/example/topside/topside/DescendingOrderOfPinLaw", "pair", "([D[III)Z"⟩ : MethodName)) hown (mvT hZ (Wd10 hw)) (mvT hZ (Wd11 hw)) (mvT hZ (Wd8 hw)) (mvT hZ (Wd12 hw)) (by decide) (backOf (W := 0) (rmP0 l Z a0 hw [] b16 b19 (3 : Int32) (1 : Int32) T19.heap (by decide)) hZ (Wd12 hw) (Wd8 hw) (by decide) (by decide)) (g := (mkF m 203 #[.val (.int p0), .val (.int p1), .val (.int p2), .val (.int p3), .val (.int p4), .val (.int p5), .val (.int 1), .val (.ref b16), .val (.ref b19), .val (.int u142_26)] [(.int 1), (.int 3), (.ref b19), (.ref b16)])) rfl (by rw [hml]; rfl) (argsL := [(.ref b16), (.ref b19), (.int 3), (.int 1)]) (rest := []) (lenOf pd4 rfl) rfl (by show 2 * 0 + _ ≤ _; exact Nat.le_of_eq rfl) (hb hby at_203) (fun _ _ => ⟨rfl, e29, (Nat.le_of_ble_eq_true rfl), (Nat.le_of_ble_eq_true rfl)⟩)
    dsimp only [Pt.U, Pt.locs, Pt.cells, Pt.slots] at X30 l30 y30 z30 st30 hQ30
    subst l30 y30 z30
    obtain ⟨rfl, rfl, e30⟩ := hQ30
    try rw [List.append_nil] at X30
    refine OD.go (B := (T30.setTop (mkF m 206 #[.val (.int p0), .val (.int p1), .val (.int p2), .val (.int p3), .val (.int p4), .val (.int p5), .val (.int 1), .val (.ref b16), .val (.ref b19), .val (.int u142_26)] [(.int 1)]))) st30 ?_
    refine OD.go (B := (T30.setTop (mkF m 209 #[.val (.int p0), .val (.int p1), .val (.int p2), .val (.int p3), .val (.int p4), .val (.int p5), .val (.int 1), .val (.ref b16), .val (.ref b19), .val (.int u142_26)] []))) (fun t k => XS.ifNo X30.here hx rfl (hb hby at_206) rfl (by rw [if0]; exact (feq (by decide : ¬ (1 : Int32) = (0 : Int32))).1) k) ?_
    refine OD.go (B := (T30.setTop (mkF m 210 #[.val (.int p0), .val (.int p1), .val (.int p2), .val (.int p3), .val (.int p4), .val (.int p5), .val (.int 1), .val (.ref b16), .val (.ref b19), .val (.int u142_26)] [(.int 1)]))) (fun t k => XS.iconst X30.here hx rfl (hb hby at_209) k) ?_
    refine OD.go (B := (T30.setTop (mkF m 214 #[.val (.int p0), .val (.int p1), .val (.int p2), .val (.int p3), .val (.int p4), .val (.int p5), .val (.int 1), .val (.ref b16), .val (.ref b19), .val (.int u142_26)] [(.int 1)]))) (fun t k => XS.goto X30.here hx rfl (pc0 := 210) (pc' := 214) rfl (hb hby at_210) (by decide) (by decide) k) ?_
    exact OD.ret X30 hx hlk (t := .boolean) Bd.returns rfl (Or.inl ⟨rfl, Or.inr (Or.inl rfl), _, rfl⟩) (hb hby at_214) (Nat.le_of_ble_eq_true rfl) (Nat.le_of_ble_eq_true rfl) ⟨rfl, N19⟩
  · subst q6
    refine OD.go (B := (s₁.setTop (mkF m 11 #[.val (.int p0), .val (.int p1), .val (.int p2), .val (.int p3), .val (.int p4), .val (.int p5), .val (.int 2), .unset, .unset, .unset] [(.int 2)]))) (fun t k => XS.iload X0.here hx rfl (hb hby at_9) rfl k) ?_
    obtain ⟨T31, h31, k31, X31, e31, E31, A31, st31⟩ := newP X0 hx hZ (aty := .double) (Wd0 hw) e0 (g := (mkF m 11 #[.val (.int p0), .val (.int p1), .val (.int p2), .val (.int p3), .val (.int p4), .val (.int p5), .val (.int 2), .unset, .unset, .unset] [(.int 2)])) rfl (hb hby at_11) rfl (by decide) (cap := 2) (by decide) (by decide) (Nat.le_of_ble_eq_true rfl) (Nat.le_of_ble_eq_true rfl)
    obtain ⟨b31, g31⟩ : ∃ z, z = h0.size := ⟨_, rfl⟩
    rw [← g31] at A31 st31
    have V31 : Arv Z h31 b31 k31 .double (2 : Int32) [(.double (0 : UInt64)), (.double (0 : UInt64))] (.double (0 : UInt64)) := (Arv.new A31 (by decide)).pad (pad_rep [] (.double (0 : UInt64)) 2)
    refine OD.go (B := (T31.setTop (mkF m 13 #[.val (.int p0), .val (.int p1), .val (.int p2), .val (.int p3), .val (.int p4), .val (.int p5), .val (.int 2), .unset, .unset, .unset] [(.ref b31)]))) st31 ?_
    refine OD.go (B := (T31.setTop (mkF m 15 #[.val (.int p0), .val (.int p1), .val (.int p2), .val (.int p3), .val (.int p4), .val (.int p5), .val (.int 2), .val (.ref b31), .unset, .unset] []))) (fun t k => XS.astore X31.here hx rfl (hb hby at_13) rfl rfl (l' := #[.val (.int p0), .val (.int p1), .val (.int p2), .val (.int p3), .val (.int p4), .val (.int p5), .val (.int 2), .val (.ref b31), .unset, .unset]) rfl k) ?_
    refine OD.go (B := (T31.setTop (mkF m 17 #[.val (.int p0), .val (.int p1), .val (.int p2), .val (.int p3), .val (.int p4), .val (.int p5), .val (.int 2), .val (.ref b31), .unset, .unset] [(.int 2)]))) (fun t k => XS.iload X31.here hx rfl (hb hby at_15) rfl k) ?_
    refine OD.go (B := (T31.setTop (mkF m 20 #[.val (.int p0), .val (.int p1), .val (.int p2), .val (.int p3), .val (.int p4), .val (.int p5), .val (.int 2), .val (.ref b31), .unset, .unset] []))) (fun t k => XS.ifNo X31.here hx rfl (hb hby at_17) rfl (by rw [if0]; exact (tlt (by decide : (0 : Int32) < (2 : Int32))).2.2.2) k) ?_
    refine OD.go (B := (T31.setTop (mkF m 22 #[.val (.int p0), .val (.int p1), .val (.int p2), .val (.int p3), .val (.int p4), .val (.int p5), .val (.int 2), .val (.ref b31), .unset, .unset] [(.ref b31)]))) (fun t k => XS.aload X31.here hx rfl (hb hby at_20) rfl rfl k) ?_
    refine OD.go (B := (T31.setTop (mkF m 23 #[.val (.int p0), .val (.int p1), .val (.int p2), .val (.int p3), .val (.int p4), .val (.int p5), .val (.int 2), .val (.ref b31), .unset, .unset] [(.int 0), (.ref b31)]))) (fun t k => XS.iconst X31.here hx rfl (hb hby at_22) k) ?_
    refine OD.go (B := (T31.setTop (mkF m 24 #[.val (.int p0), .val (.int p1), .val (.int p2), .val (.int p3), .val (.int p4), .val (.int p5), .val (.int 2), .val (.ref b31), .unset, .unset] [(.int p1), (.int 0), (.ref b31)]))) (fun t k => XS.iloadN X31.here hx rfl (hb hby at_23) rfl k) ?_
    refine OD.go (B := (T31.setTop (mkF m 25 #[.val (.int p0), .val (.int p1), .val (.int p2), .val (.int p3), .val (.int p4), .val (.int p5), .val (.int 2), .val (.ref b31), .unset, .unset] [(.double (FP.i2d p1)), (.int 0), (.ref b31)]))) (fun t k => XS.i2dS X31.here hx rfl (hb hby at_24) rfl (v := (FP.i2d p1)) rfl k) ?_
    obtain ⟨cl32, Ar32, q32, S32, M32, H32, G32⟩ := id V31
    obtain ⟨T32, h32, X32, e32, W32, st32⟩ := stD X31 hx hZ e31 Ar32 (j := (0 : Int32)) (inb_of S32 ⟨by decide, by decide⟩) (g := (mkF m 25 #[.val (.int p0), .val (.int p1), .val (.int p2), .val (.int p3), .val (.int p4), .val (.int p5), .val (.int 2), .val (.ref b31), .unset, .unset] [(.double (FP.i2d p1)), (.int 0), (.ref b31)])) rfl rfl (hb hby at_25)
    have V32 : Arv Z h32 b31 k31 .double (2 : Int32) [(.double (FP.i2d p1)), (.double (0 : UInt64))] (.double (0 : UInt64)) := Arv.set Ar32 q32 S32 M32 H32 G32 rfl W32 0 rfl (Nat.le_of_ble_eq_true rfl)
    have N32 := Fr.snoc X32 N0 (Nat.le_trans (Nat.le_refl _) (Nat.le_of_eq g31.symm))
    refine OD.go (B := (T32.setTop (mkF m 26 #[.val (.int p0), .val (.int p1), .val (.int p2), .val (.int p3), .val (.int p4), .val (.int p5), .val (.int 2), .val (.ref b31), .unset, .unset] []))) st32 ?_
    refine OD.go (B := (T32.setTop (mkF m 28 #[.val (.int p0), .val (.int p1), .val (.int p2), .val (.int p3), .val (.int p4), .val (.int p5), .val (.int 2), .val (.ref b31), .unset, .unset] [(.int 2)]))) (fun t k => XS.iload X32.here hx rfl (hb hby at_26) rfl k) ?_
    refine OD.go (B := (T32.setTop (mkF m 29 #[.val (.int p0), .val (.int p1), .val (.int p2), .val (.int p3), .val (.int p4), .val (.int p5), .val (.int 2), .val (.ref b31), .unset, .unset] [(.int 1), (.int 2)]))) (fun t k => XS.iconst X32.here hx rfl (hb hby at_28) k) ?_
    refine OD.go (B := (T32.setTop (mkF m 32 #[.val (.int p0), .val (.int p1), .val (.int p2), .val (.int p3), .val (.int p4), .val (.int p5), .val (.int 2), .val (.ref b31), .unset, .unset] []))) (fun t k => XS.icmpNo X32.here hx rfl (hb hby at_29) rfl (tlt (by decide : (1 : Int32) < (2 : Int32))).2.2.2 k) ?_
    refine OD.go (B := (T32.setTop (mkF m 34 #[.val (.int p0), .val (.int p1), .val (.int p2), .val (.int p3), .val (.int p4), .val (.int p5), .val (.int 2), .val (.ref b31), .unset, .unset] [(.ref b31)]))) (fun t k => XS.aload X32.here hx rfl (hb hby at_32) rfl rfl k) ?_
    refine OD.go (B := (T32.setTop (mkF m 35 #[.val (.int p0), .val (.int p1), .val (.int p2), .val (.int p3), .val (.int p4), .val (.int p5), .val (.int 2), .val (.ref b31), .unset, .unset] [(.int 1), (.ref b31)]))) (fun t k => XS.iconst X32.here hx rfl (hb hby at_34) k) ?_
    refine OD.go (B := (T32.setTop (mkF m 36 #[.val (.int p0), .val (.int p1), .val (.int p2), .val (.int p3), .val (.int p4), .val (.int p5), .val (.int 2), .val (.ref b31), .unset, .unset] [(.int p2), (.int 1), (.ref b31)]))) (fun t k => XS.iloadN X32.here hx rfl (hb hby at_35) rfl k) ?_
    refine OD.go (B := (T32.setTop (mkF m 37 #[.val (.int p0), .val (.int p1), .val (.int p2), .val (.int p3), .val (.int p4), .val (.int p5), .val (.int 2), .val (.ref b31), .unset, .unset] [(.double (FP.i2d p2)), (.int 1), (.ref b31)]))) (fun t k => XS.i2dS X32.here hx rfl (hb hby at_36) rfl (v := (FP.i2d p2)) rfl k) ?_
    obtain ⟨cl33, Ar33, q33, S33, M33, H33, G33⟩ := id V32
    obtain ⟨T33, h33, X33, e33, W33, st33⟩ := stD X32 hx hZ e32 Ar33 (j := (1 : Int32)) (inb_of S33 ⟨by decide, by decide⟩) (g := (mkF m 37 #[.val (.int p0), .val (.int p1), .val (.int p2), .val (.int p3), .val (.int p4), .val (.int p5), .val (.int 2), .val (.ref b31), .unset, .unset] [(.double (FP.i2d p2)), (.int 1), (.ref b31)])) rfl rfl (hb hby at_37)
    have V33 : Arv Z h33 b31 k31 .double (2 : Int32) [(.double (FP.i2d p1)), (.double (FP.i2d p2))] (.double (0 : UInt64)) := Arv.set Ar33 q33 S33 M33 H33 G33 rfl W33 1 rfl (Nat.le_of_ble_eq_true rfl)
    have N33 := Fr.snoc X33 N32 (Nat.le_trans (Nat.le_refl _) (Nat.le_of_eq g31.symm))
    refine OD.go (B := (T33.setTop (mkF m 38 #[.val (.int p0), .val (.int p1), .val (.int p2), .val (.int p3), .val (.int p4), .val (.int p5), .val (.int 2), .val (.ref b31), .unset, .unset] []))) st33 ?_
    refine OD.go (B := (T33.setTop (mkF m 40 #[.val (.int p0), .val (.int p1), .val (.int p2), .val (.int p3), .val (.int p4), .val (.int p5), .val (.int 2), .val (.ref b31), .unset, .unset] [(.int 2)]))) (fun t k => XS.iload X33.here hx rfl (hb hby at_38) rfl k) ?_
    refine OD.go (B := (T33.setTop (mkF m 41 #[.val (.int p0), .val (.int p1), .val (.int p2), .val (.int p3), .val (.int p4), .val (.int p5), .val (.int 2), .val (.ref b31), .unset, .unset] [(.int 2), (.int 2)]))) (fun t k => XS.iconst X33.here hx rfl (hb hby at_40) k) ?_
    refine OD.go (B := (T33.setTop (mkF m 50 #[.val (.int p0), .val (.int p1), .val (.int p2), .val (.int p3), .val (.int p4), .val (.int p5), .val (.int 2), .val (.ref b31), .unset, .unset] []))) (fun t k => XS.icmpYes X33.here hx rfl (pc0 := 41) (pc' := 50) rfl (hb hby at_41) rfl (flt (by decide : ¬ (2 : Int32) < (2 : Int32))).2.2.2 (by decide) (by decide) k) ?_
    refine OD.go (B := (T33.setTop (mkF m 52 #[.val (.int p0), .val (.int p1), .val (.int p2), .val (.int p3), .val (.int p4), .val (.int p5), .val (.int 2), .val (.ref b31), .unset, .unset] [(.int 2)]))) (fun t k => XS.iload X33.here hx rfl (hb hby at_50) rfl k) ?_
    refine OD.go (B := (T33.setTop (mkF m 53 #[.val (.int p0), .val (.int p1), .val (.int p2), .val (.int p3), .val (.int p4), .val (.int p5), .val (.int 2), .val (.ref b31), .unset, .unset] [(.int 3), (.int 2)]))) (fun t k => XS.iconst X33.here hx rfl (hb hby at_52) k) ?_
    refine OD.go (B := (T33.setTop (mkF m 63 #[.val (.int p0), .val (.int p1), .val (.int p2), .val (.int p3), .val (.int p4), .val (.int p5), .val (.int 2), .val (.ref b31), .unset, .unset] []))) (fun t k => XS.icmpYes X33.here hx rfl (pc0 := 53) (pc' := 63) rfl (hb hby at_53) rfl (flt (by decide : ¬ (3 : Int32) < (2 : Int32))).2.2.2 (by decide) (by decide) k) ?_
    refine OD.go (B := (T33.setTop (mkF m 65 #[.val (.int p0), .val (.int p1), .val (.int p2), .val (.int p3), .val (.int p4), .val (.int p5), .val (.int 2), .val (.ref b31), .unset, .unset] [(.int 2)]))) (fun t k => XS.iload X33.here hx rfl (hb hby at_63) rfl k) ?_
    refine OD.go (B := (T33.setTop (mkF m 66 #[.val (.int p0), .val (.int p1), .val (.int p2), .val (.int p3), .val (.int p4), .val (.int p5), .val (.int 2), .val (.ref b31), .unset, .unset] [(.int 4), (.int 2)]))) (fun t k => XS.iconst X33.here hx rfl (hb hby at_65) k) ?_
    refine OD.go (B := (T33.setTop (mkF m 76 #[.val (.int p0), .val (.int p1), .val (.int p2), .val (.int p3), .val (.int p4), .val (.int p5), .val (.int 2), .val (.ref b31), .unset, .unset] []))) (fun t k => XS.icmpYes X33.here hx rfl (pc0 := 66) (pc' := 76) rfl (hb hby at_66) rfl (flt (by decide : ¬ (4 : Int32) < (2 : Int32))).2.2.2 (by decide) (by decide) k) ?_
    refine OD.go (B := (T33.setTop (mkF m 78 #[.val (.int p0), .val (.int p1), .val (.int p2), .val (.int p3), .val (.int p4), .val (.int p5), .val (.int 2), .val (.ref b31), .unset, .unset] [(.ref b31)]))) (fun t k => XS.aload X33.here hx rfl (hb hby at_76) rfl rfl k) ?_
    have Vf34 : Arv Z h33 b31 k31 .double (2 : Int32) (own_rg (2 : Int32).toNatClampNeg (fun x => .double (sv0 x))) (.double 0) := by rw [hsv]; exact V33
    obtain ⟨_, _, ⟨T35, L35, k35, n35⟩, -, X35, ⟨Lc35, hQ35, l35, y35, z35⟩, st35⟩ := Jvm.LawKit.callS X33 hx (y := (⟨"com/example/topside/topside/DescendingOrder", "of", "([D)[I"⟩ : MethodName)) hown (mvT hZ (Wd1 hw)) (mvT hZ (Wd2 hw)) (mvT hZ (Wd3 hw)) (mvT hZ (Wd4 hw)) (by decide) (backOf (W := 0) (rmO2 l Z a0 hw [] b31 h33 h0.size (Nat.le_trans (Nat.le_trans (Nat.le_trans (Nat.le_refl _) E31.1) (Keep.of_wr W32).1) (Keep.of_wr W33).1) k31 sv0 Vf34) hZ (Wd4 hw) (Wd3 hw) (by decide) (by decide)) (g := (mkF m 78 #[.val (.int p0), .val (.int p1), .val (.int p2), .val (.int p3), .val (.int p4), .val (.int p5), .val (.int 2), .val (.ref b31), .unset, .unset] [(.ref b31)])) rfl (by rw [hml]; rfl) (argsL := [(.ref b31)]) (rest := []) (lenOf pd2 rfl) rfl (by show 2 * 0 + _ ≤ _; exact Nat.le_of_eq rfl) (hb hby at_78) (fun _ _ => ⟨rfl, e33, (Nat.le_of_ble_eq_true rfl), (Nat.le_of_ble_eq_true rfl)⟩)
    dsimp only [Pt.U, Pt.locs, Pt.cells, Pt.slots] at X35 l35 y35 z35 st35 hQ35
    subst l35 y35 z35
    obtain ⟨b35, k35', rfl, Nq35, K35, ob35, A35⟩ := hQ35
    have N35 := Fr.app N33 Nq35
    refine OD.go (B := (T35.setTop (mkF m 81 #[.val (.int p0), .val (.int p1), .val (.int p2), .val (.int p3), .val (.int p4), .val (.int p5), .val (.int 2), .val (.ref b31), .unset, .unset] [(.ref b35)]))) st35 ?_
    refine OD.go (B := (T35.setTop (mkF m 83 #[.val (.int p0), .val (.int p1), .val (.int p2), .val (.int p3), .val (.int p4), .val (.int p5), .val (.int 2), .val (.ref b31), .val (.ref b35), .unset] []))) (fun t k => XS.astore X35.here hx rfl (hb hby at_81) rfl rfl (l' := #[.val (.int p0), .val (.int p1), .val (.int p2), .val (.int p3), .val (.int p4), .val (.int p5), .val (.int 2), .val (.ref b31), .val (.ref b35), .unset]) rfl k) ?_
    refine OD.go (B := (T35.setTop (mkF m 85 #[.val (.int p0), .val (.int p1), .val (.int p2), .val (.int p3), .val (.int p4), .val (.int p5), .val (.int 2), .val (.ref b31), .val (.ref b35), .unset] [(.ref b35)]))) (fun t k => XS.aload X35.here hx rfl (hb hby at_83) rfl rfl k) ?_
    refine OD.go (B := (T35.setTop (mkF m 88 #[.val (.int p0), .val (.int p1), .val (.int p2), .val (.int p3), .val (.int p4), .val (.int p5), .val (.int 2), .val (.ref b31), .val (.ref b35), .unset] []))) (fun t k => XS.ifnullNo X35.here hx rfl (hb hby at_85) rfl k) ?_
    refine OD.go (B := (T35.setTop (mkF m 90 #[.val (.int p0), .val (.int p1), .val (.int p2), .val (.int p3), .val (.int p4), .val (.int p5), .val (.int 2), .val (.ref b31), .val (.ref b35), .unset] [(.ref b35)]))) (fun t k => XS.aload X35.here hx rfl (hb hby at_88) rfl rfl k) ?_
    obtain ⟨cl36, Ar36, hl36⟩ := own_len A35
    refine OD.go (B := (T35.setTop (mkF m 91 #[.val (.int p0), .val (.int p1), .val (.int p2), .val (.int p3), .val (.int p4), .val (.int p5), .val (.int 2), .val (.ref b31), .val (.ref b35), .unset] [(.int 2)]))) (fun t k => X35.arraylength hx (by exact Ar36.1) (State.isArrayOf_alike hZ.alike Ar36.2.1) (g := (mkF m 90 #[.val (.int p0), .val (.int p1), .val (.int p2), .val (.int p3), .val (.int p4), .val (.int p5), .val (.int 2), .val (.ref b31), .val (.ref b35), .unset] [(.ref b35)])) rfl rfl (hb hby at_90) _ (by rw [hl36]; exact k)) ?_
    refine OD.go (B := (T35.setTop (mkF m 93 #[.val (.int p0), .val (.int p1), .val (.int p2), .val (.int p3), .val (.int p4), .val (.int p5), .val (.int 2), .val (.ref b31), .val (.ref b35), .unset] [(.int 2), (.int 2)]))) (fun t k => XS.iload X35.here hx rfl (hb hby at_91) rfl k) ?_
    refine OD.go (B := (T35.setTop (mkF m 98 #[.val (.int p0), .val (.int p1), .val (.int p2), .val (.int p3), .val (.int p4), .val (.int p5), .val (.int 2), .val (.ref b31), .val (.ref b35), .unset] []))) (fun t k => XS.icmpYes X35.here hx rfl (pc0 := 93) (pc' := 98) rfl (hb hby at_93) rfl (teq (by decide : (2 : Int32) = (2 : Int32))).1 (by decide) (by decide) k) ?_
    refine OD.go (B := (T35.setTop (mkF m 100 #[.val (.int p0), .val (.int p1), .val (.int p2), .val (.int p3), .val (.int p4), .val (.int p5), .val (.int 2), .val (.ref b31), .val (.ref b35), .unset] [(.ref b35)]))) (fun t k => XS.aload X35.here hx rfl (hb hby at_98) rfl rfl k) ?_
    refine OD.go (B := (T35.setTop (mkF m 101 #[.val (.int p0), .val (.int p1), .val (.int p2), .val (.int p3), .val (.int p4), .val (.int p5), .val (.int 2), .val (.ref b31), .val (.ref b35), .unset] [(.int 0), (.ref b35)]))) (fun t k => XS.iconst X35.here hx rfl (hb hby at_100) k) ?_
    refine OD.go (B := (T35.setTop (mkF m 103 #[.val (.int p0), .val (.int p1), .val (.int p2), .val (.int p3), .val (.int p4), .val (.int p5), .val (.int 2), .val (.ref b31), .val (.ref b35), .unset] [(.int 2), (.int 0), (.ref b35)]))) (fun t k => XS.iload X35.here hx rfl (hb hby at_101) rfl k) ?_
    obtain ⟨_, _, ⟨T37, L37, k37, n37⟩, -, X37, ⟨Lc37, hQ37, l37, y37, z37⟩, st37⟩ := Jvm.LawKit.callS X35 hx (y := (⟨"com/example/topside/topside/DescendingOrderOfPinLaw", "bit", "([III)I"⟩ : MethodName)) hown (mvT hZ (Wd6 hw)) (mvT hZ (Wd7 hw)) (mvT hZ (Wd8 hw)) (mvT hZ (Wd9 hw)) (by decide) (backOf (W := 0) (rmB1 l Z a0 hw [] b35 (0 : Int32) (2 : Int32) T35.heap k35' (own_m2_0 sv0) A35 ⟨by decide, by decide⟩ (own_m2_0_b sv0)) hZ (Wd9 hw) (Wd8 hw) (by decide) (by decide)) (g := (mkF m 103 #[.val (.int p0), .val (.int p1), .val (.int p2), .val (.int p3), .val (.int p4), .val (.int p5), .val (.int 2), .val (.ref b31), .val (.ref b35), .unset] [(.int 2), (.int 0), (.ref b35)])) rfl (by rw [hml]; rfl) (argsL := [(.ref b35), (.int 0), (.int 2)]) (rest := []) (lenOf pd3 rfl) rfl (by show 2 * 0 + _ ≤ _; exact Nat.le_of_eq rfl) (hb hby at_103) (fun _ _ => ⟨rfl, rfl, (Nat.le_of_ble_eq_true rfl), (Nat.le_of_ble_eq_true rfl)⟩)
    dsimp only [Pt.U, Pt.locs, Pt.cells, Pt.slots] at X37 l37 y37 z37 st37 hQ37
    subst l37 y37 z37
    obtain ⟨rfl, rfl, e37⟩ := hQ37
    try rw [List.append_nil] at X37
    refine OD.go (B := (T37.setTop (mkF m 106 #[.val (.int p0), .val (.int p1), .val (.int p2), .val (.int p3), .val (.int p4), .val (.int p5), .val (.int 2), .val (.ref b31), .val (.ref b35), .unset] [(.int ((1 : Int32) <<< (((own_m2_0 sv0) (0 : Int32)) &&& 31)))]))) st37 ?_
    refine OD.go (B := (T37.setTop (mkF m 108 #[.val (.int p0), .val (.int p1), .val (.int p2), .val (.int p3), .val (.int p4), .val (.int p5), .val (.int 2), .val (.ref b31), .val (.ref b35), .unset] [(.ref b35), (.int ((1 : Int32) <<< (((own_m2_0 sv0) (0 : Int32)) &&& 31)))]))) (fun t k => XS.aload X37.here hx rfl (hb hby at_106) rfl rfl k) ?_
    refine OD.go (B := (T37.setTop (mkF m 109 #[.val (.int p0), .val (.int p1), .val (.int p2), .val (.int p3), .val (.int p4), .val (.int p5), .val (.int 2), .val (.ref b31), .val (.ref b35), .unset] [(.int 1), (.ref b35), (.int ((1 : Int32) <<< (((own_m2_0 sv0) (0 : Int32)) &&& 31)))]))) (fun t k => XS.iconst X37.here hx rfl (hb hby at_108) k) ?_
    refine OD.go (B := (T37.setTop (mkF m 111 #[.val (.int p0), .val (.int p1), .val (.int p2), .val (.int p3), .val (.int p4), .val (.int p5), .val (.int 2), .val (.ref b31), .val (.ref b35), .unset] [(.int 2), (.int 1), (.ref b35), (.int ((1 : Int32) <<< (((own_m2_0 sv0) (0 : Int32)) &&& 31)))]))) (fun t k => XS.iload X37.here hx rfl (hb hby at_109) rfl k) ?_
    obtain ⟨_, _, ⟨T38, L38, k38, n38⟩, -, X38, ⟨Lc38, hQ38, l38, y38, z38⟩, st38⟩ := Jvm.LawKit.callS X37 hx (y := (⟨"com/example/topside/topside/DescendingOrderOfPinLaw", "bit", "([III)I"⟩ : MethodName)) hown (mvT hZ (Wd6 hw)) (mvT hZ (Wd7 hw)) (mvT hZ (Wd8 hw)) (mvT hZ (Wd9 hw)) (by decide) (backOf (W := 1) (rmB1 l Z a0 hw [] b35 (1 : Int32) (2 : Int32) T35.heap k35' (own_m2_0 sv0) A35 ⟨by decide, by decide⟩ (own_m2_0_b sv0)) hZ (Wd9 hw) (Wd8 hw) (by decide) (by decide)) (g := (mkF m 111 #[.val (.int p0), .val (.int p1), .val (.int p2), .val (.int p3), .val (.int p4), .val (.int p5), .val (.int 2), .val (.ref b31), .val (.ref b35), .unset] [(.int 2), (.int 1), (.ref b35), (.int ((1 : Int32) <<< (((own_m2_0 sv0) (0 : Int32)) &&& 31)))])) rfl (by rw [hml]; rfl) (argsL := [(.ref b35), (.int 1), (.int 2)]) (rest := [(.int ((1 : Int32) <<< (((own_m2_0 sv0) (0 : Int32)) &&& 31)))]) (lenOf pd3 rfl) rfl (by show 2 * 0 + _ ≤ _; exact Nat.le_of_eq rfl) (hb hby at_111) (fun _ _ => ⟨rfl, e37, (Nat.le_of_ble_eq_true rfl), (Nat.le_of_ble_eq_true rfl)⟩)
    dsimp only [Pt.U, Pt.locs, Pt.cells, Pt.slots] at X38 l38 y38 z38 st38 hQ38
    subst l38 y38 z38
    obtain ⟨rfl, rfl, e38⟩ := hQ38
    try rw [List.append_nil] at X38
    refine OD.go (B := (T38.setTop (mkF m 114 #[.val (.int p0), .val (.int p1), .val (.int p2), .val (.int p3), .val (.int p4), .val (.int p5), .val (.int 2), .val (.ref b31), .val (.ref b35), .unset] [(.int ((1 : Int32) <<< (((own_m2_0 sv0) (1 : Int32)) &&& 31))), (.int ((1 : Int32) <<< (((own_m2_0 sv0) (0 : Int32)) &&& 31)))]))) st38 ?_
    refine OD.go (B := (T38.setTop (mkF m 115 #[.val (.int p0), .val (.int p1), .val (.int p2), .val (.int p3), .val (.int p4), .val (.int p5), .val (.int 2), .val (.ref b31), .val (.ref b35), .unset] [(.int (((1 : Int32) <<< (((own_m2_0 sv0) (0 : Int32)) &&& 31)) ||| ((1 : Int32) <<< (((own_m2_0 sv0) (1 : Int32)) &&& 31))))]))) (fun t k => XS.ior X38.here hx rfl (hb hby at_114) rfl k) ?_
    refine OD.go (B := (T38.setTop (mkF m 117 #[.val (.int p0), .val (.int p1), .val (.int p2), .val (.int p3), .val (.int p4), .val (.int p5), .val (.int 2), .val (.ref b31), .val (.ref b35), .unset] [(.ref b35), (.int (((1 : Int32) <<< (((own_m2_0 sv0) (0 : Int32)) &&& 31)) ||| ((1 : Int32) <<< (((own_m2_0 sv0) (1 : Int32)) &&& 31))))]))) (fun t k => XS.aload X38.here hx rfl (hb hby at_115) rfl rfl k) ?_
    refine OD.go (B := (T38.setTop (mkF m 118 #[.val (.int p0), .val (.int p1), .val (.int p2), .val (.int p3), .val (.int p4), .val (.int p5), .val (.int 2), .val (.ref b31), .val (.ref b35), .unset] [(.int 2), (.ref b35), (.int (((1 : Int32) <<< (((own_m2_0 sv0) (0 : Int32)) &&& 31)) ||| ((1 : Int32) <<< (((own_m2_0 sv0) (1 : Int32)) &&& 31))))]))) (fun t k => XS.iconst X38.here hx rfl (hb hby at_117) k) ?_
    refine OD.go (B := (T38.setTop (mkF m 120 #[.val (.int p0), .val (.int p1), .val (.int p2), .val (.int p3), .val (.int p4), .val (.int p5), .val (.int 2), .val (.ref b31), .val (.ref b35), .unset] [(.int 2), (.int 2), (.ref b35), (.int (((1 : Int32) <<< (((own_m2_0 sv0) (0 : Int32)) &&& 31)) ||| ((1 : Int32) <<< (((own_m2_0 sv0) (1 : Int32)) &&& 31))))]))) (fun t k => XS.iload X38.here hx rfl (hb hby at_118) rfl k) ?_
    obtain ⟨_, _, ⟨T39, L39, k39, n39⟩, -, X39, ⟨Lc39, hQ39, l39, y39, z39⟩, st39⟩ := Jvm.LawKit.callS X38 hx (y := (⟨"com/example/topside/topside/DescendingOrderOfPinLaw", "bit", "([III)I"⟩ : MethodName)) hown (mvT hZ (Wd6 hw)) (mvT hZ (Wd7 hw)) (mvT hZ (Wd8 hw)) (mvT hZ (Wd9 hw)) (by decide) (backOf (W := 1) (rmB0 l Z a0 hw [] b35 (2 : Int32) (2 : Int32) T35.heap (by decide)) hZ (Wd9 hw) (Wd8 hw) (by decide) (by decide)) (g := (mkF m 120 #[.val (.int p0), .val (.int p1), .val (.int p2), .val (.int p3), .val (.int p4), .val (.int p5), .val (.int 2), .val (.ref b31), .val (.ref b35), .unset] [(.int 2), (.int 2), (.ref b35), (.int (((1 : Int32) <<< (((own_m2_0 sv0) (0 : Int32)) &&& 31)) ||| ((1 : Int32) <<< (((own_m2_0 sv0) (1 : Int32)) &&& 31))))])) rfl (by rw [hml]; rfl) (argsL := [(.ref b35), (.int 2), (.int 2)]) (rest := [(.int (((1 : Int32) <<< (((own_m2_0 sv0) (0 : Int32)) &&& 31)) ||| ((1 : Int32) <<< (((own_m2_0 sv0) (1 : Int32)) &&& 31))))]) (lenOf pd3 rfl) rfl (by show 2 * 0 + _ ≤ _; exact Nat.le_of_eq rfl) (hb hby at_120) (fun _ _ => ⟨rfl, e38, (Nat.le_of_ble_eq_true rfl), (Nat.le_of_ble_eq_true rfl)⟩)
    dsimp only [Pt.U, Pt.locs, Pt.cells, Pt.slots] at X39 l39 y39 z39 st39 hQ39
    subst l39 y39 z39
    obtain ⟨rfl, rfl, e39⟩ := hQ39
    try rw [List.append_nil] at X39
    refine OD.go (B := (T39.setTop (mkF m 123 #[.val (.int p0), .val (.int p1), .val (.int p2), .val (.int p3), .val (.int p4), .val (.int p5), .val (.int 2), .val (.ref b31), .val (.ref b35), .unset] [(.int 0), (.int (((1 : Int32) <<< (((own_m2_0 sv0) (0 : Int32)) &&& 31)) ||| ((1 : Int32) <<< (((own_m2_0 sv0) (1 : Int32)) &&& 31))))]))) st39 ?_
    refine OD.go (B := (T39.setTop (mkF m 124 #[.val (.int p0), .val (.int p1), .val (.int p2), .val (.int p3), .val (.int p4), .val (.int p5), .val (.int 2), .val (.ref b31), .val (.ref b35), .unset] [(.int ((((1 : Int32) <<< (((own_m2_0 sv0) (0 : Int32)) &&& 31)) ||| ((1 : Int32) <<< (((own_m2_0 sv0) (1 : Int32)) &&& 31))) ||| (0 : Int32)))]))) (fun t k => XS.ior X39.here hx rfl (hb hby at_123) rfl k) ?_
    refine OD.go (B := (T39.setTop (mkF m 126 #[.val (.int p0), .val (.int p1), .val (.int p2), .val (.int p3), .val (.int p4), .val (.int p5), .val (.int 2), .val (.ref b31), .val (.ref b35), .unset] [(.ref b35), (.int ((((1 : Int32) <<< (((own_m2_0 sv0) (0 : Int32)) &&& 31)) ||| ((1 : Int32) <<< (((own_m2_0 sv0) (1 : Int32)) &&& 31))) ||| (0 : Int32)))]))) (fun t k => XS.aload X39.here hx rfl (hb hby at_124) rfl rfl k) ?_
    refine OD.go (B := (T39.setTop (mkF m 127 #[.val (.int p0), .val (.int p1), .val (.int p2), .val (.int p3), .val (.int p4), .val (.int p5), .val (.int 2), .val (.ref b31), .val (.ref b35), .unset] [(.int 3), (.ref b35), (.int ((((1 : Int32) <<< (((own_m2_0 sv0) (0 : Int32)) &&& 31)) ||| ((1 : Int32) <<< (((own_m2_0 sv0) (1 : Int32)) &&& 31))) ||| (0 : Int32)))]))) (fun t k => XS.iconst X39.here hx rfl (hb hby at_126) k) ?_
    refine OD.go (B := (T39.setTop (mkF m 129 #[.val (.int p0), .val (.int p1), .val (.int p2), .val (.int p3), .val (.int p4), .val (.int p5), .val (.int 2), .val (.ref b31), .val (.ref b35), .unset] [(.int 2), (.int 3), (.ref b35), (.int ((((1 : Int32) <<< (((own_m2_0 sv0) (0 : Int32)) &&& 31)) ||| ((1 : Int32) <<< (((own_m2_0 sv0) (1 : Int32)) &&& 31))) ||| (0 : Int32)))]))) (fun t k => XS.iload X39.here hx rfl (hb hby at_127) rfl k) ?_
    obtain ⟨_, _, ⟨T40, L40, k40, n40⟩, -, X40, ⟨Lc40, hQ40, l40, y40, z40⟩, st40⟩ := Jvm.LawKit.callS X39 hx (y := (⟨"com/example/topside/topside/DescendingOrderOfPinLaw", "bit", "([III)I"⟩ : MethodName)) hown (mvT hZ (Wd6 hw)) (mvT hZ (Wd7 hw)) (mvT hZ (Wd8 hw)) (mvT hZ (Wd9 hw)) (by decide) (backOf (W := 1) (rmB0 l Z a0 hw [] b35 (3 : Int32) (2 : Int32) T35.heap (by decide)) hZ (Wd9 hw) (Wd8 hw) (by decide) (by decide)) (g := (mkF m 129 #[.val (.int p0), .val (.int p1), .val (.int p2), .val (.int p3), .val (.int p4), .val (.int p5), .val (.int 2), .val (.ref b31), .val (.ref b35), .unset] [(.int 2), (.int 3), (.ref b35), (.int ((((1 : Int32) <<< (((own_m2_0 sv0) (0 : Int32)) &&& 31)) ||| ((1 : Int32) <<< (((own_m2_0 sv0) (1 : Int32)) &&& 31))) ||| (0 : Int32)))])) rfl (by rw [hml]; rfl) (argsL := [(.ref b35), (.int 3), (.int 2)]) (rest := [(.int ((((1 : Int32) <<< (((own_m2_0 sv0) (0 : Int32)) &&& 31)) ||| ((1 : Int32) <<< (((own_m2_0 sv0) (1 : Int32)) &&& 31))) ||| (0 : Int32)))]) (lenOf pd3 rfl) rfl (by show 2 * 0 + _ ≤ _; exact Nat.le_of_eq rfl) (hb hby at_129) (fun _ _ => ⟨rfl, e39, (Nat.le_of_ble_eq_true rfl), (Nat.le_of_ble_eq_true rfl)⟩)
    dsimp only [Pt.U, Pt.locs, Pt.cells, Pt.slots] at X40 l40 y40 z40 st40 hQ40
    subst l40 y40 z40
    obtain ⟨rfl, rfl, e40⟩ := hQ40
    try rw [List.append_nil] at X40
    refine OD.go (B := (T40.setTop (mkF m 132 #[.val (.int p0), .val (.int p1), .val (.int p2), .val (.int p3), .val (.int p4), .val (.int p5), .val (.int 2), .val (.ref b31), .val (.ref b35), .unset] [(.int 0), (.int ((((1 : Int32) <<< (((own_m2_0 sv0) (0 : Int32)) &&& 31)) ||| ((1 : Int32) <<< (((own_m2_0 sv0) (1 : Int32)) &&& 31))) ||| (0 : Int32)))]))) st40 ?_
    refine OD.go (B := (T40.setTop (mkF m 133 #[.val (.int p0), .val (.int p1), .val (.int p2), .val (.int p3), .val (.int p4), .val (.int p5), .val (.int 2), .val (.ref b31), .val (.ref b35), .unset] [(.int (((((1 : Int32) <<< (((own_m2_0 sv0) (0 : Int32)) &&& 31)) ||| ((1 : Int32) <<< (((own_m2_0 sv0) (1 : Int32)) &&& 31))) ||| (0 : Int32)) ||| (0 : Int32)))]))) (fun t k => XS.ior X40.here hx rfl (hb hby at_132) rfl k) ?_
    refine OD.go (B := (T40.setTop (mkF m 135 #[.val (.int p0), .val (.int p1), .val (.int p2), .val (.int p3), .val (.int p4), .val (.int p5), .val (.int 2), .val (.ref b31), .val (.ref b35), .unset] [(.ref b35), (.int (((((1 : Int32) <<< (((own_m2_0 sv0) (0 : Int32)) &&& 31)) ||| ((1 : Int32) <<< (((own_m2_0 sv0) (1 : Int32)) &&& 31))) ||| (0 : Int32)) ||| (0 : Int32)))]))) (fun t k => XS.aload X40.here hx rfl (hb hby at_133) rfl rfl k) ?_
    refine OD.go (B := (T40.setTop (mkF m 136 #[.val (.int p0), .val (.int p1), .val (.int p2), .val (.int p3), .val (.int p4), .val (.int p5), .val (.int 2), .val (.ref b31), .val (.ref b35), .unset] [(.int 4), (.ref b35), (.int (((((1 : Int32) <<< (((own_m2_0 sv0) (0 : Int32)) &&& 31)) ||| ((1 : Int32) <<< (((own_m2_0 sv0) (1 : Int32)) &&& 31))) ||| (0 : Int32)) ||| (0 : Int32)))]))) (fun t k => XS.iconst X40.here hx rfl (hb hby at_135) k) ?_
    refine OD.go (B := (T40.setTop (mkF m 138 #[.val (.int p0), .val (.int p1), .val (.int p2), .val (.int p3), .val (.int p4), .val (.int p5), .val (.int 2), .val (.ref b31), .val (.ref b35), .unset] [(.int 2), (.int 4), (.ref b35), (.int (((((1 : Int32) <<< (((own_m2_0 sv0) (0 : Int32)) &&& 31)) ||| ((1 : Int32) <<< (((own_m2_0 sv0) (1 : Int32)) &&& 31))) ||| (0 : Int32)) ||| (0 : Int32)))]))) (fun t k => XS.iload X40.here hx rfl (hb hby at_136) rfl k) ?_
    obtain ⟨_, _, ⟨T41, L41, k41, n41⟩, -, X41, ⟨Lc41, hQ41, l41, y41, z41⟩, st41⟩ := Jvm.LawKit.callS X40 hx (y := (⟨"com/example/topside/topside/DescendingOrderOfPinLaw", "bit", "([III)I"⟩ : MethodName)) hown (mvT hZ (Wd6 hw)) (mvT hZ (Wd7 hw)) (mvT hZ (Wd8 hw)) (mvT hZ (Wd9 hw)) (by decide) (backOf (W := 1) (rmB0 l Z a0 hw [] b35 (4 : Int32) (2 : Int32) T35.heap (by decide)) hZ (Wd9 hw) (Wd8 hw) (by decide) (by decide)) (g := (mkF m 138 #[.val (.int p0), .val (.int p1), .val (.int p2), .val (.int p3), .val (.int p4), .val (.int p5), .val (.int 2), .val (.ref b31), .val (.ref b35), .unset] [(.int 2), (.int 4), (.ref b35), (.int (((((1 : Int32) <<< (((own_m2_0 sv0) (0 : Int32)) &&& 31)) ||| ((1 : Int32) <<< (((own_m2_0 sv0) (1 : Int32)) &&& 31))) ||| (0 : Int32)) ||| (0 : Int32)))])) rfl (by rw [hml]; rfl) (argsL := [(.ref b35), (.int 4), (.int 2)]) (rest := [(.int (((((1 : Int32) <<< (((own_m2_0 sv0) (0 : Int32)) &&& 31)) ||| ((1 : Int32) <<< (((own_m2_0 sv0) (1 : Int32)) &&& 31))) ||| (0 : Int32)) ||| (0 : Int32)))]) (lenOf pd3 rfl) rfl (by show 2 * 0 + _ ≤ _; exact Nat.le_of_eq rfl) (hb hby at_138) (fun _ _ => ⟨rfl, e40, (Nat.le_of_ble_eq_true rfl), (Nat.le_of_ble_eq_true rfl)⟩)
    dsimp only [Pt.U, Pt.locs, Pt.cells, Pt.slots] at X41 l41 y41 z41 st41 hQ41
    subst l41 y41 z41
    obtain ⟨rfl, rfl, e41⟩ := hQ41
    try rw [List.append_nil] at X41
    refine OD.go (B := (T41.setTop (mkF m 141 #[.val (.int p0), .val (.int p1), .val (.int p2), .val (.int p3), .val (.int p4), .val (.int p5), .val (.int 2), .val (.ref b31), .val (.ref b35), .unset] [(.int 0), (.int (((((1 : Int32) <<< (((own_m2_0 sv0) (0 : Int32)) &&& 31)) ||| ((1 : Int32) <<< (((own_m2_0 sv0) (1 : Int32)) &&& 31))) ||| (0 : Int32)) ||| (0 : Int32)))]))) st41 ?_
    refine OD.go (B := (T41.setTop (mkF m 142 #[.val (.int p0), .val (.int p1), .val (.int p2), .val (.int p3), .val (.int p4), .val (.int p5), .val (.int 2), .val (.ref b31), .val (.ref b35), .unset] [(.int ((((((1 : Int32) <<< (((own_m2_0 sv0) (0 : Int32)) &&& 31)) ||| ((1 : Int32) <<< (((own_m2_0 sv0) (1 : Int32)) &&& 31))) ||| (0 : Int32)) ||| (0 : Int32)) ||| (0 : Int32)))]))) (fun t k => XS.ior X41.here hx rfl (hb hby at_141) rfl k) ?_
    refine OD.go (B := (T41.setTop (mkF m 144 #[.val (.int p0), .val (.int p1), .val (.int p2), .val (.int p3), .val (.int p4), .val (.int p5), .val (.int 2), .val (.ref b31), .val (.ref b35), .val (.int ((((((1 : Int32) <<< (((own_m2_0 sv0) (0 : Int32)) &&& 31)) ||| ((1 : Int32) <<< (((own_m2_0 sv0) (1 : Int32)) &&& 31))) ||| (0 : Int32)) ||| (0 : Int32)) ||| (0 : Int32)))] []))) (fun t k => XS.istore X41.here hx rfl (hb hby at_142) rfl (l' := #[.val (.int p0), .val (.int p1), .val (.int p2), .val (.int p3), .val (.int p4), .val (.int p5), .val (.int 2), .val (.ref b31), .val (.ref b35), .val (.int ((((((1 : Int32) <<< (((own_m2_0 sv0) (0 : Int32)) &&& 31)) ||| ((1 : Int32) <<< (((own_m2_0 sv0) (1 : Int32)) &&& 31))) ||| (0 : Int32)) ||| (0 : Int32)) ||| (0 : Int32)))]) rfl k) ?_
    generalize hu142_42 : ((((((1 : Int32) <<< (((own_m2_0 sv0) (0 : Int32)) &&& 31)) ||| ((1 : Int32) <<< (((own_m2_0 sv0) (1 : Int32)) &&& 31))) ||| (0 : Int32)) ||| (0 : Int32)) ||| (0 : Int32)) = u142_42
    refine OD.go (B := (T41.setTop (mkF m 146 #[.val (.int p0), .val (.int p1), .val (.int p2), .val (.int p3), .val (.int p4), .val (.int p5), .val (.int 2), .val (.ref b31), .val (.ref b35), .val (.int u142_42)] [(.int u142_42)]))) (fun t k => XS.iload X41.here hx rfl (hb hby at_144) rfl k) ?_
    refine OD.go (B := (T41.setTop (mkF m 147 #[.val (.int p0), .val (.int p1), .val (.int p2), .val (.int p3), .val (.int p4), .val (.int p5), .val (.int 2), .val (.ref b31), .val (.ref b35), .val (.int u142_42)] [(.int 1), (.int u142_42)]))) (fun t k => XS.iconst X41.here hx rfl (hb hby at_146) k) ?_
    refine OD.go (B := (T41.setTop (mkF m 149 #[.val (.int p0), .val (.int p1), .val (.int p2), .val (.int p3), .val (.int p4), .val (.int p5), .val (.int 2), .val (.ref b31), .val (.ref b35), .val (.int u142_42)] [(.int 2), (.int 1), (.int u142_42)]))) (fun t k => XS.iload X41.here hx rfl (hb hby at_147) rfl k) ?_
    refine OD.go (B := (T41.setTop (mkF m 150 #[.val (.int p0), .val (.int p1), .val (.int p2), .val (.int p3), .val (.int p4), .val (.int p5), .val (.int 2), .val (.ref b31), .val (.ref b35), .val (.int u142_42)] [(.int ((1 : Int32) <<< ((2 : Int32) &&& 31))), (.int u142_42)]))) (fun t k => XS.ishl X41.here hx rfl (hb hby at_149) rfl k) ?_
    refine OD.go (B := (T41.setTop (mkF m 151 #[.val (.int p0), .val (.int p1), .val (.int p2), .val (.int p3), .val (.int p4), .val (.int p5), .val (.int 2), .val (.ref b31), .val (.ref b35), .val (.int u142_42)] [(.int 1), (.int ((1 : Int32) <<< ((2 : Int32) &&& 31))), (.int u142_42)]))) (fun t k => XS.iconst X41.here hx rfl (hb hby at_150) k) ?_
    refine OD.go (B := (T41.setTop (mkF m 152 #[.val (.int p0), .val (.int p1), .val (.int p2), .val (.int p3), .val (.int p4), .val (.int p5), .val (.int 2), .val (.ref b31), .val (.ref b35), .val (.int u142_42)] [(.int (((1 : Int32) <<< ((2 : Int32) &&& 31)) - (1 : Int32))), (.int u142_42)]))) (fun t k => XS.isub X41.here hx rfl (hb hby at_151) rfl k) ?_
    refine OD.go (B := (T41.setTop (mkF m 157 #[.val (.int p0), .val (.int p1), .val (.int p2), .val (.int p3), .val (.int p4), .val (.int p5), .val (.int 2), .val (.ref b31), .val (.ref b35), .val (.int u142_42)] []))) (fun t k => XS.icmpYes X41.here hx rfl (pc0 := 152) (pc' := 157) rfl (hb hby at_152) rfl (teq (by rw [← hu142_42]; (try rw [hsv]); exact own_mask2 p1 p2 p3 p4 p5)).1 (by decide) (by decide) k) ?_
    refine OD.go (B := (T41.setTop (mkF m 159 #[.val (.int p0), .val (.int p1), .val (.int p2), .val (.int p3), .val (.int p4), .val (.int p5), .val (.int 2), .val (.ref b31), .val (.ref b35), .val (.int u142_42)] [(.ref b31)]))) (fun t k => XS.aload X41.here hx rfl (hb hby at_157) rfl rfl k) ?_
    refine OD.go (B := (T41.setTop (mkF m 161 #[.val (.int p0), .val (.int p1), .val (.int p2), .val (.int p3), .val (.int p4), .val (.int p5), .val (.int 2), .val (.ref b31), .val (.ref b35), .val (.int u142_42)] [(.ref b35), (.ref b31)]))) (fun t k => XS.aload X41.here hx rfl (hb hby at_159) rfl rfl k) ?_
    refine OD.go (B := (T41.setTop (mkF m 162 #[.val (.int p0), .val (.int p1), .val (.int p2), .val (.int p3), .val (.int p4), .val (.int p5), .val (.int 2), .val (.ref b31), .val (.ref b35), .val (.int u142_42)] [(.int 0), (.ref b35), (.ref b31)]))) (fun t k => XS.iconst X41.here hx rfl (hb hby at_161) k) ?_
    refine OD.go (B := (T41.setTop (mkF m 164 #[.val (.int p0), .val (.int p1), .val (.int p2), .val (.int p3), .val (.int p4), .val (.int p5), .val (.int 2), .val (.ref b31), .val (.ref b35), .val (.int u142_42)] [(.int 2), (.int 0), (.ref b35), (.ref b31)]))) (fun t k => XS.iload X41.here hx rfl (hb hby at_162) rfl k) ?_
    have f43 := (Vf34.keep K35 nin0)
    obtain ⟨_, _, ⟨T44, L44, k44, n44⟩, -, X44, ⟨Lc44, hQ44, l44, y44, z44⟩, st44⟩ := Jvm.LawKit.callS X41 hx (y := (⟨"com/example/topside/topside/DescendingOrderOfPinLaw", "pair", "([D[III)Z"⟩ : MethodName)) hown (mvT hZ (Wd10 hw)) (mvT hZ (Wd11 hw)) (mvT hZ (Wd8 hw)) (mvT hZ (Wd12 hw)) (by decide) (backOf (W := 0) (rmP1 l Z a0 hw [] b31 b35 (0 : Int32) (2 : Int32) T35.heap k35' k31 (own_m2_0 sv0) sv0 f43 A35 ⟨by decide, by decide⟩ ⟨by decide, by decide⟩ (own_m2_0_b sv0)) hZ (Wd12 hw) (Wd8 hw) (by decide) (by decide)) (g := (mkF m 164 #[.val (.int p0), .val (.int p1), .val (.int p2), .val (.int p3), .val (.int p4), .val (.int p5), .val (.int 2), .val (.ref b31), .val (.ref b35), .val (.int u142_42)] [(.int 2), (.int 0), (.ref b35), (.ref b31)])) rfl (by rw [hml]; rfl) (argsL := [(.ref b31), (.ref b35), (.int 0), (.int 2)]) (rest := []) (lenOf pd4 rfl) rfl (by show 2 * 0 + _ ≤ _; exact Nat.le_of_eq rfl) (hb hby at_164) (fun _ _ => ⟨rfl, e41, (Nat.le_of_ble_eq_true rfl), (Nat.le_of_ble_eq_true rfl)⟩)
    dsimp only [Pt.U, Pt.locs, Pt.cells, Pt.slots] at X44 l44 y44 z44 st44 hQ44
    subst l44 y44 z44
    obtain ⟨rfl, rfl, e44⟩ := hQ44
    try rw [List.append_nil] at X44
    refine OD.go (B := (T44.setTop (mkF m 167 #[.val (.int p0), .val (.int p1), .val (.int p2), .val (.int p3), .val (.int p4), .val (.int p5), .val (.int 2), .val (.ref b31), .val (.ref b35), .val (.int u142_42)] [(.int (own_pr sv0 ((own_m2_0 sv0) (0 : Int32)) ((own_m2_0 sv0) ((0 : Int32) + (1 : Int32)))))]))) st44 ?_
    refine OD.go (B := (T44.setTop (mkF m 170 #[.val (.int p0), .val (.int p1), .val (.int p2), .val (.int p3), .val (.int p4), .val (.int p5), .val (.int 2), .val (.ref b31), .val (.ref b35), .val (.int u142_42)] []))) (fun t k => XS.ifNo X44.here hx rfl (hb hby at_167) rfl (by rw [if0]; exact (feq (by rw [hsv, own_pair2_0]; decide)).1) k) ?_
    refine OD.go (B := (T44.setTop (mkF m 172 #[.val (.int p0), .val (.int p1), .val (.int p2), .val (.int p3), .val (.int p4), .val (.int p5), .val (.int 2), .val (.ref b31), .val (.ref b35), .val (.int u142_42)] [(.ref b31)]))) (fun t k => XS.aload X44.here hx rfl (hb hby at_170) rfl rfl k) ?_
    refine OD.go (B := (T44.setTop (mkF m 174 #[.val (.int p0), .val (.int p1), .val (.int p2), .val (.int p3), .val (.int p4), .val (.int p5), .val (.int 2), .val (.ref b31), .val (.ref b35), .val (.int u142_42)] [(.ref b35), (.ref b31)]))) (fun t k => XS.aload X44.here hx rfl (hb hby at_172) rfl rfl k) ?_
    refine OD.go (B := (T44.setTop (mkF m 175 #[.val (.int p0), .val (.int p1), .val (.int p2), .val (.int p3), .val (.int p4), .val (.int p5), .val (.int 2), .val (.ref b31), .val (.ref b35), .val (.int u142_42)] [(.int 1), (.ref b35), (.ref b31)]))) (fun t k => XS.iconst X44.here hx rfl (hb hby at_174) k) ?_
    refine OD.go (B := (T44.setTop (mkF m 177 #[.val (.int p0), .val (.int p1), .val (.int p2), .val (.int p3), .val (.int p4), .val (.int p5), .val (.int 2), .val (.ref b31), .val (.ref b35), .val (.int u142_42)] [(.int 2), (.int 1), (.ref b35), (.ref b31)]))) (fun t k => XS.iload X44.here hx rfl (hb hby at_175) rfl k) ?_
    obtain ⟨_, _, ⟨T45, L45, k45, n45⟩, -, X45, ⟨Lc45, hQ45, l45, y45, z45⟩, st45⟩ := Jvm.LawKit.callS X44 hx (y := (⟨"com/example/topside/topside/DescendingOrderOfPinLaw", "pair", "([D[III)Z"⟩ : MethodName)) hown (mvT hZ (Wd10 hw)) (mvT hZ (Wd11 hw)) (mvT hZ (Wd8 hw)) (mvT hZ (Wd12 hw)) (by decide) (backOf (W := 0) (rmP0 l Z a0 hw [] b31 b35 (1 : Int32) (2 : Int32) T35.heap (by decide)) hZ (Wd12 hw) (Wd8 hw) (by decide) (by decide)) (g := (mkF m 177 #[.val (.int p0), .val (.int p1), .val (.int p2), .val (.int p3), .val (.int p4), .val (.int p5), .val (.int 2), .val (.ref b31), .val (.ref b35), .val (.int u142_42)] [(.int 2), (.int 1), (.ref b35), (.ref b31)])) rfl (by rw [hml]; rfl) (argsL := [(.ref b31), (.ref b35), (.int 1), (.int 2)]) (rest := []) (lenOf pd4 rfl) rfl (by show 2 * 0 + _ ≤ _; exact Nat.le_of_eq rfl) (hb hby at_177) (fun _ _ => ⟨rfl, e44, (Nat.le_of_ble_eq_true rfl), (Nat.le_of_ble_eq_true rfl)⟩)
    dsimp only [Pt.U, Pt.locs, Pt.cells, Pt.slots] at X45 l45 y45 z45 st45 hQ45
    subst l45 y45 z45
    obtain ⟨rfl, rfl, e45⟩ := hQ45
    try rw [List.append_nil] at X45
    refine OD.go (B := (T45.setTop (mkF m 180 #[.val (.int p0), .val (.int p1), .val (.int p2), .val (.int p3), .val (.int p4), .val (.int p5), .val (.int 2), .val (.ref b31), .val (.ref b35), .val (.int u142_42)] [(.int 1)]))) st45 ?_
    refine OD.go (B := (T45.setTop (mkF m 183 #[.val (.int p0), .val (.int p1), .val (.int p2), .val (.int p3), .val (.int p4), .val (.int p5), .val (.int 2), .val (.ref b31), .val (.ref b35), .val (.int u142_42)] []))) (fun t k => XS.ifNo X45.here hx rfl (hb hby at_180) rfl (by rw [if0]; exact (feq (by decide : ¬ (1 : Int32) = (0 : Int32))).1) k) ?_
    refine OD.go (B := (T45.setTop (mkF m 185 #[.val (.int p0), .val (.int p1), .val (.int p2), .val (.int p3), .val (.int p4), .val (.int p5), .val (.int 2), .val (.ref b31), .val (.ref b35), .val (.int u142_42)] [(.ref b31)]))) (fun t k => XS.aload X45.here hx rfl (hb hby at_183) rfl rfl k) ?_
    refine OD.go (B := (T45.setTop (mkF m 187 #[.val (.int p0), .val (.int p1), .val (.int p2), .val (.int p3), .val (.int p4), .val (.int p5), .val (.int 2), .val (.ref b31), .val (.ref b35), .val (.int u142_42)] [(.ref b35), (.ref b31)]))) (fun t k => XS.aload X45.here hx rfl (hb hby at_185) rfl rfl k) ?_
    refine OD.go (B := (T45.setTop (mkF m 188 #[.val (.int p0), .val (.int p1), .val (.int p2), .val (.int p3), .val (.int p4), .val (.int p5), .val (.int 2), .val (.ref b31), .val (.ref b35), .val (.int u142_42)] [(.int 2), (.ref b35), (.ref b31)]))) (fun t k => XS.iconst X45.here hx rfl (hb hby at_187) k) ?_
    refine OD.go (B := (T45.setTop (mkF m 190 #[.val (.int p0), .val (.int p1), .val (.int p2), .val (.int p3), .val (.int p4), .val (.int p5), .val (.int 2), .val (.ref b31), .val (.ref b35), .val (.int u142_42)] [(.int 2), (.int 2), (.ref b35), (.ref b31)]))) (fun t k => XS.iload X45.here hx rfl (hb hby at_188) rfl k) ?_
    obtain ⟨_, _, ⟨T46, L46, k46, n46⟩, -, X46, ⟨Lc46, hQ46, l46, y46, z46⟩, st46⟩ := Jvm.LawKit.callS X45 hx (y := (⟨"com/example/topside/topside/DescendingOrderOfPinLaw", "pair", "([D[III)Z"⟩ : MethodName)) hown (mvT hZ (Wd10 hw)) (mvT hZ (Wd11 hw)) (mvT hZ (Wd8 hw)) (mvT hZ (Wd12 hw)) (by decide) (backOf (W := 0) (rmP0 l Z a0 hw [] b31 b35 (2 : Int32) (2 : Int32) T35.heap (by decide)) hZ (Wd12 hw) (Wd8 hw) (by decide) (by decide)) (g := (mkF m 190 #[.val (.int p0), .val (.int p1), .val (.int p2), .val (.int p3), .val (.int p4), .val (.int p5), .val (.int 2), .val (.ref b31), .val (.ref b35), .val (.int u142_42)] [(.int 2), (.int 2), (.ref b35), (.ref b31)])) rfl (by rw [hml]; rfl) (argsL := [(.ref b31), (.ref b35), (.int 2), (.int 2)]) (rest := []) (lenOf pd4 rfl) rfl (by show 2 * 0 + _ ≤ _; exact Nat.le_of_eq rfl) (hb hby at_190) (fun _ _ => ⟨rfl, e45, (Nat.le_of_ble_eq_true rfl), (Nat.le_of_ble_eq_true rfl)⟩)
    dsimp only [Pt.U, Pt.locs, Pt.cells, Pt.slots] at X46 l46 y46 z46 st46 hQ46
    subst l46 y46 z46
    obtain ⟨rfl, rfl, e46⟩ := hQ46
    try rw [List.append_nil] at X46
    refine OD.go (B := (T46.setTop (mkF m 193 #[.val (.int p0), .val (.int p1), .val (.int p2), .val (.int p3), .val (.int p4), .val (.int p5), .val (.int 2), .val (.ref b31), .val (.ref b35), .val (.int u142_42)] [(.int 1)]))) st46 ?_
    refine OD.go (B := (T46.setTop (mkF m 196 #[.val (.int p0), .val (.int p1), .val (.int p2), .val (.int p3), .val (.int p4), .val (.int p5), .val (.int 2), .val (.ref b31), .val (.ref b35), .val (.int u142_42)] []))) (fun t k => XS.ifNo X46.here hx rfl (hb hby at_193) rfl (by rw [if0]; exact (feq (by decide : ¬ (1 : Int32) = (0 : Int32))).1) k) ?_
    refine OD.go (B := (T46.setTop (mkF m 198 #[.val (.int p0), .val (.int p1), .val (.int p2), .val (.int p3), .val (.int p4), .val (.int p5), .val (.int 2), .val (.ref b31), .val (.ref b35), .val (.int u142_42)] [(.ref b31)]))) (fun t k => XS.aload X46.here hx rfl (hb hby at_196) rfl rfl k) ?_
    refine OD.go (B := (T46.setTop (mkF m 200 #[.val (.int p0), .val (.int p1), .val (.int p2), .val (.int p3), .val (.int p4), .val (.int p5), .val (.int 2), .val (.ref b31), .val (.ref b35), .val (.int u142_42)] [(.ref b35), (.ref b31)]))) (fun t k => XS.aload X46.here hx rfl (hb hby at_198) rfl rfl k) ?_
    refine OD.go (B := (T46.setTop (mkF m 201 #[.val (.int p0), .val (.int p1), .val (.int p2), .val (.int p3), .val (.int p4), .val (.int p5), .val (.int 2), .val (.ref b31), .val (.ref b35), .val (.int u142_42)] [(.int 3), (.ref b35), (.ref b31)]))) (fun t k => XS.iconst X46.here hx rfl (hb hby at_200) k) ?_
    refine OD.go (B := (T46.setTop (mkF m 203 #[.val (.int p0), .val (.int p1), .val (.int p2), .val (.int p3), .val (.int p4), .val (.int p5), .val (.int 2), .val (.ref b31), .val (.ref b35), .val (.int u142_42)] [(.int 2), (.int 3), (.ref b35), (.ref b31)]))) (fun t k => XS.iload X46.here hx rfl (hb hby at_201) rfl k) ?_
    obtain ⟨_, _, ⟨T47, L47, k47, n47⟩, -, X47, ⟨Lc47, hQ47, l47, y47, z47⟩, st47⟩ := Jvm.LawKit.callS X46 hx (y := (⟨"com/example/topside/topside/DescendingOrderOfPinLaw", "pair", "([D[III)Z"⟩ : MethodName)) hown (mvT hZ (Wd10 hw)) (mvT hZ (Wd11 hw)) (mvT hZ (Wd8 hw)) (mvT hZ (Wd12 hw)) (by decide) (backOf (W := 0) (rmP0 l Z a0 hw [] b31 b35 (3 : Int32) (2 : Int32) T35.heap (by decide)) hZ (Wd12 hw) (Wd8 hw) (by decide) (by decide)) (g := (mkF m 203 #[.val (.int p0), .val (.int p1), .val (.int p2), .val (.int p3), .val (.int p4), .val (.int p5), .val (.int 2), .val (.ref b31), .val (.ref b35), .val (.int u142_42)] [(.int 2), (.int 3), (.ref b35), (.ref b31)])) rfl (by rw [hml]; rfl) (argsL := [(.ref b31), (.ref b35), (.int 3), (.int 2)]) (rest := []) (lenOf pd4 rfl) rfl (by show 2 * 0 + _ ≤ _; exact Nat.le_of_eq rfl) (hb hby at_203) (fun _ _ => ⟨rfl, e46, (Nat.le_of_ble_eq_true rfl), (Nat.le_of_ble_eq_true rfl)⟩)
    dsimp only [Pt.U, Pt.locs, Pt.cells, Pt.slots] at X47 l47 y47 z47 st47 hQ47
    subst l47 y47 z47
    obtain ⟨rfl, rfl, e47⟩ := hQ47
    try rw [List.append_nil] at X47
    refine OD.go (B := (T47.setTop (mkF m 206 #[.val (.int p0), .val (.int p1), .val (.int p2), .val (.int p3), .val (.int p4), .val (.int p5), .val (.int 2), .val (.ref b31), .val (.ref b35), .val (.int u142_42)] [(.int 1)]))) st47 ?_
    refine OD.go (B := (T47.setTop (mkF m 209 #[.val (.int p0), .val (.int p1), .val (.int p2), .val (.int p3), .val (.int p4), .val (.int p5), .val (.int 2), .val (.ref b31), .val (.ref b35), .val (.int u142_42)] []))) (fun t k => XS.ifNo X47.here hx rfl (hb hby at_206) rfl (by rw [if0]; exact (feq (by decide : ¬ (1 : Int32) = (0 : Int32))).1) k) ?_
    refine OD.go (B := (T47.setTop (mkF m 210 #[.val (.int p0), .val (.int p1), .val (.int p2), .val (.int p3), .val (.int p4), .val (.int p5), .val (.int 2), .val (.ref b31), .val (.ref b35), .val (.int u142_42)] [(.int 1)]))) (fun t k => XS.iconst X47.here hx rfl (hb hby at_209) k) ?_
    refine OD.go (B := (T47.setTop (mkF m 214 #[.val (.int p0), .val (.int p1), .val (.int p2), .val (.int p3), .val (.int p4), .val (.int p5), .val (.int 2), .val (.ref b31), .val (.ref b35), .val (.int u142_42)] [(.int 1)]))) (fun t k => XS.goto X47.here hx rfl (pc0 := 210) (pc' := 214) rfl (hb hby at_210) (by decide) (by decide) k) ?_
    exact OD.ret X47 hx hlk (t := .boolean) Bd.returns rfl (Or.inl ⟨rfl, Or.inr (Or.inl rfl), _, rfl⟩) (hb hby at_214) (Nat.le_of_ble_eq_true rfl) (Nat.le_of_ble_eq_true rfl) ⟨rfl, N35⟩
  · subst q6
    refine OD.go (B := (s₁.setTop (mkF m 11 #[.val (.int p0), .val (.int p1), .val (.int p2), .val (.int p3), .val (.int p4), .val (.int p5), .val (.int 3), .unset, .unset, .unset] [(.int 3)]))) (fun t k => XS.iload X0.here hx rfl (hb hby at_9) rfl k) ?_
    obtain ⟨T48, h48, k48, X48, e48, E48, A48, st48⟩ := newP X0 hx hZ (aty := .double) (Wd0 hw) e0 (g := (mkF m 11 #[.val (.int p0), .val (.int p1), .val (.int p2), .val (.int p3), .val (.int p4), .val (.int p5), .val (.int 3), .unset, .unset, .unset] [(.int 3)])) rfl (hb hby at_11) rfl (by decide) (cap := 3) (by decide) (by decide) (Nat.le_of_ble_eq_true rfl) (Nat.le_of_ble_eq_true rfl)
    obtain ⟨b48, g48⟩ : ∃ z, z = h0.size := ⟨_, rfl⟩
    rw [← g48] at A48 st48
    have V48 : Arv Z h48 b48 k48 .double (3 : Int32) [(.double (0 : UInt64)), (.double (0 : UInt64)), (.double (0 : UInt64))] (.double (0 : UInt64)) := (Arv.new A48 (by decide)).pad (pad_rep [] (.double (0 : UInt64)) 3)
    refine OD.go (B := (T48.setTop (mkF m 13 #[.val (.int p0), .val (.int p1), .val (.int p2), .val (.int p3), .val (.int p4), .val (.int p5), .val (.int 3), .unset, .unset, .unset] [(.ref b48)]))) st48 ?_
    refine OD.go (B := (T48.setTop (mkF m 15 #[.val (.int p0), .val (.int p1), .val (.int p2), .val (.int p3), .val (.int p4), .val (.int p5), .val (.int 3), .val (.ref b48), .unset, .unset] []))) (fun t k => XS.astore X48.here hx rfl (hb hby at_13) rfl rfl (l' := #[.val (.int p0), .val (.int p1), .val (.int p2), .val (.int p3), .val (.int p4), .val (.int p5), .val (.int 3), .val (.ref b48), .unset, .unset]) rfl k) ?_
    refine OD.go (B := (T48.setTop (mkF m 17 #[.val (.int p0), .val (.int p1), .val (.int p2), .val (.int p3), .val (.int p4), .val (.int p5), .val (.int 3), .val (.ref b48), .unset, .unset] [(.int 3)]))) (fun t k => XS.iload X48.here hx rfl (hb hby at_15) rfl k) ?_
    refine OD.go (B := (T48.setTop (mkF m 20 #[.val (.int p0), .val (.int p1), .val (.int p2), .val (.int p3), .val (.int p4), .val (.int p5), .val (.int 3), .val (.ref b48), .unset, .unset] []))) (fun t k => XS.ifNo X48.here hx rfl (hb hby at_17) rfl (by rw [if0]; exact (tlt (by decide : (0 : Int32) < (3 : Int32))).2.2.2) k) ?_
    refine OD.go (B := (T48.setTop (mkF m 22 #[.val (.int p0), .val (.int p1), .val (.int p2), .val (.int p3), .val (.int p4), .val (.int p5), .val (.int 3), .val (.ref b48), .unset, .unset] [(.ref b48)]))) (fun t k => XS.aload X48.here hx rfl (hb hby at_20) rfl rfl k) ?_
    refine OD.go (B := (T48.setTop (mkF m 23 #[.val (.int p0), .val (.int p1), .val (.int p2), .val (.int p3), .val (.int p4), .val (.int p5), .val (.int 3), .val (.ref b48), .unset, .unset] [(.int 0), (.ref b48)]))) (fun t k => XS.iconst X48.here hx rfl (hb hby at_22) k) ?_
    refine OD.go (B := (T48.setTop (mkF m 24 #[.val (.int p0), .val (.int p1), .val (.int p2), .val (.int p3), .val (.int p4), .val (.int p5), .val (.int 3), .val (.ref b48), .unset, .unset] [(.int p1), (.int 0), (.ref b48)]))) (fun t k => XS.iloadN X48.here hx rfl (hb hby at_23) rfl k) ?_
    refine OD.go (B := (T48.setTop (mkF m 25 #[.val (.int p0), .val (.int p1), .val (.int p2), .val (.int p3), .val (.int p4), .val (.int p5), .val (.int 3), .val (.ref b48), .unset, .unset] [(.double (FP.i2d p1)), (.int 0), (.ref b48)]))) (fun t k => XS.i2dS X48.here hx rfl (hb hby at_24) rfl (v := (FP.i2d p1)) rfl k) ?_
    obtain ⟨cl49, Ar49, q49, S49, M49, H49, G49⟩ := id V48
    obtain ⟨T49, h49, X49, e49, W49, st49⟩ := stD X48 hx hZ e48 Ar49 (j := (0 : Int32)) (inb_of S49 ⟨by decide, by decide⟩) (g := (mkF m 25 #[.val (.int p0), .val (.int p1), .val (.int p2), .val (.int p3), .val (.int p4), .val (.int p5), .val (.int 3), .val (.ref b48), .unset, .unset] [(.double (FP.i2d p1)), (.int 0), (.ref b48)])) rfl rfl (hb hby at_25)
    have V49 : Arv Z h49 b48 k48 .double (3 : Int32) [(.double (FP.i2d p1)), (.double (0 : UInt64)), (.double (0 : UInt64))] (.double (0 : UInt64)) := Arv.set Ar49 q49 S49 M49 H49 G49 rfl W49 0 rfl (Nat.le_of_ble_eq_true rfl)
    have N49 := Fr.snoc X49 N0 (Nat.le_trans (Nat.le_refl _) (Nat.le_of_eq g48.symm))
    refine OD.go (B := (T49.setTop (mkF m 26 #[.val (.int p0), .val (.int p1), .val (.int p2), .val (.int p3), .val (.int p4), .val (.int p5), .val (.int 3), .val (.ref b48), .unset, .unset] []))) st49 ?_
    refine OD.go (B := (T49.setTop (mkF m 28 #[.val (.int p0), .val (.int p1), .val (.int p2), .val (.int p3), .val (.int p4), .val (.int p5), .val (.int 3), .val (.ref b48), .unset, .unset] [(.int 3)]))) (fun t k => XS.iload X49.here hx rfl (hb hby at_26) rfl k) ?_
    refine OD.go (B := (T49.setTop (mkF m 29 #[.val (.int p0), .val (.int p1), .val (.int p2), .val (.int p3), .val (.int p4), .val (.int p5), .val (.int 3), .val (.ref b48), .unset, .unset] [(.int 1), (.int 3)]))) (fun t k => XS.iconst X49.here hx rfl (hb hby at_28) k) ?_
    refine OD.go (B := (T49.setTop (mkF m 32 #[.val (.int p0), .val (.int p1), .val (.int p2), .val (.int p3), .val (.int p4), .val (.int p5), .val (.int 3), .val (.ref b48), .unset, .unset] []))) (fun t k => XS.icmpNo X49.here hx rfl (hb hby at_29) rfl (tlt (by decide : (1 : Int32) < (3 : Int32))).2.2.2 k) ?_
    refine OD.go (B := (T49.setTop (mkF m 34 #[.val (.int p0), .val (.int p1), .val (.int p2), .val (.int p3), .val (.int p4), .val (.int p5), .val (.int 3), .val (.ref b48), .unset, .unset] [(.ref b48)]))) (fun t k => XS.aload X49.here hx rfl (hb hby at_32) rfl rfl k) ?_
    refine OD.go (B := (T49.setTop (mkF m 35 #[.val (.int p0), .val (.int p1), .val (.int p2), .val (.int p3), .val (.int p4), .val (.int p5), .val (.int 3), .val (.ref b48), .unset, .unset] [(.int 1), (.ref b48)]))) (fun t k => XS.iconst X49.here hx rfl (hb hby at_34) k) ?_
    refine OD.go (B := (T49.setTop (mkF m 36 #[.val (.int p0), .val (.int p1), .val (.int p2), .val (.int p3), .val (.int p4), .val (.int p5), .val (.int 3), .val (.ref b48), .unset, .unset] [(.int p2), (.int 1), (.ref b48)]))) (fun t k => XS.iloadN X49.here hx rfl (hb hby at_35) rfl k) ?_
    refine OD.go (B := (T49.setTop (mkF m 37 #[.val (.int p0), .val (.int p1), .val (.int p2), .val (.int p3), .val (.int p4), .val (.int p5), .val (.int 3), .val (.ref b48), .unset, .unset] [(.double (FP.i2d p2)), (.int 1), (.ref b48)]))) (fun t k => XS.i2dS X49.here hx rfl (hb hby at_36) rfl (v := (FP.i2d p2)) rfl k) ?_
    obtain ⟨cl50, Ar50, q50, S50, M50, H50, G50⟩ := id V49
    obtain ⟨T50, h50, X50, e50, W50, st50⟩ := stD X49 hx hZ e49 Ar50 (j := (1 : Int32)) (inb_of S50 ⟨by decide, by decide⟩) (g := (mkF m 37 #[.val (.int p0), .val (.int p1), .val (.int p2), .val (.int p3), .val (.int p4), .val (.int p5), .val (.int 3), .val (.ref b48), .unset, .unset] [(.double (FP.i2d p2)), (.int 1), (.ref b48)])) rfl rfl (hb hby at_37)
    have V50 : Arv Z h50 b48 k48 .double (3 : Int32) [(.double (FP.i2d p1)), (.double (FP.i2d p2)), (.double (0 : UInt64))] (.double (0 : UInt64)) := Arv.set Ar50 q50 S50 M50 H50 G50 rfl W50 1 rfl (Nat.le_of_ble_eq_true rfl)
    have N50 := Fr.snoc X50 N49 (Nat.le_trans (Nat.le_refl _) (Nat.le_of_eq g48.symm))
    refine OD.go (B := (T50.setTop (mkF m 38 #[.val (.int p0), .val (.int p1), .val (.int p2), .val (.int p3), .val (.int p4), .val (.int p5), .val (.int 3), .val (.ref b48), .unset, .unset] []))) st50 ?_
    refine OD.go (B := (T50.setTop (mkF m 40 #[.val (.int p0), .val (.int p1), .val (.int p2), .val (.int p3), .val (.int p4), .val (.int p5), .val (.int 3), .val (.ref b48), .unset, .unset] [(.int 3)]))) (fun t k => XS.iload X50.here hx rfl (hb hby at_38) rfl k) ?_
    refine OD.go (B := (T50.setTop (mkF m 41 #[.val (.int p0), .val (.int p1), .val (.int p2), .val (.int p3), .val (.int p4), .val (.int p5), .val (.int 3), .val (.ref b48), .unset, .unset] [(.int 2), (.int 3)]))) (fun t k => XS.iconst X50.here hx rfl (hb hby at_40) k) ?_
    refine OD.go (B := (T50.setTop (mkF m 44 #[.val (.int p0), .val (.int p1), .val (.int p2), .val (.int p3), .val (.int p4), .val (.int p5), .val (.int 3), .val (.ref b48), .unset, .unset] []))) (fun t k => XS.icmpNo X50.here hx rfl (hb hby at_41) rfl (tlt (by decide : (2 : Int32) < (3 : Int32))).2.2.2 k) ?_
    refine OD.go (B := (T50.setTop (mkF m 46 #[.val (.int p0), .val (.int p1), .val (.int p2), .val (.int p3), .val (.int p4), .val (.int p5), .val (.int 3), .val (.ref b48), .unset, .unset] [(.ref b48)]))) (fun t k => XS.aload X50.here hx rfl (hb hby at_44) rfl rfl k) ?_
    refine OD.go (B := (T50.setTop (mkF m 47 #[.val (.int p0), .val (.int p1), .val (.int p2), .val (.int p3), .val (.int p4), .val (.int p5), .val (.int 3), .val (.ref b48), .unset, .unset] [(.int 2), (.ref b48)]))) (fun t k => XS.iconst X50.here hx rfl (hb hby at_46) k) ?_
    refine OD.go (B := (T50.setTop (mkF m 48 #[.val (.int p0), .val (.int p1), .val (.int p2), .val (.int p3), .val (.int p4), .val (.int p5), .val (.int 3), .val (.ref b48), .unset, .unset] [(.int p3), (.int 2), (.ref b48)]))) (fun t k => XS.iloadN X50.here hx rfl (hb hby at_47) rfl k) ?_
    refine OD.go (B := (T50.setTop (mkF m 49 #[.val (.int p0), .val (.int p1), .val (.int p2), .val (.int p3), .val (.int p4), .val (.int p5), .val (.int 3), .val (.ref b48), .unset, .unset] [(.double (FP.i2d p3)), (.int 2), (.ref b48)]))) (fun t k => XS.i2dS X50.here hx rfl (hb hby at_48) rfl (v := (FP.i2d p3)) rfl k) ?_
    obtain ⟨cl51, Ar51, q51, S51, M51, H51, G51⟩ := id V50
    obtain ⟨T51, h51, X51, e51, W51, st51⟩ := stD X50 hx hZ e50 Ar51 (j := (2 : Int32)) (inb_of S51 ⟨by decide, by decide⟩) (g := (mkF m 49 #[.val (.int p0), .val (.int p1), .val (.int p2), .val (.int p3), .val (.int p4), .val (.int p5), .val (.int 3), .val (.ref b48), .unset, .unset] [(.double (FP.i2d p3)), (.int 2), (.ref b48)])) rfl rfl (hb hby at_49)
    have V51 : Arv Z h51 b48 k48 .double (3 : Int32) [(.double (FP.i2d p1)), (.double (FP.i2d p2)), (.double (FP.i2d p3))] (.double (0 : UInt64)) := Arv.set Ar51 q51 S51 M51 H51 G51 rfl W51 2 rfl (Nat.le_of_ble_eq_true rfl)
    have N51 := Fr.snoc X51 N50 (Nat.le_trans (Nat.le_refl _) (Nat.le_of_eq g48.symm))
    refine OD.go (B := (T51.setTop (mkF m 50 #[.val (.int p0), .val (.int p1), .val (.int p2), .val (.int p3), .val (.int p4), .val (.int p5), .val (.int 3), .val (.ref b48), .unset, .unset] []))) st51 ?_
    refine OD.go (B := (T51.setTop (mkF m 52 #[.val (.int p0), .val (.int p1), .val (.int p2), .val (.int p3), .val (.int p4), .val (.int p5), .val (.int 3), .val (.ref b48), .unset, .unset] [(.int 3)]))) (fun t k => XS.iload X51.here hx rfl (hb hby at_50) rfl k) ?_
    refine OD.go (B := (T51.setTop (mkF m 53 #[.val (.int p0), .val (.int p1), .val (.int p2), .val (.int p3), .val (.int p4), .val (.int p5), .val (.int 3), .val (.ref b48), .unset, .unset] [(.int 3), (.int 3)]))) (fun t k => XS.iconst X51.here hx rfl (hb hby at_52) k) ?_
    refine OD.go (B := (T51.setTop (mkF m 63 #[.val (.int p0), .val (.int p1), .val (.int p2), .val (.int p3), .val (.int p4), .val (.int p5), .val (.int 3), .val (.ref b48), .unset, .unset] []))) (fun t k => XS.icmpYes X51.here hx rfl (pc0 := 53) (pc' := 63) rfl (hb hby at_53) rfl (flt (by decide : ¬ (3 : Int32) < (3 : Int32))).2.2.2 (by decide) (by decide) k) ?_
    refine OD.go (B := (T51.setTop (mkF m 65 #[.val (.int p0), .val (.int p1), .val (.int p2), .val (.int p3), .val (.int p4), .val (.int p5), .val (.int 3), .val (.ref b48), .unset, .unset] [(.int 3)]))) (fun t k => XS.iload X51.here hx rfl (hb hby at_63) rfl k) ?_
    refine OD.go (B := (T51.setTop (mkF m 66 #[.val (.int p0), .val (.int p1), .val (.int p2), .val (.int p3), .val (.int p4), .val (.int p5), .val (.int 3), .val (.ref b48), .unset, .unset] [(.int 4), (.int 3)]))) (fun t k => XS.iconst X51.here hx rfl (hb hby at_65) k) ?_
    refine OD.go (B := (T51.setTop (mkF m 76 #[.val (.int p0), .val (.int p1), .val (.int p2), .val (.int p3), .val (.int p4), .val (.int p5), .val (.int 3), .val (.ref b48), .unset, .unset] []))) (fun t k => XS.icmpYes X51.here hx rfl (pc0 := 66) (pc' := 76) rfl (hb hby at_66) rfl (flt (by decide : ¬ (4 : Int32) < (3 : Int32))).2.2.2 (by decide) (by decide) k) ?_
    refine OD.go (B := (T51.setTop (mkF m 78 #[.val (.int p0), .val (.int p1), .val (.int p2), .val (.int p3), .val (.int p4), .val (.int p5), .val (.int 3), .val (.ref b48), .unset, .unset] [(.ref b48)]))) (fun t k => XS.aload X51.here hx rfl (hb hby at_76) rfl rfl k) ?_
    have Vf52 : Arv Z h51 b48 k48 .double (3 : Int32) (own_rg (3 : Int32).toNatClampNeg (fun x => .double (sv0 x))) (.double 0) := by rw [hsv]; exact V51
    obtain ⟨_, _, ⟨T53, L53, k53, n53⟩, -, X53, ⟨Lc53, hQ53, l53, y53, z53⟩, st53⟩ := Jvm.LawKit.callS X51 hx (y := (⟨"com/example/topside/topside/DescendingOrder", "of", "([D)[I"⟩ : MethodName)) hown (mvT hZ (Wd1 hw)) (mvT hZ (Wd2 hw)) (mvT hZ (Wd3 hw)) (mvT hZ (Wd4 hw)) (by decide) (backOf (W := 0) (rmO3 l Z a0 hw [] b48 h51 h0.size (Nat.le_trans (Nat.le_trans (Nat.le_trans (Nat.le_trans (Nat.le_refl _) E48.1) (Keep.of_wr W49).1) (Keep.of_wr W50).1) (Keep.of_wr W51).1) k48 sv0 Vf52) hZ (Wd4 hw) (Wd3 hw) (by decide) (by decide)) (g := (mkF m 78 #[.val (.int p0), .val (.int p1), .val (.int p2), .val (.int p3), .val (.int p4), .val (.int p5), .val (.int 3), .val (.ref b48), .unset, .unset] [(.ref b48)])) rfl (by rw [hml]; rfl) (argsL := [(.ref b48)]) (rest := []) (lenOf pd2 rfl) rfl (by show 2 * 0 + _ ≤ _; exact Nat.le_of_eq rfl) (hb hby at_78) (fun _ _ => ⟨rfl, e51, (Nat.le_of_ble_eq_true rfl), (Nat.le_of_ble_eq_true rfl)⟩)
    dsimp only [Pt.U, Pt.locs, Pt.cells, Pt.slots] at X53 l53 y53 z53 st53 hQ53
    subst l53 y53 z53
    obtain ⟨b53, k53', rfl, Nq53, K53, ob53, A53⟩ := hQ53
    have N53 := Fr.app N51 Nq53
    refine OD.go (B := (T53.setTop (mkF m 81 #[.val (.int p0), .val (.int p1), .val (.int p2), .val (.int p3), .val (.int p4), .val (.int p5), .val (.int 3), .val (.ref b48), .unset, .unset] [(.ref b53)]))) st53 ?_
    refine OD.go (B := (T53.setTop (mkF m 83 #[.val (.int p0), .val (.int p1), .val (.int p2), .val (.int p3), .val (.int p4), .val (.int p5), .val (.int 3), .val (.ref b48), .val (.ref b53), .unset] []))) (fun t k => XS.astore X53.here hx rfl (hb hby at_81) rfl rfl (l' := #[.val (.int p0), .val (.int p1), .val (.int p2), .val (.int p3), .val (.int p4), .val (.int p5), .val (.int 3), .val (.ref b48), .val (.ref b53), .unset]) rfl k) ?_
    refine OD.go (B := (T53.setTop (mkF m 85 #[.val (.int p0), .val (.int p1), .val (.int p2), .val (.int p3), .val (.int p4), .val (.int p5), .val (.int 3), .val (.ref b48), .val (.ref b53), .unset] [(.ref b53)]))) (fun t k => XS.aload X53.here hx rfl (hb hby at_83) rfl rfl k) ?_
    refine OD.go (B := (T53.setTop (mkF m 88 #[.val (.int p0), .val (.int p1), .val (.int p2), .val (.int p3), .val (.int p4), .val (.int p5), .val (.int 3), .val (.ref b48), .val (.ref b53), .unset] []))) (fun t k => XS.ifnullNo X53.here hx rfl (hb hby at_85) rfl k) ?_
    refine OD.go (B := (T53.setTop (mkF m 90 #[.val (.int p0), .val (.int p1), .val (.int p2), .val (.int p3), .val (.int p4), .val (.int p5), .val (.int 3), .val (.ref b48), .val (.ref b53), .unset] [(.ref b53)]))) (fun t k => XS.aload X53.here hx rfl (hb hby at_88) rfl rfl k) ?_
    obtain ⟨cl54, Ar54, hl54⟩ := own_len A53
    refine OD.go (B := (T53.setTop (mkF m 91 #[.val (.int p0), .val (.int p1), .val (.int p2), .val (.int p3), .val (.int p4), .val (.int p5), .val (.int 3), .val (.ref b48), .val (.ref b53), .unset] [(.int 3)]))) (fun t k => X53.arraylength hx (by exact Ar54.1) (State.isArrayOf_alike hZ.alike Ar54.2.1) (g := (mkF m 90 #[.val (.int p0), .val (.int p1), .val (.int p2), .val (.int p3), .val (.int p4), .val (.int p5), .val (.int 3), .val (.ref b48), .val (.ref b53), .unset] [(.ref b53)])) rfl rfl (hb hby at_90) _ (by rw [hl54]; exact k)) ?_
    refine OD.go (B := (T53.setTop (mkF m 93 #[.val (.int p0), .val (.int p1), .val (.int p2), .val (.int p3), .val (.int p4), .val (.int p5), .val (.int 3), .val (.ref b48), .val (.ref b53), .unset] [(.int 3), (.int 3)]))) (fun t k => XS.iload X53.here hx rfl (hb hby at_91) rfl k) ?_
    refine OD.go (B := (T53.setTop (mkF m 98 #[.val (.int p0), .val (.int p1), .val (.int p2), .val (.int p3), .val (.int p4), .val (.int p5), .val (.int 3), .val (.ref b48), .val (.ref b53), .unset] []))) (fun t k => XS.icmpYes X53.here hx rfl (pc0 := 93) (pc' := 98) rfl (hb hby at_93) rfl (teq (by decide : (3 : Int32) = (3 : Int32))).1 (by decide) (by decide) k) ?_
    refine OD.go (B := (T53.setTop (mkF m 100 #[.val (.int p0), .val (.int p1), .val (.int p2), .val (.int p3), .val (.int p4), .val (.int p5), .val (.int 3), .val (.ref b48), .val (.ref b53), .unset] [(.ref b53)]))) (fun t k => XS.aload X53.here hx rfl (hb hby at_98) rfl rfl k) ?_
    refine OD.go (B := (T53.setTop (mkF m 101 #[.val (.int p0), .val (.int p1), .val (.int p2), .val (.int p3), .val (.int p4), .val (.int p5), .val (.int 3), .val (.ref b48), .val (.ref b53), .unset] [(.int 0), (.ref b53)]))) (fun t k => XS.iconst X53.here hx rfl (hb hby at_100) k) ?_
    refine OD.go (B := (T53.setTop (mkF m 103 #[.val (.int p0), .val (.int p1), .val (.int p2), .val (.int p3), .val (.int p4), .val (.int p5), .val (.int 3), .val (.ref b48), .val (.ref b53), .unset] [(.int 3), (.int 0), (.ref b53)]))) (fun t k => XS.iload X53.here hx rfl (hb hby at_101) rfl k) ?_
    obtain ⟨_, _, ⟨T55, L55, k55, n55⟩, -, X55, ⟨Lc55, hQ55, l55, y55, z55⟩, st55⟩ := Jvm.LawKit.callS X53 hx (y := (⟨"com/example/topside/topside/DescendingOrderOfPinLaw", "bit", "([III)I"⟩ : MethodName)) hown (mvT hZ (Wd6 hw)) (mvT hZ (Wd7 hw)) (mvT hZ (Wd8 hw)) (mvT hZ (Wd9 hw)) (by decide) (backOf (W := 0) (rmB1 l Z a0 hw [] b53 (0 : Int32) (3 : Int32) T53.heap k53' (own_m3_2 sv0) A53 ⟨by decide, by decide⟩ (own_m3_2_b sv0)) hZ (Wd9 hw) (Wd8 hw) (by decide) (by decide)) (g := (mkF m 103 #[.val (.int p0), .val (.int p1), .val (.int p2), .val (.int p3), .val (.int p4), .val (.int p5), .val (.int 3), .val (.ref b48), .val (.ref b53), .unset] [(.int 3), (.int 0), (.ref b53)])) rfl (by rw [hml]; rfl) (argsL := [(.ref b53), (.int 0), (.int 3)]) (rest := []) (lenOf pd3 rfl) rfl (by show 2 * 0 + _ ≤ _; exact Nat.le_of_eq rfl) (hb hby at_103) (fun _ _ => ⟨rfl, rfl, (Nat.le_of_ble_eq_true rfl), (Nat.le_of_ble_eq_true rfl)⟩)
    dsimp only [Pt.U, Pt.locs, Pt.cells, Pt.slots] at X55 l55 y55 z55 st55 hQ55
    subst l55 y55 z55
    obtain ⟨rfl, rfl, e55⟩ := hQ55
    try rw [List.append_nil] at X55
    refine OD.go (B := (T55.setTop (mkF m 106 #[.val (.int p0), .val (.int p1), .val (.int p2), .val (.int p3), .val (.int p4), .val (.int p5), .val (.int 3), .val (.ref b48), .val (.ref b53), .unset] [(.int ((1 : Int32) <<< (((own_m3_2 sv0) (0 : Int32)) &&& 31)))]))) st55 ?_
    refine OD.go (B := (T55.setTop (mkF m 108 #[.val (.int p0), .val (.int p1), .val (.int p2), .val (.int p3), .val (.int p4), .val (.int p5), .val (.int 3), .val (.ref b48), .val (.ref b53), .unset] [(.ref b53), (.int ((1 : Int32) <<< (((own_m3_2 sv0) (0 : Int32)) &&& 31)))]))) (fun t k => XS.aload X55.here hx rfl (hb hby at_106) rfl rfl k) ?_
    refine OD.go (B := (T55.setTop (mkF m 109 #[.val (.int p0), .val (.int p1), .val (.int p2), .val (.int p3), .val (.int p4), .val (.int p5), .val (.int 3), .val (.ref b48), .val (.ref b53), .unset] [(.int 1), (.ref b53), (.int ((1 : Int32) <<< (((own_m3_2 sv0) (0 : Int32)) &&& 31)))]))) (fun t k => XS.iconst X55.here hx rfl (hb hby at_108) k) ?_
    refine OD.go (B := (T55.setTop (mkF m 111 #[.val (.int p0), .val (.int p1), .val (.int p2), .val (.int p3), .val (.int p4), .val (.int p5), .val (.int 3), .val (.ref b48), .val (.ref b53), .unset] [(.int 3), (.int 1), (.ref b53), (.int ((1 : Int32) <<< (((own_m3_2 sv0) (0 : Int32)) &&& 31)))]))) (fun t k => XS.iload X55.here hx rfl (hb hby at_109) rfl k) ?_
    obtain ⟨_, _, ⟨T56, L56, k56, n56⟩, -, X56, ⟨Lc56, hQ56, l56, y56, z56⟩, st56⟩ := Jvm.LawKit.callS X55 hx (y := (⟨"com/example/topside/topside/DescendingOrderOfPinLaw", "bit", "([III)I"⟩ : MethodName)) hown (mvT hZ (Wd6 hw)) (mvT hZ (Wd7 hw)) (mvT hZ (Wd8 hw)) (mvT hZ (Wd9 hw)) (by decide) (backOf (W := 1) (rmB1 l Z a0 hw [] b53 (1 : Int32) (3 : Int32) T53.heap k53' (own_m3_2 sv0) A53 ⟨by decide, by decide⟩ (own_m3_2_b sv0)) hZ (Wd9 hw) (Wd8 hw) (by decide) (by decide)) (g := (mkF m 111 #[.val (.int p0), .val (.int p1), .val (.int p2), .val (.int p3), .val (.int p4), .val (.int p5), .val (.int 3), .val (.ref b48), .val (.ref b53), .unset] [(.int 3), (.int 1), (.ref b53), (.int ((1 : Int32) <<< (((own_m3_2 sv0) (0 : Int32)) &&& 31)))])) rfl (by rw [hml]; rfl) (argsL := [(.ref b53), (.int 1), (.int 3)]) (rest := [(.int ((1 : Int32) <<< (((own_m3_2 sv0) (0 : Int32)) &&& 31)))]) (lenOf pd3 rfl) rfl (by show 2 * 0 + _ ≤ _; exact Nat.le_of_eq rfl) (hb hby at_111) (fun _ _ => ⟨rfl, e55, (Nat.le_of_ble_eq_true rfl), (Nat.le_of_ble_eq_true rfl)⟩)
    dsimp only [Pt.U, Pt.locs, Pt.cells, Pt.slots] at X56 l56 y56 z56 st56 hQ56
    subst l56 y56 z56
    obtain ⟨rfl, rfl, e56⟩ := hQ56
    try rw [List.append_nil] at X56
    refine OD.go (B := (T56.setTop (mkF m 114 #[.val (.int p0), .val (.int p1), .val (.int p2), .val (.int p3), .val (.int p4), .val (.int p5), .val (.int 3), .val (.ref b48), .val (.ref b53), .unset] [(.int ((1 : Int32) <<< (((own_m3_2 sv0) (1 : Int32)) &&& 31))), (.int ((1 : Int32) <<< (((own_m3_2 sv0) (0 : Int32)) &&& 31)))]))) st56 ?_
    refine OD.go (B := (T56.setTop (mkF m 115 #[.val (.int p0), .val (.int p1), .val (.int p2), .val (.int p3), .val (.int p4), .val (.int p5), .val (.int 3), .val (.ref b48), .val (.ref b53), .unset] [(.int (((1 : Int32) <<< (((own_m3_2 sv0) (0 : Int32)) &&& 31)) ||| ((1 : Int32) <<< (((own_m3_2 sv0) (1 : Int32)) &&& 31))))]))) (fun t k => XS.ior X56.here hx rfl (hb hby at_114) rfl k) ?_
    refine OD.go (B := (T56.setTop (mkF m 117 #[.val (.int p0), .val (.int p1), .val (.int p2), .val (.int p3), .val (.int p4), .val (.int p5), .val (.int 3), .val (.ref b48), .val (.ref b53), .unset] [(.ref b53), (.int (((1 : Int32) <<< (((own_m3_2 sv0) (0 : Int32)) &&& 31)) ||| ((1 : Int32) <<< (((own_m3_2 sv0) (1 : Int32)) &&& 31))))]))) (fun t k => XS.aload X56.here hx rfl (hb hby at_115) rfl rfl k) ?_
    refine OD.go (B := (T56.setTop (mkF m 118 #[.val (.int p0), .val (.int p1), .val (.int p2), .val (.int p3), .val (.int p4), .val (.int p5), .val (.int 3), .val (.ref b48), .val (.ref b53), .unset] [(.int 2), (.ref b53), (.int (((1 : Int32) <<< (((own_m3_2 sv0) (0 : Int32)) &&& 31)) ||| ((1 : Int32) <<< (((own_m3_2 sv0) (1 : Int32)) &&& 31))))]))) (fun t k => XS.iconst X56.here hx rfl (hb hby at_117) k) ?_
    refine OD.go (B := (T56.setTop (mkF m 120 #[.val (.int p0), .val (.int p1), .val (.int p2), .val (.int p3), .val (.int p4), .val (.int p5), .val (.int 3), .val (.ref b48), .val (.ref b53), .unset] [(.int 3), (.int 2), (.ref b53), (.int (((1 : Int32) <<< (((own_m3_2 sv0) (0 : Int32)) &&& 31)) ||| ((1 : Int32) <<< (((own_m3_2 sv0) (1 : Int32)) &&& 31))))]))) (fun t k => XS.iload X56.here hx rfl (hb hby at_118) rfl k) ?_
    obtain ⟨_, _, ⟨T57, L57, k57, n57⟩, -, X57, ⟨Lc57, hQ57, l57, y57, z57⟩, st57⟩ := Jvm.LawKit.callS X56 hx (y := (⟨"com/example/topside/topside/DescendingOrderOfPinLaw", "bit", "([III)I"⟩ : MethodName)) hown (mvT hZ (Wd6 hw)) (mvT hZ (Wd7 hw)) (mvT hZ (Wd8 hw)) (mvT hZ (Wd9 hw)) (by decide) (backOf (W := 1) (rmB1 l Z a0 hw [] b53 (2 : Int32) (3 : Int32) T53.heap k53' (own_m3_2 sv0) A53 ⟨by decide, by decide⟩ (own_m3_2_b sv0)) hZ (Wd9 hw) (Wd8 hw) (by decide) (by decide)) (g := (mkF m 120 #[.val (.int p0), .val (.int p1), .val (.int p2), .val (.int p3), .val (.int p4), .val (.int p5), .val (.int 3), .val (.ref b48), .val (.ref b53), .unset] [(.int 3), (.int 2), (.ref b53), (.int (((1 : Int32) <<< (((own_m3_2 sv0) (0 : Int32)) &&& 31)) ||| ((1 : Int32) <<< (((own_m3_2 sv0) (1 : Int32)) &&& 31))))])) rfl (by rw [hml]; rfl) (argsL := [(.ref b53), (.int 2), (.int 3)]) (rest := [(.int (((1 : Int32) <<< (((own_m3_2 sv0) (0 : Int32)) &&& 31)) ||| ((1 : Int32) <<< (((own_m3_2 sv0) (1 : Int32)) &&& 31))))]) (lenOf pd3 rfl) rfl (by show 2 * 0 + _ ≤ _; exact Nat.le_of_eq rfl) (hb hby at_120) (fun _ _ => ⟨rfl, e56, (Nat.le_of_ble_eq_true rfl), (Nat.le_of_ble_eq_true rfl)⟩)
    dsimp only [Pt.U, Pt.locs, Pt.cells, Pt.slots] at X57 l57 y57 z57 st57 hQ57
    subst l57 y57 z57
    obtain ⟨rfl, rfl, e57⟩ := hQ57
    try rw [List.append_nil] at X57
    refine OD.go (B := (T57.setTop (mkF m 123 #[.val (.int p0), .val (.int p1), .val (.int p2), .val (.int p3), .val (.int p4), .val (.int p5), .val (.int 3), .val (.ref b48), .val (.ref b53), .unset] [(.int ((1 : Int32) <<< (((own_m3_2 sv0) (2 : Int32)) &&& 31))), (.int (((1 : Int32) <<< (((own_m3_2 sv0) (0 : Int32)) &&& 31)) ||| ((1 : Int32) <<< (((own_m3_2 sv0) (1 : Int32)) &&& 31))))]))) st57 ?_
    refine OD.go (B := (T57.setTop (mkF m 124 #[.val (.int p0), .val (.int p1), .val (.int p2), .val (.int p3), .val (.int p4), .val (.int p5), .val (.int 3), .val (.ref b48), .val (.ref b53), .unset] [(.int ((((1 : Int32) <<< (((own_m3_2 sv0) (0 : Int32)) &&& 31)) ||| ((1 : Int32) <<< (((own_m3_2 sv0) (1 : Int32)) &&& 31))) ||| ((1 : Int32) <<< (((own_m3_2 sv0) (2 : Int32)) &&& 31))))]))) (fun t k => XS.ior X57.here hx rfl (hb hby at_123) rfl k) ?_
    refine OD.go (B := (T57.setTop (mkF m 126 #[.val (.int p0), .val (.int p1), .val (.int p2), .val (.int p3), .val (.int p4), .val (.int p5), .val (.int 3), .val (.ref b48), .val (.ref b53), .unset] [(.ref b53), (.int ((((1 : Int32) <<< (((own_m3_2 sv0) (0 : Int32)) &&& 31)) ||| ((1 : Int32) <<< (((own_m3_2 sv0) (1 : Int32)) &&& 31))) ||| ((1 : Int32) <<< (((own_m3_2 sv0) (2 : Int32)) &&& 31))))]))) (fun t k => XS.aload X57.here hx rfl (hb hby at_124) rfl rfl k) ?_
    refine OD.go (B := (T57.setTop (mkF m 127 #[.val (.int p0), .val (.int p1), .val (.int p2), .val (.int p3), .val (.int p4), .val (.int p5), .val (.int 3), .val (.ref b48), .val (.ref b53), .unset] [(.int 3), (.ref b53), (.int ((((1 : Int32) <<< (((own_m3_2 sv0) (0 : Int32)) &&& 31)) ||| ((1 : Int32) <<< (((own_m3_2 sv0) (1 : Int32)) &&& 31))) ||| ((1 : Int32) <<< (((own_m3_2 sv0) (2 : Int32)) &&& 31))))]))) (fun t k => XS.iconst X57.here hx rfl (hb hby at_126) k) ?_
    refine OD.go (B := (T57.setTop (mkF m 129 #[.val (.int p0), .val (.int p1), .val (.int p2), .val (.int p3), .val (.int p4), .val (.int p5), .val (.int 3), .val (.ref b48), .val (.ref b53), .unset] [(.int 3), (.int 3), (.ref b53), (.int ((((1 : Int32) <<< (((own_m3_2 sv0) (0 : Int32)) &&& 31)) ||| ((1 : Int32) <<< (((own_m3_2 sv0) (1 : Int32)) &&& 31))) ||| ((1 : Int32) <<< (((own_m3_2 sv0) (2 : Int32)) &&& 31))))]))) (fun t k => XS.iload X57.here hx rfl (hb hby at_127) rfl k) ?_
    obtain ⟨_, _, ⟨T58, L58, k58, n58⟩, -, X58, ⟨Lc58, hQ58, l58, y58, z58⟩, st58⟩ := Jvm.LawKit.callS X57 hx (y := (⟨"com/example/topside/topside/DescendingOrderOfPinLaw", "bit", "([III)I"⟩ : MethodName)) hown (mvT hZ (Wd6 hw)) (mvT hZ (Wd7 hw)) (mvT hZ (Wd8 hw)) (mvT hZ (Wd9 hw)) (by decide) (backOf (W := 1) (rmB0 l Z a0 hw [] b53 (3 : Int32) (3 : Int32) T53.heap (by decide)) hZ (Wd9 hw) (Wd8 hw) (by decide) (by decide)) (g := (mkF m 129 #[.val (.int p0), .val (.int p1), .val (.int p2), .val (.int p3), .val (.int p4), .val (.int p5), .val (.int 3), .val (.ref b48), .val (.ref b53), .unset] [(.int 3), (.int 3), (.ref b53), (.int ((((1 : Int32) <<< (((own_m3_2 sv0) (0 : Int32)) &&& 31)) ||| ((1 : Int32) <<< (((own_m3_2 sv0) (1 : Int32)) &&& 31))) ||| ((1 : Int32) <<< (((own_m3_2 sv0) (2 : Int32)) &&& 31))))])) rfl (by rw [hml]; rfl) (argsL := [(.ref b53), (.int 3), (.int 3)]) (rest := [(.int ((((1 : Int32) <<< (((own_m3_2 sv0) (0 : Int32)) &&& 31)) ||| ((1 : Int32) <<< (((own_m3_2 sv0) (1 : Int32)) &&& 31))) ||| ((1 : Int32) <<< (((own_m3_2 sv0) (2 : Int32)) &&& 31))))]) (lenOf pd3 rfl) rfl (by show 2 * 0 + _ ≤ _; exact Nat.le_of_eq rfl) (hb hby at_129) (fun _ _ => ⟨rfl, e57, (Nat.le_of_ble_eq_true rfl), (Nat.le_of_ble_eq_true rfl)⟩)
    dsimp only [Pt.U, Pt.locs, Pt.cells, Pt.slots] at X58 l58 y58 z58 st58 hQ58
    subst l58 y58 z58
    obtain ⟨rfl, rfl, e58⟩ := hQ58
    try rw [List.append_nil] at X58
    refine OD.go (B := (T58.setTop (mkF m 132 #[.val (.int p0), .val (.int p1), .val (.int p2), .val (.int p3), .val (.int p4), .val (.int p5), .val (.int 3), .val (.ref b48), .val (.ref b53), .unset] [(.int 0), (.int ((((1 : Int32) <<< (((own_m3_2 sv0) (0 : Int32)) &&& 31)) ||| ((1 : Int32) <<< (((own_m3_2 sv0) (1 : Int32)) &&& 31))) ||| ((1 : Int32) <<< (((own_m3_2 sv0) (2 : Int32)) &&& 31))))]))) st58 ?_
    refine OD.go (B := (T58.setTop (mkF m 133 #[.val (.int p0), .val (.int p1), .val (.int p2), .val (.int p3), .val (.int p4), .val (.int p5), .val (.int 3), .val (.ref b48), .val (.ref b53), .unset] [(.int (((((1 : Int32) <<< (((own_m3_2 sv0) (0 : Int32)) &&& 31)) ||| ((1 : Int32) <<< (((own_m3_2 sv0) (1 : Int32)) &&& 31))) ||| ((1 : Int32) <<< (((own_m3_2 sv0) (2 : Int32)) &&& 31))) ||| (0 : Int32)))]))) (fun t k => XS.ior X58.here hx rfl (hb hby at_132) rfl k) ?_
    refine OD.go (B := (T58.setTop (mkF m 135 #[.val (.int p0), .val (.int p1), .val (.int p2), .val (.int p3), .val (.int p4), .val (.int p5), .val (.int 3), .val (.ref b48), .val (.ref b53), .unset] [(.ref b53), (.int (((((1 : Int32) <<< (((own_m3_2 sv0) (0 : Int32)) &&& 31)) ||| ((1 : Int32) <<< (((own_m3_2 sv0) (1 : Int32)) &&& 31))) ||| ((1 : Int32) <<< (((own_m3_2 sv0) (2 : Int32)) &&& 31))) ||| (0 : Int32)))]))) (fun t k => XS.aload X58.here hx rfl (hb hby at_133) rfl rfl k) ?_
    refine OD.go (B := (T58.setTop (mkF m 136 #[.val (.int p0), .val (.int p1), .val (.int p2), .val (.int p3), .val (.int p4), .val (.int p5), .val (.int 3), .val (.ref b48), .val (.ref b53), .unset] [(.int 4), (.ref b53), (.int (((((1 : Int32) <<< (((own_m3_2 sv0) (0 : Int32)) &&& 31)) ||| ((1 : Int32) <<< (((own_m3_2 sv0) (1 : Int32)) &&& 31))) ||| ((1 : Int32) <<< (((own_m3_2 sv0) (2 : Int32)) &&& 31))) ||| (0 : Int32)))]))) (fun t k => XS.iconst X58.here hx rfl (hb hby at_135) k) ?_
    refine OD.go (B := (T58.setTop (mkF m 138 #[.val (.int p0), .val (.int p1), .val (.int p2), .val (.int p3), .val (.int p4), .val (.int p5), .val (.int 3), .val (.ref b48), .val (.ref b53), .unset] [(.int 3), (.int 4), (.ref b53), (.int (((((1 : Int32) <<< (((own_m3_2 sv0) (0 : Int32)) &&& 31)) ||| ((1 : Int32) <<< (((own_m3_2 sv0) (1 : Int32)) &&& 31))) ||| ((1 : Int32) <<< (((own_m3_2 sv0) (2 : Int32)) &&& 31))) ||| (0 : Int32)))]))) (fun t k => XS.iload X58.here hx rfl (hb hby at_136) rfl k) ?_
    obtain ⟨_, _, ⟨T59, L59, k59, n59⟩, -, X59, ⟨Lc59, hQ59, l59, y59, z59⟩, st59⟩ := Jvm.LawKit.callS X58 hx (y := (⟨"com/example/topside/topside/DescendingOrderOfPinLaw", "bit", "([III)I"⟩ : MethodName)) hown (mvT hZ (Wd6 hw)) (mvT hZ (Wd7 hw)) (mvT hZ (Wd8 hw)) (mvT hZ (Wd9 hw)) (by decide) (backOf (W := 1) (rmB0 l Z a0 hw [] b53 (4 : Int32) (3 : Int32) T53.heap (by decide)) hZ (Wd9 hw) (Wd8 hw) (by decide) (by decide)) (g := (mkF m 138 #[.val (.int p0), .val (.int p1), .val (.int p2), .val (.int p3), .val (.int p4), .val (.int p5), .val (.int 3), .val (.ref b48), .val (.ref b53), .unset] [(.int 3), (.int 4), (.ref b53), (.int (((((1 : Int32) <<< (((own_m3_2 sv0) (0 : Int32)) &&& 31)) ||| ((1 : Int32) <<< (((own_m3_2 sv0) (1 : Int32)) &&& 31))) ||| ((1 : Int32) <<< (((own_m3_2 sv0) (2 : Int32)) &&& 31))) ||| (0 : Int32)))])) rfl (by rw [hml]; rfl) (argsL := [(.ref b53), (.int 4), (.int 3)]) (rest := [(.int (((((1 : Int32) <<< (((own_m3_2 sv0) (0 : Int32)) &&& 31)) ||| ((1 : Int32) <<< (((own_m3_2 sv0) (1 : Int32)) &&& 31))) ||| ((1 : Int32) <<< (((own_m3_2 sv0) (2 : Int32)) &&& 31))) ||| (0 : Int32)))]) (lenOf pd3 rfl) rfl (by show 2 * 0 + _ ≤ _; exact Nat.le_of_eq rfl) (hb hby at_138) (fun _ _ => ⟨rfl, e58, (Nat.le_of_ble_eq_true rfl), (Nat.le_of_ble_eq_true rfl)⟩)
    dsimp only [Pt.U, Pt.locs, Pt.cells, Pt.slots] at X59 l59 y59 z59 st59 hQ59
    subst l59 y59 z59
    obtain ⟨rfl, rfl, e59⟩ := hQ59
    try rw [List.append_nil] at X59
    refine OD.go (B := (T59.setTop (mkF m 141 #[.val (.int p0), .val (.int p1), .val (.int p2), .val (.int p3), .val (.int p4), .val (.int p5), .val (.int 3), .val (.ref b48), .val (.ref b53), .unset] [(.int 0), (.int (((((1 : Int32) <<< (((own_m3_2 sv0) (0 : Int32)) &&& 31)) ||| ((1 : Int32) <<< (((own_m3_2 sv0) (1 : Int32)) &&& 31))) ||| ((1 : Int32) <<< (((own_m3_2 sv0) (2 : Int32)) &&& 31))) ||| (0 : Int32)))]))) st59 ?_
    refine OD.go (B := (T59.setTop (mkF m 142 #[.val (.int p0), .val (.int p1), .val (.int p2), .val (.int p3), .val (.int p4), .val (.int p5), .val (.int 3), .val (.ref b48), .val (.ref b53), .unset] [(.int ((((((1 : Int32) <<< (((own_m3_2 sv0) (0 : Int32)) &&& 31)) ||| ((1 : Int32) <<< (((own_m3_2 sv0) (1 : Int32)) &&& 31))) ||| ((1 : Int32) <<< (((own_m3_2 sv0) (2 : Int32)) &&& 31))) ||| (0 : Int32)) ||| (0 : Int32)))]))) (fun t k => XS.ior X59.here hx rfl (hb hby at_141) rfl k) ?_
    refine OD.go (B := (T59.setTop (mkF m 144 #[.val (.int p0), .val (.int p1), .val (.int p2), .val (.int p3), .val (.int p4), .val (.int p5), .val (.int 3), .val (.ref b48), .val (.ref b53), .val (.int ((((((1 : Int32) <<< (((own_m3_2 sv0) (0 : Int32)) &&& 31)) ||| ((1 : Int32) <<< (((own_m3_2 sv0) (1 : Int32)) &&& 31))) ||| ((1 : Int32) <<< (((own_m3_2 sv0) (2 : Int32)) &&& 31))) ||| (0 : Int32)) ||| (0 : Int32)))] []))) (fun t k => XS.istore X59.here hx rfl (hb hby at_142) rfl (l' := #[.val (.int p0), .val (.int p1), .val (.int p2), .val (.int p3), .val (.int p4), .val (.int p5), .val (.int 3), .val (.ref b48), .val (.ref b53), .val (.int ((((((1 : Int32) <<< (((own_m3_2 sv0) (0 : Int32)) &&& 31)) ||| ((1 : Int32) <<< (((own_m3_2 sv0) (1 : Int32)) &&& 31))) ||| ((1 : Int32) <<< (((own_m3_2 sv0) (2 : Int32)) &&& 31))) ||| (0 : Int32)) ||| (0 : Int32)))]) rfl k) ?_
    generalize hu142_60 : ((((((1 : Int32) <<< (((own_m3_2 sv0) (0 : Int32)) &&& 31)) ||| ((1 : Int32) <<< (((own_m3_2 sv0) (1 : Int32)) &&& 31))) ||| ((1 : Int32) <<< (((own_m3_2 sv0) (2 : Int32)) &&& 31))) ||| (0 : Int32)) ||| (0 : Int32)) = u142_60
    refine OD.go (B := (T59.setTop (mkF m 146 #[.val (.int p0), .val (.int p1), .val (.int p2), .val (.int p3), .val (.int p4), .val (.int p5), .val (.int 3), .val (.ref b48), .val (.ref b53), .val (.int u142_60)] [(.int u142_60)]))) (fun t k => XS.iload X59.here hx rfl (hb hby at_144) rfl k) ?_
    refine OD.go (B := (T59.setTop (mkF m 147 #[.val (.int p0), .val (.int p1), .val (.int p2), .val (.int p3), .val (.int p4), .val (.int p5), .val (.int 3), .val (.ref b48), .val (.ref b53), .val (.int u142_60)] [(.int 1), (.int u142_60)]))) (fun t k => XS.iconst X59.here hx rfl (hb hby at_146) k) ?_
    refine OD.go (B := (T59.setTop (mkF m 149 #[.val (.int p0), .val (.int p1), .val (.int p2), .val (.int p3), .val (.int p4), .val (.int p5), .val (.int 3), .val (.ref b48), .val (.ref b53), .val (.int u142_60)] [(.int 3), (.int 1), (.int u142_60)]))) (fun t k => XS.iload X59.here hx rfl (hb hby at_147) rfl k) ?_
    refine OD.go (B := (T59.setTop (mkF m 150 #[.val (.int p0), .val (.int p1), .val (.int p2), .val (.int p3), .val (.int p4), .val (.int p5), .val (.int 3), .val (.ref b48), .val (.ref b53), .val (.int u142_60)] [(.int ((1 : Int32) <<< ((3 : Int32) &&& 31))), (.int u142_60)]))) (fun t k => XS.ishl X59.here hx rfl (hb hby at_149) rfl k) ?_
    refine OD.go (B := (T59.setTop (mkF m 151 #[.val (.int p0), .val (.int p1), .val (.int p2), .val (.int p3), .val (.int p4), .val (.int p5), .val (.int 3), .val (.ref b48), .val (.ref b53), .val (.int u142_60)] [(.int 1), (.int ((1 : Int32) <<< ((3 : Int32) &&& 31))), (.int u142_60)]))) (fun t k => XS.iconst X59.here hx rfl (hb hby at_150) k) ?_
    refine OD.go (B := (T59.setTop (mkF m 152 #[.val (.int p0), .val (.int p1), .val (.int p2), .val (.int p3), .val (.int p4), .val (.int p5), .val (.int 3), .val (.ref b48), .val (.ref b53), .val (.int u142_60)] [(.int (((1 : Int32) <<< ((3 : Int32) &&& 31)) - (1 : Int32))), (.int u142_60)]))) (fun t k => XS.isub X59.here hx rfl (hb hby at_151) rfl k) ?_
    refine OD.go (B := (T59.setTop (mkF m 157 #[.val (.int p0), .val (.int p1), .val (.int p2), .val (.int p3), .val (.int p4), .val (.int p5), .val (.int 3), .val (.ref b48), .val (.ref b53), .val (.int u142_60)] []))) (fun t k => XS.icmpYes X59.here hx rfl (pc0 := 152) (pc' := 157) rfl (hb hby at_152) rfl (teq (by rw [← hu142_60]; (try rw [hsv]); exact own_mask3 p1 p2 p3 p4 p5)).1 (by decide) (by decide) k) ?_
    refine OD.go (B := (T59.setTop (mkF m 159 #[.val (.int p0), .val (.int p1), .val (.int p2), .val (.int p3), .val (.int p4), .val (.int p5), .val (.int 3), .val (.ref b48), .val (.ref b53), .val (.int u142_60)] [(.ref b48)]))) (fun t k => XS.aload X59.here hx rfl (hb hby at_157) rfl rfl k) ?_
    refine OD.go (B := (T59.setTop (mkF m 161 #[.val (.int p0), .val (.int p1), .val (.int p2), .val (.int p3), .val (.int p4), .val (.int p5), .val (.int 3), .val (.ref b48), .val (.ref b53), .val (.int u142_60)] [(.ref b53), (.ref b48)]))) (fun t k => XS.aload X59.here hx rfl (hb hby at_159) rfl rfl k) ?_
    refine OD.go (B := (T59.setTop (mkF m 162 #[.val (.int p0), .val (.int p1), .val (.int p2), .val (.int p3), .val (.int p4), .val (.int p5), .val (.int 3), .val (.ref b48), .val (.ref b53), .val (.int u142_60)] [(.int 0), (.ref b53), (.ref b48)]))) (fun t k => XS.iconst X59.here hx rfl (hb hby at_161) k) ?_
    refine OD.go (B := (T59.setTop (mkF m 164 #[.val (.int p0), .val (.int p1), .val (.int p2), .val (.int p3), .val (.int p4), .val (.int p5), .val (.int 3), .val (.ref b48), .val (.ref b53), .val (.int u142_60)] [(.int 3), (.int 0), (.ref b53), (.ref b48)]))) (fun t k => XS.iload X59.here hx rfl (hb hby at_162) rfl k) ?_
    have f61 := (Vf52.keep K53 nin0)
    obtain ⟨_, _, ⟨T62, L62, k62, n62⟩, -, X62, ⟨Lc62, hQ62, l62, y62, z62⟩, st62⟩ := Jvm.LawKit.callS X59 hx (y := (⟨"com/example/topside/topside/DescendingOrderOfPinLaw", "pair", "([D[III)Z"⟩ : MethodName)) hown (mvT hZ (Wd10 hw)) (mvT hZ (Wd11 hw)) (mvT hZ (Wd8 hw)) (mvT hZ (Wd12 hw)) (by decide) (backOf (W := 0) (rmP1 l Z a0 hw [] b48 b53 (0 : Int32) (3 : Int32) T53.heap k53' k48 (own_m3_2 sv0) sv0 f61 A53 ⟨by decide, by decide⟩ ⟨by decide, by decide⟩ (own_m3_2_b sv0)) hZ (Wd12 hw) (Wd8 hw) (by decide) (by decide)) (g := (mkF m 164 #[.val (.int p0), .val (.int p1), .val (.int p2), .val (.int p3), .val (.int p4), .val (.int p5), .val (.int 3), .val (.ref b48), .val (.ref b53), .val (.int u142_60)] [(.int 3), (.int 0), (.ref b53), (.ref b48)])) rfl (by rw [hml]; rfl) (argsL := [(.ref b48), (.ref b53), (.int 0), (.int 3)]) (rest := []) (lenOf pd4 rfl) rfl (by show 2 * 0 + _ ≤ _; exact Nat.le_of_eq rfl) (hb hby at_164) (fun _ _ => ⟨rfl, e59, (Nat.le_of_ble_eq_true rfl), (Nat.le_of_ble_eq_true rfl)⟩)
    dsimp only [Pt.U, Pt.locs, Pt.cells, Pt.slots] at X62 l62 y62 z62 st62 hQ62
    subst l62 y62 z62
    obtain ⟨rfl, rfl, e62⟩ := hQ62
    try rw [List.append_nil] at X62
    refine OD.go (B := (T62.setTop (mkF m 167 #[.val (.int p0), .val (.int p1), .val (.int p2), .val (.int p3), .val (.int p4), .val (.int p5), .val (.int 3), .val (.ref b48), .val (.ref b53), .val (.int u142_60)] [(.int (own_pr sv0 ((own_m3_2 sv0) (0 : Int32)) ((own_m3_2 sv0) ((0 : Int32) + (1 : Int32)))))]))) st62 ?_
    refine OD.go (B := (T62.setTop (mkF m 170 #[.val (.int p0), .val (.int p1), .val (.int p2), .val (.int p3), .val (.int p4), .val (.int p5), .val (.int 3), .val (.ref b48), .val (.ref b53), .val (.int u142_60)] []))) (fun t k => XS.ifNo X62.here hx rfl (hb hby at_167) rfl (by rw [if0]; exact (feq (by rw [hsv, own_pair3_0]; decide)).1) k) ?_
    refine OD.go (B := (T62.setTop (mkF m 172 #[.val (.int p0), .val (.int p1), .val (.int p2), .val (.int p3), .val (.int p4), .val (.int p5), .val (.int 3), .val (.ref b48), .val (.ref b53), .val (.int u142_60)] [(.ref b48)]))) (fun t k => XS.aload X62.here hx rfl (hb hby at_170) rfl rfl k) ?_
    refine OD.go (B := (T62.setTop (mkF m 174 #[.val (.int p0), .val (.int p1), .val (.int p2), .val (.int p3), .val (.int p4), .val (.int p5), .val (.int 3), .val (.ref b48), .val (.ref b53), .val (.int u142_60)] [(.ref b53), (.ref b48)]))) (fun t k => XS.aload X62.here hx rfl (hb hby at_172) rfl rfl k) ?_
    refine OD.go (B := (T62.setTop (mkF m 175 #[.val (.int p0), .val (.int p1), .val (.int p2), .val (.int p3), .val (.int p4), .val (.int p5), .val (.int 3), .val (.ref b48), .val (.ref b53), .val (.int u142_60)] [(.int 1), (.ref b53), (.ref b48)]))) (fun t k => XS.iconst X62.here hx rfl (hb hby at_174) k) ?_
    refine OD.go (B := (T62.setTop (mkF m 177 #[.val (.int p0), .val (.int p1), .val (.int p2), .val (.int p3), .val (.int p4), .val (.int p5), .val (.int 3), .val (.ref b48), .val (.ref b53), .val (.int u142_60)] [(.int 3), (.int 1), (.ref b53), (.ref b48)]))) (fun t k => XS.iload X62.here hx rfl (hb hby at_175) rfl k) ?_
    obtain ⟨_, _, ⟨T63, L63, k63, n63⟩, -, X63, ⟨Lc63, hQ63, l63, y63, z63⟩, st63⟩ := Jvm.LawKit.callS X62 hx (y := (⟨"com/example/topside/topside/DescendingOrderOfPinLaw", "pair", "([D[III)Z"⟩ : MethodName)) hown (mvT hZ (Wd10 hw)) (mvT hZ (Wd11 hw)) (mvT hZ (Wd8 hw)) (mvT hZ (Wd12 hw)) (by decide) (backOf (W := 0) (rmP1 l Z a0 hw [] b48 b53 (1 : Int32) (3 : Int32) T53.heap k53' k48 (own_m3_2 sv0) sv0 f61 A53 ⟨by decide, by decide⟩ ⟨by decide, by decide⟩ (own_m3_2_b sv0)) hZ (Wd12 hw) (Wd8 hw) (by decide) (by decide)) (g := (mkF m 177 #[.val (.int p0), .val (.int p1), .val (.int p2), .val (.int p3), .val (.int p4), .val (.int p5), .val (.int 3), .val (.ref b48), .val (.ref b53), .val (.int u142_60)] [(.int 3), (.int 1), (.ref b53), (.ref b48)])) rfl (by rw [hml]; rfl) (argsL := [(.ref b48), (.ref b53), (.int 1), (.int 3)]) (rest := []) (lenOf pd4 rfl) rfl (by show 2 * 0 + _ ≤ _; exact Nat.le_of_eq rfl) (hb hby at_177) (fun _ _ => ⟨rfl, e62, (Nat.le_of_ble_eq_true rfl), (Nat.le_of_ble_eq_true rfl)⟩)
    dsimp only [Pt.U, Pt.locs, Pt.cells, Pt.slots] at X63 l63 y63 z63 st63 hQ63
    subst l63 y63 z63
    obtain ⟨rfl, rfl, e63⟩ := hQ63
    try rw [List.append_nil] at X63
    refine OD.go (B := (T63.setTop (mkF m 180 #[.val (.int p0), .val (.int p1), .val (.int p2), .val (.int p3), .val (.int p4), .val (.int p5), .val (.int 3), .val (.ref b48), .val (.ref b53), .val (.int u142_60)] [(.int (own_pr sv0 ((own_m3_2 sv0) (1 : Int32)) ((own_m3_2 sv0) ((1 : Int32) + (1 : Int32)))))]))) st63 ?_
    refine OD.go (B := (T63.setTop (mkF m 183 #[.val (.int p0), .val (.int p1), .val (.int p2), .val (.int p3), .val (.int p4), .val (.int p5), .val (.int 3), .val (.ref b48), .val (.ref b53), .val (.int u142_60)] []))) (fun t k => XS.ifNo X63.here hx rfl (hb hby at_180) rfl (by rw [if0]; exact (feq (by rw [hsv, own_pair3_1]; decide)).1) k) ?_
    refine OD.go (B := (T63.setTop (mkF m 185 #[.val (.int p0), .val (.int p1), .val (.int p2), .val (.int p3), .val (.int p4), .val (.int p5), .val (.int 3), .val (.ref b48), .val (.ref b53), .val (.int u142_60)] [(.ref b48)]))) (fun t k => XS.aload X63.here hx rfl (hb hby at_183) rfl rfl k) ?_
    refine OD.go (B := (T63.setTop (mkF m 187 #[.val (.int p0), .val (.int p1), .val (.int p2), .val (.int p3), .val (.int p4), .val (.int p5), .val (.int 3), .val (.ref b48), .val (.ref b53), .val (.int u142_60)] [(.ref b53), (.ref b48)]))) (fun t k => XS.aload X63.here hx rfl (hb hby at_185) rfl rfl k) ?_
    refine OD.go (B := (T63.setTop (mkF m 188 #[.val (.int p0), .val (.int p1), .val (.int p2), .val (.int p3), .val (.int p4), .val (.int p5), .val (.int 3), .val (.ref b48), .val (.ref b53), .val (.int u142_60)] [(.int 2), (.ref b53), (.ref b48)]))) (fun t k => XS.iconst X63.here hx rfl (hb hby at_187) k) ?_
    refine OD.go (B := (T63.setTop (mkF m 190 #[.val (.int p0), .val (.int p1), .val (.int p2), .val (.int p3), .val (.int p4), .val (.int p5), .val (.int 3), .val (.ref b48), .val (.ref b53), .val (.int u142_60)] [(.int 3), (.int 2), (.ref b53), (.ref b48)]))) (fun t k => XS.iload X63.here hx rfl (hb hby at_188) rfl k) ?_
    obtain ⟨_, _, ⟨T64, L64, k64, n64⟩, -, X64, ⟨Lc64, hQ64, l64, y64, z64⟩, st64⟩ := Jvm.LawKit.callS X63 hx (y := (⟨"com/example/topside/topside/DescendingOrderOfPinLaw", "pair", "([D[III)Z"⟩ : MethodName)) hown (mvT hZ (Wd10 hw)) (mvT hZ (Wd11 hw)) (mvT hZ (Wd8 hw)) (mvT hZ (Wd12 hw)) (by decide) (backOf (W := 0) (rmP0 l Z a0 hw [] b48 b53 (2 : Int32) (3 : Int32) T53.heap (by decide)) hZ (Wd12 hw) (Wd8 hw) (by decide) (by decide)) (g := (mkF m 190 #[.val (.int p0), .val (.int p1), .val (.int p2), .val (.int p3), .val (.int p4), .val (.int p5), .val (.int 3), .val (.ref b48), .val (.ref b53), .val (.int u142_60)] [(.int 3), (.int 2), (.ref b53), (.ref b48)])) rfl (by rw [hml]; rfl) (argsL := [(.ref b48), (.ref b53), (.int 2), (.int 3)]) (rest := []) (lenOf pd4 rfl) rfl (by show 2 * 0 + _ ≤ _; exact Nat.le_of_eq rfl) (hb hby at_190) (fun _ _ => ⟨rfl, e63, (Nat.le_of_ble_eq_true rfl), (Nat.le_of_ble_eq_true rfl)⟩)
    dsimp only [Pt.U, Pt.locs, Pt.cells, Pt.slots] at X64 l64 y64 z64 st64 hQ64
    subst l64 y64 z64
    obtain ⟨rfl, rfl, e64⟩ := hQ64
    try rw [List.append_nil] at X64
    refine OD.go (B := (T64.setTop (mkF m 193 #[.val (.int p0), .val (.int p1), .val (.int p2), .val (.int p3), .val (.int p4), .val (.int p5), .val (.int 3), .val (.ref b48), .val (.ref b53), .val (.int u142_60)] [(.int 1)]))) st64 ?_
    refine OD.go (B := (T64.setTop (mkF m 196 #[.val (.int p0), .val (.int p1), .val (.int p2), .val (.int p3), .val (.int p4), .val (.int p5), .val (.int 3), .val (.ref b48), .val (.ref b53), .val (.int u142_60)] []))) (fun t k => XS.ifNo X64.here hx rfl (hb hby at_193) rfl (by rw [if0]; exact (feq (by decide : ¬ (1 : Int32) = (0 : Int32))).1) k) ?_
    refine OD.go (B := (T64.setTop (mkF m 198 #[.val (.int p0), .val (.int p1), .val (.int p2), .val (.int p3), .val (.int p4), .val (.int p5), .val (.int 3), .val (.ref b48), .val (.ref b53), .val (.int u142_60)] [(.ref b48)]))) (fun t k => XS.aload X64.here hx rfl (hb hby at_196) rfl rfl k) ?_
    refine OD.go (B := (T64.setTop (mkF m 200 #[.val (.int p0), .val (.int p1), .val (.int p2), .val (.int p3), .val (.int p4), .val (.int p5), .val (.int 3), .val (.ref b48), .val (.ref b53), .val (.int u142_60)] [(.ref b53), (.ref b48)]))) (fun t k => XS.aload X64.here hx rfl (hb hby at_198) rfl rfl k) ?_
    refine OD.go (B := (T64.setTop (mkF m 201 #[.val (.int p0), .val (.int p1), .val (.int p2), .val (.int p3), .val (.int p4), .val (.int p5), .val (.int 3), .val (.ref b48), .val (.ref b53), .val (.int u142_60)] [(.int 3), (.ref b53), (.ref b48)]))) (fun t k => XS.iconst X64.here hx rfl (hb hby at_200) k) ?_
    refine OD.go (B := (T64.setTop (mkF m 203 #[.val (.int p0), .val (.int p1), .val (.int p2), .val (.int p3), .val (.int p4), .val (.int p5), .val (.int 3), .val (.ref b48), .val (.ref b53), .val (.int u142_60)] [(.int 3), (.int 3), (.ref b53), (.ref b48)]))) (fun t k => XS.iload X64.here hx rfl (hb hby at_201) rfl k) ?_
    obtain ⟨_, _, ⟨T65, L65, k65, n65⟩, -, X65, ⟨Lc65, hQ65, l65, y65, z65⟩, st65⟩ := Jvm.LawKit.callS X64 hx (y := (⟨"com/example/topside/topside/DescendingOrderOfPinLaw", "pair", "([D[III)Z"⟩ : MethodName)) hown (mvT hZ (Wd10 hw)) (mvT hZ (Wd11 hw)) (mvT hZ (Wd8 hw)) (mvT hZ (Wd12 hw)) (by decide) (backOf (W := 0) (rmP0 l Z a0 hw [] b48 b53 (3 : Int32) (3 : Int32) T53.heap (by decide)) hZ (Wd12 hw) (Wd8 hw) (by decide) (by decide)) (g := (mkF m 203 #[.val (.int p0), .val (.int p1), .val (.int p2), .val (.int p3), .val (.int p4), .val (.int p5), .val (.int 3), .val (.ref b48), .val (.ref b53), .val (.int u142_60)] [(.int 3), (.int 3), (.ref b53), (.ref b48)])) rfl (by rw [hml]; rfl) (argsL := [(.ref b48), (.ref b53), (.int 3), (.int 3)]) (rest := []) (lenOf pd4 rfl) rfl (by show 2 * 0 + _ ≤ _; exact Nat.le_of_eq rfl) (hb hby at_203) (fun _ _ => ⟨rfl, e64, (Nat.le_of_ble_eq_true rfl), (Nat.le_of_ble_eq_true rfl)⟩)
    dsimp only [Pt.U, Pt.locs, Pt.cells, Pt.slots] at X65 l65 y65 z65 st65 hQ65
    subst l65 y65 z65
    obtain ⟨rfl, rfl, e65⟩ := hQ65
    try rw [List.append_nil] at X65
    refine OD.go (B := (T65.setTop (mkF m 206 #[.val (.int p0), .val (.int p1), .val (.int p2), .val (.int p3), .val (.int p4), .val (.int p5), .val (.int 3), .val (.ref b48), .val (.ref b53), .val (.int u142_60)] [(.int 1)]))) st65 ?_
    refine OD.go (B := (T65.setTop (mkF m 209 #[.val (.int p0), .val (.int p1), .val (.int p2), .val (.int p3), .val (.int p4), .val (.int p5), .val (.int 3), .val (.ref b48), .val (.ref b53), .val (.int u142_60)] []))) (fun t k => XS.ifNo X65.here hx rfl (hb hby at_206) rfl (by rw [if0]; exact (feq (by decide : ¬ (1 : Int32) = (0 : Int32))).1) k) ?_
    refine OD.go (B := (T65.setTop (mkF m 210 #[.val (.int p0), .val (.int p1), .val (.int p2), .val (.int p3), .val (.int p4), .val (.int p5), .val (.int 3), .val (.ref b48), .val (.ref b53), .val (.int u142_60)] [(.int 1)]))) (fun t k => XS.iconst X65.here hx rfl (hb hby at_209) k) ?_
    refine OD.go (B := (T65.setTop (mkF m 214 #[.val (.int p0), .val (.int p1), .val (.int p2), .val (.int p3), .val (.int p4), .val (.int p5), .val (.int 3), .val (.ref b48), .val (.ref b53), .val (.int u142_60)] [(.int 1)]))) (fun t k => XS.goto X65.here hx rfl (pc0 := 210) (pc' := 214) rfl (hb hby at_210) (by decide) (by decide) k) ?_
    exact OD.ret X65 hx hlk (t := .boolean) Bd.returns rfl (Or.inl ⟨rfl, Or.inr (Or.inl rfl), _, rfl⟩) (hb hby at_214) (Nat.le_of_ble_eq_true rfl) (Nat.le_of_ble_eq_true rfl) ⟨rfl, N53⟩
  · subst q6
    refine OD.go (B := (s₁.setTop (mkF m 11 #[.val (.int p0), .val (.int p1), .val (.int p2), .val (.int p3), .val (.int p4), .val (.int p5), .val (.int 4), .unset, .unset, .unset] [(.int 4)]))) (fun t k => XS.iload X0.here hx rfl (hb hby at_9) rfl k) ?_
    obtain ⟨T66, h66, k66, X66, e66, E66, A66, st66⟩ := newP X0 hx hZ (aty := .double) (Wd0 hw) e0 (g := (mkF m 11 #[.val (.int p0), .val (.int p1), .val (.int p2), .val (.int p3), .val (.int p4), .val (.int p5), .val (.int 4), .unset, .unset, .unset] [(.int 4)])) rfl (hb hby at_11) rfl (by decide) (cap := 4) (by decide) (by decide) (Nat.le_of_ble_eq_true rfl) (Nat.le_of_ble_eq_true rfl)
    obtain ⟨b66, g66⟩ : ∃ z, z = h0.size := ⟨_, rfl⟩
    rw [← g66] at A66 st66
    have V66 : Arv Z h66 b66 k66 .double (4 : Int32) [(.double (0 : UInt64)), (.double (0 : UInt64)), (.double (0 : UInt64)), (.double (0 : UInt64))] (.double (0 : UInt64)) := (Arv.new A66 (by decide)).pad (pad_rep [] (.double (0 : UInt64)) 4)
    refine OD.go (B := (T66.setTop (mkF m 13 #[.val (.int p0), .val (.int p1), .val (.int p2), .val (.int p3), .val (.int p4), .val (.int p5), .val (.int 4), .unset, .unset, .unset] [(.ref b66)]))) st66 ?_
    refine OD.go (B := (T66.setTop (mkF m 15 #[.val (.int p0), .val (.int p1), .val (.int p2), .val (.int p3), .val (.int p4), .val (.int p5), .val (.int 4), .val (.ref b66), .unset, .unset] []))) (fun t k => XS.astore X66.here hx rfl (hb hby at_13) rfl rfl (l' := #[.val (.int p0), .val (.int p1), .val (.int p2), .val (.int p3), .val (.int p4), .val (.int p5), .val (.int 4), .val (.ref b66), .unset, .unset]) rfl k) ?_
    refine OD.go (B := (T66.setTop (mkF m 17 #[.val (.int p0), .val (.int p1), .val (.int p2), .val (.int p3), .val (.int p4), .val (.int p5), .val (.int 4), .val (.ref b66), .unset, .unset] [(.int 4)]))) (fun t k => XS.iload X66.here hx rfl (hb hby at_15) rfl k) ?_
    refine OD.go (B := (T66.setTop (mkF m 20 #[.val (.int p0), .val (.int p1), .val (.int p2), .val (.int p3), .val (.int p4), .val (.int p5), .val (.int 4), .val (.ref b66), .unset, .unset] []))) (fun t k => XS.ifNo X66.here hx rfl (hb hby at_17) rfl (by rw [if0]; exact (tlt (by decide : (0 : Int32) < (4 : Int32))).2.2.2) k) ?_
    refine OD.go (B := (T66.setTop (mkF m 22 #[.val (.int p0), .val (.int p1), .val (.int p2), .val (.int p3), .val (.int p4), .val (.int p5), .val (.int 4), .val (.ref b66), .unset, .unset] [(.ref b66)]))) (fun t k => XS.aload X66.here hx rfl (hb hby at_20) rfl rfl k) ?_
    refine OD.go (B := (T66.setTop (mkF m 23 #[.val (.int p0), .val (.int p1), .val (.int p2), .val (.int p3), .val (.int p4), .val (.int p5), .val (.int 4), .val (.ref b66), .unset, .unset] [(.int 0), (.ref b66)]))) (fun t k => XS.iconst X66.here hx rfl (hb hby at_22) k) ?_
    refine OD.go (B := (T66.setTop (mkF m 24 #[.val (.int p0), .val (.int p1), .val (.int p2), .val (.int p3), .val (.int p4), .val (.int p5), .val (.int 4), .val (.ref b66), .unset, .unset] [(.int p1), (.int 0), (.ref b66)]))) (fun t k => XS.iloadN X66.here hx rfl (hb hby at_23) rfl k) ?_
    refine OD.go (B := (T66.setTop (mkF m 25 #[.val (.int p0), .val (.int p1), .val (.int p2), .val (.int p3), .val (.int p4), .val (.int p5), .val (.int 4), .val (.ref b66), .unset, .unset] [(.double (FP.i2d p1)), (.int 0), (.ref b66)]))) (fun t k => XS.i2dS X66.here hx rfl (hb hby at_24) rfl (v := (FP.i2d p1)) rfl k) ?_
    obtain ⟨cl67, Ar67, q67, S67, M67, H67, G67⟩ := id V66
    obtain ⟨T67, h67, X67, e67, W67, st67⟩ := stD X66 hx hZ e66 Ar67 (j := (0 : Int32)) (inb_of S67 ⟨by decide, by decide⟩) (g := (mkF m 25 #[.val (.int p0), .val (.int p1), .val (.int p2), .val (.int p3), .val (.int p4), .val (.int p5), .val (.int 4), .val (.ref b66), .unset, .unset] [(.double (FP.i2d p1)), (.int 0), (.ref b66)])) rfl rfl (hb hby at_25)
    have V67 : Arv Z h67 b66 k66 .double (4 : Int32) [(.double (FP.i2d p1)), (.double (0 : UInt64)), (.double (0 : UInt64)), (.double (0 : UInt64))] (.double (0 : UInt64)) := Arv.set Ar67 q67 S67 M67 H67 G67 rfl W67 0 rfl (Nat.le_of_ble_eq_true rfl)
    have N67 := Fr.snoc X67 N0 (Nat.le_trans (Nat.le_refl _) (Nat.le_of_eq g66.symm))
    refine OD.go (B := (T67.setTop (mkF m 26 #[.val (.int p0), .val (.int p1), .val (.int p2), .val (.int p3), .val (.int p4), .val (.int p5), .val (.int 4), .val (.ref b66), .unset, .unset] []))) st67 ?_
    refine OD.go (B := (T67.setTop (mkF m 28 #[.val (.int p0), .val (.int p1), .val (.int p2), .val (.int p3), .val (.int p4), .val (.int p5), .val (.int 4), .val (.ref b66), .unset, .unset] [(.int 4)]))) (fun t k => XS.iload X67.here hx rfl (hb hby at_26) rfl k) ?_
    refine OD.go (B := (T67.setTop (mkF m 29 #[.val (.int p0), .val (.int p1), .val (.int p2), .val (.int p3), .val (.int p4), .val (.int p5), .val (.int 4), .val (.ref b66), .unset, .unset] [(.int 1), (.int 4)]))) (fun t k => XS.iconst X67.here hx rfl (hb hby at_28) k) ?_
    refine OD.go (B := (T67.setTop (mkF m 32 #[.val (.int p0), .val (.int p1), .val (.int p2), .val (.int p3), .val (.int p4), .val (.int p5), .val (.int 4), .val (.ref b66), .unset, .unset] []))) (fun t k => XS.icmpNo X67.here hx rfl (hb hby at_29) rfl (tlt (by decide : (1 : Int32) < (4 : Int32))).2.2.2 k) ?_
    refine OD.go (B := (T67.setTop (mkF m 34 #[.val (.int p0), .val (.int p1), .val (.int p2), .val (.int p3), .val (.int p4), .val (.int p5), .val (.int 4), .val (.ref b66), .unset, .unset] [(.ref b66)]))) (fun t k => XS.aload X67.here hx rfl (hb hby at_32) rfl rfl k) ?_
    refine OD.go (B := (T67.setTop (mkF m 35 #[.val (.int p0), .val (.int p1), .val (.int p2), .val (.int p3), .val (.int p4), .val (.int p5), .val (.int 4), .val (.ref b66), .unset, .unset] [(.int 1), (.ref b66)]))) (fun t k => XS.iconst X67.here hx rfl (hb hby at_34) k) ?_
    refine OD.go (B := (T67.setTop (mkF m 36 #[.val (.int p0), .val (.int p1), .val (.int p2), .val (.int p3), .val (.int p4), .val (.int p5), .val (.int 4), .val (.ref b66), .unset, .unset] [(.int p2), (.int 1), (.ref b66)]))) (fun t k => XS.iloadN X67.here hx rfl (hb hby at_35) rfl k) ?_
    refine OD.go (B := (T67.setTop (mkF m 37 #[.val (.int p0), .val (.int p1), .val (.int p2), .val (.int p3), .val (.int p4), .val (.int p5), .val (.int 4), .val (.ref b66), .unset, .unset] [(.double (FP.i2d p2)), (.int 1), (.ref b66)]))) (fun t k => XS.i2dS X67.here hx rfl (hb hby at_36) rfl (v := (FP.i2d p2)) rfl k) ?_
    obtain ⟨cl68, Ar68, q68, S68, M68, H68, G68⟩ := id V67
    obtain ⟨T68, h68, X68, e68, W68, st68⟩ := stD X67 hx hZ e67 Ar68 (j := (1 : Int32)) (inb_of S68 ⟨by decide, by decide⟩) (g := (mkF m 37 #[.val (.int p0), .val (.int p1), .val (.int p2), .val (.int p3), .val (.int p4), .val (.int p5), .val (.int 4), .val (.ref b66), .unset, .unset] [(.double (FP.i2d p2)), (.int 1), (.ref b66)])) rfl rfl (hb hby at_37)
    have V68 : Arv Z h68 b66 k66 .double (4 : Int32) [(.double (FP.i2d p1)), (.double (FP.i2d p2)), (.double (0 : UInt64)), (.double (0 : UInt64))] (.double (0 : UInt64)) := Arv.set Ar68 q68 S68 M68 H68 G68 rfl W68 1 rfl (Nat.le_of_ble_eq_true rfl)
    have N68 := Fr.snoc X68 N67 (Nat.le_trans (Nat.le_refl _) (Nat.le_of_eq g66.symm))
    refine OD.go (B := (T68.setTop (mkF m 38 #[.val (.int p0), .val (.int p1), .val (.int p2), .val (.int p3), .val (.int p4), .val (.int p5), .val (.int 4), .val (.ref b66), .unset, .unset] []))) st68 ?_
    refine OD.go (B := (T68.setTop (mkF m 40 #[.val (.int p0), .val (.int p1), .val (.int p2), .val (.int p3), .val (.int p4), .val (.int p5), .val (.int 4), .val (.ref b66), .unset, .unset] [(.int 4)]))) (fun t k => XS.iload X68.here hx rfl (hb hby at_38) rfl k) ?_
    refine OD.go (B := (T68.setTop (mkF m 41 #[.val (.int p0), .val (.int p1), .val (.int p2), .val (.int p3), .val (.int p4), .val (.int p5), .val (.int 4), .val (.ref b66), .unset, .unset] [(.int 2), (.int 4)]))) (fun t k => XS.iconst X68.here hx rfl (hb hby at_40) k) ?_
    refine OD.go (B := (T68.setTop (mkF m 44 #[.val (.int p0), .val (.int p1), .val (.int p2), .val (.int p3), .val (.int p4), .val (.int p5), .val (.int 4), .val (.ref b66), .unset, .unset] []))) (fun t k => XS.icmpNo X68.here hx rfl (hb hby at_41) rfl (tlt (by decide : (2 : Int32) < (4 : Int32))).2.2.2 k) ?_
    refine OD.go (B := (T68.setTop (mkF m 46 #[.val (.int p0), .val (.int p1), .val (.int p2), .val (.int p3), .val (.int p4), .val (.int p5), .val (.int 4), .val (.ref b66), .unset, .unset] [(.ref b66)]))) (fun t k => XS.aload X68.here hx rfl (hb hby at_44) rfl rfl k) ?_
    refine OD.go (B := (T68.setTop (mkF m 47 #[.val (.int p0), .val (.int p1), .val (.int p2), .val (.int p3), .val (.int p4), .val (.int p5), .val (.int 4), .val (.ref b66), .unset, .unset] [(.int 2), (.ref b66)]))) (fun t k => XS.iconst X68.here hx rfl (hb hby at_46) k) ?_
    refine OD.go (B := (T68.setTop (mkF m 48 #[.val (.int p0), .val (.int p1), .val (.int p2), .val (.int p3), .val (.int p4), .val (.int p5), .val (.int 4), .val (.ref b66), .unset, .unset] [(.int p3), (.int 2), (.ref b66)]))) (fun t k => XS.iloadN X68.here hx rfl (hb hby at_47) rfl k) ?_
    refine OD.go (B := (T68.setTop (mkF m 49 #[.val (.int p0), .val (.int p1), .val (.int p2), .val (.int p3), .val (.int p4), .val (.int p5), .val (.int 4), .val (.ref b66), .unset, .unset] [(.double (FP.i2d p3)), (.int 2), (.ref b66)]))) (fun t k => XS.i2dS X68.here hx rfl (hb hby at_48) rfl (v := (FP.i2d p3)) rfl k) ?_
    obtain ⟨cl69, Ar69, q69, S69, M69, H69, G69⟩ := id V68
    obtain ⟨T69, h69, X69, e69, W69, st69⟩ := stD X68 hx hZ e68 Ar69 (j := (2 : Int32)) (inb_of S69 ⟨by decide, by decide⟩) (g := (mkF m 49 #[.val (.int p0), .val (.int p1), .val (.int p2), .val (.int p3), .val (.int p4), .val (.int p5), .val (.int 4), .val (.ref b66), .unset, .unset] [(.double (FP.i2d p3)), (.int 2), (.ref b66)])) rfl rfl (hb hby at_49)
    have V69 : Arv Z h69 b66 k66 .double (4 : Int32) [(.double (FP.i2d p1)), (.double (FP.i2d p2)), (.double (FP.i2d p3)), (.double (0 : UInt64))] (.double (0 : UInt64)) := Arv.set Ar69 q69 S69 M69 H69 G69 rfl W69 2 rfl (Nat.le_of_ble_eq_true rfl)
    have N69 := Fr.snoc X69 N68 (Nat.le_trans (Nat.le_refl _) (Nat.le_of_eq g66.symm))
    refine OD.go (B := (T69.setTop (mkF m 50 #[.val (.int p0), .val (.int p1), .val (.int p2), .val (.int p3), .val (.int p4), .val (.int p5), .val (.int 4), .val (.ref b66), .unset, .unset] []))) st69 ?_
    refine OD.go (B := (T69.setTop (mkF m 52 #[.val (.int p0), .val (.int p1), .val (.int p2), .val (.int p3), .val (.int p4), .val (.int p5), .val (.int 4), .val (.ref b66), .unset, .unset] [(.int 4)]))) (fun t k => XS.iload X69.here hx rfl (hb hby at_50) rfl k) ?_
    refine OD.go (B := (T69.setTop (mkF m 53 #[.val (.int p0), .val (.int p1), .val (.int p2), .val (.int p3), .val (.int p4), .val (.int p5), .val (.int 4), .val (.ref b66), .unset, .unset] [(.int 3), (.int 4)]))) (fun t k => XS.iconst X69.here hx rfl (hb hby at_52) k) ?_
    refine OD.go (B := (T69.setTop (mkF m 56 #[.val (.int p0), .val (.int p1), .val (.int p2), .val (.int p3), .val (.int p4), .val (.int p5), .val (.int 4), .val (.ref b66), .unset, .unset] []))) (fun t k => XS.icmpNo X69.here hx rfl (hb hby at_53) rfl (tlt (by decide : (3 : Int32) < (4 : Int32))).2.2.2 k) ?_
    refine OD.go (B := (T69.setTop (mkF m 58 #[.val (.int p0), .val (.int p1), .val (.int p2), .val (.int p3), .val (.int p4), .val (.int p5), .val (.int 4), .val (.ref b66), .unset, .unset] [(.ref b66)]))) (fun t k => XS.aload X69.here hx rfl (hb hby at_56) rfl rfl k) ?_
    refine OD.go (B := (T69.setTop (mkF m 59 #[.val (.int p0), .val (.int p1), .val (.int p2), .val (.int p3), .val (.int p4), .val (.int p5), .val (.int 4), .val (.ref b66), .unset, .unset] [(.int 3), (.ref b66)]))) (fun t k => XS.iconst X69.here hx rfl (hb hby at_58) k) ?_
    refine OD.go (B := (T69.setTop (mkF m 61 #[.val (.int p0), .val (.int p1), .val (.int p2), .val (.int p3), .val (.int p4), .val (.int p5), .val (.int 4), .val (.ref b66), .unset, .unset] [(.int p4), (.int 3), (.ref b66)]))) (fun t k => XS.iload X69.here hx rfl (hb hby at_59) rfl k) ?_
    refine OD.go (B := (T69.setTop (mkF m 62 #[.val (.int p0), .val (.int p1), .val (.int p2), .val (.int p3), .val (.int p4), .val (.int p5), .val (.int 4), .val (.ref b66), .unset, .unset] [(.double (FP.i2d p4)), (.int 3), (.ref b66)]))) (fun t k => XS.i2dS X69.here hx rfl (hb hby at_61) rfl (v := (FP.i2d p4)) rfl k) ?_
    obtain ⟨cl70, Ar70, q70, S70, M70, H70, G70⟩ := id V69
    obtain ⟨T70, h70, X70, e70, W70, st70⟩ := stD X69 hx hZ e69 Ar70 (j := (3 : Int32)) (inb_of S70 ⟨by decide, by decide⟩) (g := (mkF m 62 #[.val (.int p0), .val (.int p1), .val (.int p2), .val (.int p3), .val (.int p4), .val (.int p5), .val (.int 4), .val (.ref b66), .unset, .unset] [(.double (FP.i2d p4)), (.int 3), (.ref b66)])) rfl rfl (hb hby at_62)
    have V70 : Arv Z h70 b66 k66 .double (4 : Int32) [(.double (FP.i2d p1)), (.double (FP.i2d p2)), (.double (FP.i2d p3)), (.double (FP.i2d p4))] (.double (0 : UInt64)) := Arv.set Ar70 q70 S70 M70 H70 G70 rfl W70 3 rfl (Nat.le_of_ble_eq_true rfl)
    have N70 := Fr.snoc X70 N69 (Nat.le_trans (Nat.le_refl _) (Nat.le_of_eq g66.symm))
    refine OD.go (B := (T70.setTop (mkF m 63 #[.val (.int p0), .val (.int p1), .val (.int p2), .val (.int p3), .val (.int p4), .val (.int p5), .val (.int 4), .val (.ref b66), .unset, .unset] []))) st70 ?_
    refine OD.go (B := (T70.setTop (mkF m 65 #[.val (.int p0), .val (.int p1), .val (.int p2), .val (.int p3), .val (.int p4), .val (.int p5), .val (.int 4), .val (.ref b66), .unset, .unset] [(.int 4)]))) (fun t k => XS.iload X70.here hx rfl (hb hby at_63) rfl k) ?_
    refine OD.go (B := (T70.setTop (mkF m 66 #[.val (.int p0), .val (.int p1), .val (.int p2), .val (.int p3), .val (.int p4), .val (.int p5), .val (.int 4), .val (.ref b66), .unset, .unset] [(.int 4), (.int 4)]))) (fun t k => XS.iconst X70.here hx rfl (hb hby at_65) k) ?_
    refine OD.go (B := (T70.setTop (mkF m 76 #[.val (.int p0), .val (.int p1), .val (.int p2), .val (.int p3), .val (.int p4), .val (.int p5), .val (.int 4), .val (.ref b66), .unset, .unset] []))) (fun t k => XS.icmpYes X70.here hx rfl (pc0 := 66) (pc' := 76) rfl (hb hby at_66) rfl (flt (by decide : ¬ (4 : Int32) < (4 : Int32))).2.2.2 (by decide) (by decide) k) ?_
    refine OD.go (B := (T70.setTop (mkF m 78 #[.val (.int p0), .val (.int p1), .val (.int p2), .val (.int p3), .val (.int p4), .val (.int p5), .val (.int 4), .val (.ref b66), .unset, .unset] [(.ref b66)]))) (fun t k => XS.aload X70.here hx rfl (hb hby at_76) rfl rfl k) ?_
    have Vf71 : Arv Z h70 b66 k66 .double (4 : Int32) (own_rg (4 : Int32).toNatClampNeg (fun x => .double (sv0 x))) (.double 0) := by rw [hsv]; exact V70
    obtain ⟨_, _, ⟨T72, L72, k72, n72⟩, -, X72, ⟨Lc72, hQ72, l72, y72, z72⟩, st72⟩ := Jvm.LawKit.callS X70 hx (y := (⟨"com/example/topside/topside/DescendingOrder", "of", "([D)[I"⟩ : MethodName)) hown (mvT hZ (Wd1 hw)) (mvT hZ (Wd2 hw)) (mvT hZ (Wd3 hw)) (mvT hZ (Wd4 hw)) (by decide) (backOf (W := 0) (rmO4 l Z a0 hw [] b66 h70 h0.size (Nat.le_trans (Nat.le_trans (Nat.le_trans (Nat.le_trans (Nat.le_trans (Nat.le_refl _) E66.1) (Keep.of_wr W67).1) (Keep.of_wr W68).1) (Keep.of_wr W69).1) (Keep.of_wr W70).1) k66 sv0 Vf71) hZ (Wd4 hw) (Wd3 hw) (by decide) (by decide)) (g := (mkF m 78 #[.val (.int p0), .val (.int p1), .val (.int p2), .val (.int p3), .val (.int p4), .val (.int p5), .val (.int 4), .val (.ref b66), .unset, .unset] [(.ref b66)])) rfl (by rw [hml]; rfl) (argsL := [(.ref b66)]) (rest := []) (lenOf pd2 rfl) rfl (by show 2 * 0 + _ ≤ _; exact Nat.le_of_eq rfl) (hb hby at_78) (fun _ _ => ⟨rfl, e70, (Nat.le_of_ble_eq_true rfl), (Nat.le_of_ble_eq_true rfl)⟩)
    dsimp only [Pt.U, Pt.locs, Pt.cells, Pt.slots] at X72 l72 y72 z72 st72 hQ72
    subst l72 y72 z72
    obtain ⟨b72, k72', rfl, Nq72, K72, ob72, A72⟩ := hQ72
    have N72 := Fr.app N70 Nq72
    refine OD.go (B := (T72.setTop (mkF m 81 #[.val (.int p0), .val (.int p1), .val (.int p2), .val (.int p3), .val (.int p4), .val (.int p5), .val (.int 4), .val (.ref b66), .unset, .unset] [(.ref b72)]))) st72 ?_
    refine OD.go (B := (T72.setTop (mkF m 83 #[.val (.int p0), .val (.int p1), .val (.int p2), .val (.int p3), .val (.int p4), .val (.int p5), .val (.int 4), .val (.ref b66), .val (.ref b72), .unset] []))) (fun t k => XS.astore X72.here hx rfl (hb hby at_81) rfl rfl (l' := #[.val (.int p0), .val (.int p1), .val (.int p2), .val (.int p3), .val (.int p4), .val (.int p5), .val (.int 4), .val (.ref b66), .val (.ref b72), .unset]) rfl k) ?_
    refine OD.go (B := (T72.setTop (mkF m 85 #[.val (.int p0), .val (.int p1), .val (.int p2), .val (.int p3), .val (.int p4), .val (.int p5), .val (.int 4), .val (.ref b66), .val (.ref b72), .unset] [(.ref b72)]))) (fun t k => XS.aload X72.here hx rfl (hb hby at_83) rfl rfl k) ?_
    refine OD.go (B := (T72.setTop (mkF m 88 #[.val (.int p0), .val (.int p1), .val (.int p2), .val (.int p3), .val (.int p4), .val (.int p5), .val (.int 4), .val (.ref b66), .val (.ref b72), .unset] []))) (fun t k => XS.ifnullNo X72.here hx rfl (hb hby at_85) rfl k) ?_
    refine OD.go (B := (T72.setTop (mkF m 90 #[.val (.int p0), .val (.int p1), .val (.int p2), .val (.int p3), .val (.int p4), .val (.int p5), .val (.int 4), .val (.ref b66), .val (.ref b72), .unset] [(.ref b72)]))) (fun t k => XS.aload X72.here hx rfl (hb hby at_88) rfl rfl k) ?_
    obtain ⟨cl73, Ar73, hl73⟩ := own_len A72
    refine OD.go (B := (T72.setTop (mkF m 91 #[.val (.int p0), .val (.int p1), .val (.int p2), .val (.int p3), .val (.int p4), .val (.int p5), .val (.int 4), .val (.ref b66), .val (.ref b72), .unset] [(.int 4)]))) (fun t k => X72.arraylength hx (by exact Ar73.1) (State.isArrayOf_alike hZ.alike Ar73.2.1) (g := (mkF m 90 #[.val (.int p0), .val (.int p1), .val (.int p2), .val (.int p3), .val (.int p4), .val (.int p5), .val (.int 4), .val (.ref b66), .val (.ref b72), .unset] [(.ref b72)])) rfl rfl (hb hby at_90) _ (by rw [hl73]; exact k)) ?_
    refine OD.go (B := (T72.setTop (mkF m 93 #[.val (.int p0), .val (.int p1), .val (.int p2), .val (.int p3), .val (.int p4), .val (.int p5), .val (.int 4), .val (.ref b66), .val (.ref b72), .unset] [(.int 4), (.int 4)]))) (fun t k => XS.iload X72.here hx rfl (hb hby at_91) rfl k) ?_
    refine OD.go (B := (T72.setTop (mkF m 98 #[.val (.int p0), .val (.int p1), .val (.int p2), .val (.int p3), .val (.int p4), .val (.int p5), .val (.int 4), .val (.ref b66), .val (.ref b72), .unset] []))) (fun t k => XS.icmpYes X72.here hx rfl (pc0 := 93) (pc' := 98) rfl (hb hby at_93) rfl (teq (by decide : (4 : Int32) = (4 : Int32))).1 (by decide) (by decide) k) ?_
    refine OD.go (B := (T72.setTop (mkF m 100 #[.val (.int p0), .val (.int p1), .val (.int p2), .val (.int p3), .val (.int p4), .val (.int p5), .val (.int 4), .val (.ref b66), .val (.ref b72), .unset] [(.ref b72)]))) (fun t k => XS.aload X72.here hx rfl (hb hby at_98) rfl rfl k) ?_
    refine OD.go (B := (T72.setTop (mkF m 101 #[.val (.int p0), .val (.int p1), .val (.int p2), .val (.int p3), .val (.int p4), .val (.int p5), .val (.int 4), .val (.ref b66), .val (.ref b72), .unset] [(.int 0), (.ref b72)]))) (fun t k => XS.iconst X72.here hx rfl (hb hby at_100) k) ?_
    refine OD.go (B := (T72.setTop (mkF m 103 #[.val (.int p0), .val (.int p1), .val (.int p2), .val (.int p3), .val (.int p4), .val (.int p5), .val (.int 4), .val (.ref b66), .val (.ref b72), .unset] [(.int 4), (.int 0), (.ref b72)]))) (fun t k => XS.iload X72.here hx rfl (hb hby at_101) rfl k) ?_
    obtain ⟨_, _, ⟨T74, L74, k74, n74⟩, -, X74, ⟨Lc74, hQ74, l74, y74, z74⟩, st74⟩ := Jvm.LawKit.callS X72 hx (y := (⟨"com/example/topside/topside/DescendingOrderOfPinLaw", "bit", "([III)I"⟩ : MethodName)) hown (mvT hZ (Wd6 hw)) (mvT hZ (Wd7 hw)) (mvT hZ (Wd8 hw)) (mvT hZ (Wd9 hw)) (by decide) (backOf (W := 0) (rmB1 l Z a0 hw [] b72 (0 : Int32) (4 : Int32) T72.heap k72' (own_m4_2 sv0) A72 ⟨by decide, by decide⟩ (own_m4_2_b sv0)) hZ (Wd9 hw) (Wd8 hw) (by decide) (by decide)) (g := (mkF m 103 #[.val (.int p0), .val (.int p1), .val (.int p2), .val (.int p3), .val (.int p4), .val (.int p5), .val (.int 4), .val (.ref b66), .val (.ref b72), .unset] [(.int 4), (.int 0), (.ref b72)])) rfl (by rw [hml]; rfl) (argsL := [(.ref b72), (.int 0), (.int 4)]) (rest := []) (lenOf pd3 rfl) rfl (by show 2 * 0 + _ ≤ _; exact Nat.le_of_eq rfl) (hb hby at_103) (fun _ _ => ⟨rfl, rfl, (Nat.le_of_ble_eq_true rfl), (Nat.le_of_ble_eq_true rfl)⟩)
    dsimp only [Pt.U, Pt.locs, Pt.cells, Pt.slots] at X74 l74 y74 z74 st74 hQ74
    subst l74 y74 z74
    obtain ⟨rfl, rfl, e74⟩ := hQ74
    try rw [List.append_nil] at X74
    refine OD.go (B := (T74.setTop (mkF m 106 #[.val (.int p0), .val (.int p1), .val (.int p2), .val (.int p3), .val (.int p4), .val (.int p5), .val (.int 4), .val (.ref b66), .val (.ref b72), .unset] [(.int ((1 : Int32) <<< (((own_m4_2 sv0) (0 : Int32)) &&& 31)))]))) st74 ?_
    refine OD.go (B := (T74.setTop (mkF m 108 #[.val (.int p0), .val (.int p1), .val (.int p2), .val (.int p3), .val (.int p4), .val (.int p5), .val (.int 4), .val (.ref b66), .val (.ref b72), .unset] [(.ref b72), (.int ((1 : Int32) <<< (((own_m4_2 sv0) (0 : Int32)) &&& 31)))]))) (fun t k => XS.aload X74.here hx rfl (hb hby at_106) rfl rfl k) ?_
    refine OD.go (B := (T74.setTop (mkF m 109 #[.val (.int p0), .val (.int p1), .val (.int p2), .val (.int p3), .val (.int p4), .val (.int p5), .val (.int 4), .val (.ref b66), .val (.ref b72), .unset] [(.int 1), (.ref b72), (.int ((1 : Int32) <<< (((own_m4_2 sv0) (0 : Int32)) &&& 31)))]))) (fun t k => XS.iconst X74.here hx rfl (hb hby at_108) k) ?_
    refine OD.go (B := (T74.setTop (mkF m 111 #[.val (.int p0), .val (.int p1), .val (.int p2), .val (.int p3), .val (.int p4), .val (.int p5), .val (.int 4), .val (.ref b66), .val (.ref b72), .unset] [(.int 4), (.int 1), (.ref b72), (.int ((1 : Int32) <<< (((own_m4_2 sv0) (0 : Int32)) &&& 31)))]))) (fun t k => XS.iload X74.here hx rfl (hb hby at_109) rfl k) ?_
    obtain ⟨_, _, ⟨T75, L75, k75, n75⟩, -, X75, ⟨Lc75, hQ75, l75, y75, z75⟩, st75⟩ := Jvm.LawKit.callS X74 hx (y := (⟨"com/example/topside/topside/DescendingOrderOfPinLaw", "bit", "([III)I"⟩ : MethodName)) hown (mvT hZ (Wd6 hw)) (mvT hZ (Wd7 hw)) (mvT hZ (Wd8 hw)) (mvT hZ (Wd9 hw)) (by decide) (backOf (W := 1) (rmB1 l Z a0 hw [] b72 (1 : Int32) (4 : Int32) T72.heap k72' (own_m4_2 sv0) A72 ⟨by decide, by decide⟩ (own_m4_2_b sv0)) hZ (Wd9 hw) (Wd8 hw) (by decide) (by decide)) (g := (mkF m 111 #[.val (.int p0), .val (.int p1), .val (.int p2), .val (.int p3), .val (.int p4), .val (.int p5), .val (.int 4), .val (.ref b66), .val (.ref b72), .unset] [(.int 4), (.int 1), (.ref b72), (.int ((1 : Int32) <<< (((own_m4_2 sv0) (0 : Int32)) &&& 31)))])) rfl (by rw [hml]; rfl) (argsL := [(.ref b72), (.int 1), (.int 4)]) (rest := [(.int ((1 : Int32) <<< (((own_m4_2 sv0) (0 : Int32)) &&& 31)))]) (lenOf pd3 rfl) rfl (by show 2 * 0 + _ ≤ _; exact Nat.le_of_eq rfl) (hb hby at_111) (fun _ _ => ⟨rfl, e74, (Nat.le_of_ble_eq_true rfl), (Nat.le_of_ble_eq_true rfl)⟩)
    dsimp only [Pt.U, Pt.locs, Pt.cells, Pt.slots] at X75 l75 y75 z75 st75 hQ75
    subst l75 y75 z75
    obtain ⟨rfl, rfl, e75⟩ := hQ75
    try rw [List.append_nil] at X75
    refine OD.go (B := (T75.setTop (mkF m 114 #[.val (.int p0), .val (.int p1), .val (.int p2), .val (.int p3), .val (.int p4), .val (.int p5), .val (.int 4), .val (.ref b66), .val (.ref b72), .unset] [(.int ((1 : Int32) <<< (((own_m4_2 sv0) (1 : Int32)) &&& 31))), (.int ((1 : Int32) <<< (((own_m4_2 sv0) (0 : Int32)) &&& 31)))]))) st75 ?_
    refine OD.go (B := (T75.setTop (mkF m 115 #[.val (.int p0), .val (.int p1), .val (.int p2), .val (.int p3), .val (.int p4), .val (.int p5), .val (.int 4), .val (.ref b66), .val (.ref b72), .unset] [(.int (((1 : Int32) <<< (((own_m4_2 sv0) (0 : Int32)) &&& 31)) ||| ((1 : Int32) <<< (((own_m4_2 sv0) (1 : Int32)) &&& 31))))]))) (fun t k => XS.ior X75.here hx rfl (hb hby at_114) rfl k) ?_
    refine OD.go (B := (T75.setTop (mkF m 117 #[.val (.int p0), .val (.int p1), .val (.int p2), .val (.int p3), .val (.int p4), .val (.int p5), .val (.int 4), .val (.ref b66), .val (.ref b72), .unset] [(.ref b72), (.int (((1 : Int32) <<< (((own_m4_2 sv0) (0 : Int32)) &&& 31)) ||| ((1 : Int32) <<< (((own_m4_2 sv0) (1 : Int32)) &&& 31))))]))) (fun t k => XS.aload X75.here hx rfl (hb hby at_115) rfl rfl k) ?_
    refine OD.go (B := (T75.setTop (mkF m 118 #[.val (.int p0), .val (.int p1), .val (.int p2), .val (.int p3), .val (.int p4), .val (.int p5), .val (.int 4), .val (.ref b66), .val (.ref b72), .unset] [(.int 2), (.ref b72), (.int (((1 : Int32) <<< (((own_m4_2 sv0) (0 : Int32)) &&& 31)) ||| ((1 : Int32) <<< (((own_m4_2 sv0) (1 : Int32)) &&& 31))))]))) (fun t k => XS.iconst X75.here hx rfl (hb hby at_117) k) ?_
    refine OD.go (B := (T75.setTop (mkF m 120 #[.val (.int p0), .val (.int p1), .val (.int p2), .val (.int p3), .val (.int p4), .val (.int p5), .val (.int 4), .val (.ref b66), .val (.ref b72), .unset] [(.int 4), (.int 2), (.ref b72), (.int (((1 : Int32) <<< (((own_m4_2 sv0) (0 : Int32)) &&& 31)) ||| ((1 : Int32) <<< (((own_m4_2 sv0) (1 : Int32)) &&& 31))))]))) (fun t k => XS.iload X75.here hx rfl (hb hby at_118) rfl k) ?_
    obtain ⟨_, _, ⟨T76, L76, k76, n76⟩, -, X76, ⟨Lc76, hQ76, l76, y76, z76⟩, st76⟩ := Jvm.LawKit.callS X75 hx (y := (⟨"com/example/topside/topside/DescendingOrderOfPinLaw", "bit", "([III)I"⟩ : MethodName)) hown (mvT hZ (Wd6 hw)) (mvT hZ (Wd7 hw)) (mvT hZ (Wd8 hw)) (mvT hZ (Wd9 hw)) (by decide) (backOf (W := 1) (rmB1 l Z a0 hw [] b72 (2 : Int32) (4 : Int32) T72.heap k72' (own_m4_2 sv0) A72 ⟨by decide, by decide⟩ (own_m4_2_b sv0)) hZ (Wd9 hw) (Wd8 hw) (by decide) (by decide)) (g := (mkF m 120 #[.val (.int p0), .val (.int p1), .val (.int p2), .val (.int p3), .val (.int p4), .val (.int p5), .val (.int 4), .val (.ref b66), .val (.ref b72), .unset] [(.int 4), (.int 2), (.ref b72), (.int (((1 : Int32) <<< (((own_m4_2 sv0) (0 : Int32)) &&& 31)) ||| ((1 : Int32) <<< (((own_m4_2 sv0) (1 : Int32)) &&& 31))))])) rfl (by rw [hml]; rfl) (argsL := [(.ref b72), (.int 2), (.int 4)]) (rest := [(.int (((1 : Int32) <<< (((own_m4_2 sv0) (0 : Int32)) &&& 31)) ||| ((1 : Int32) <<< (((own_m4_2 sv0) (1 : Int32)) &&& 31))))]) (lenOf pd3 rfl) rfl (by show 2 * 0 + _ ≤ _; exact Nat.le_of_eq rfl) (hb hby at_120) (fun _ _ => ⟨rfl, e75, (Nat.le_of_ble_eq_true rfl), (Nat.le_of_ble_eq_true rfl)⟩)
    dsimp only [Pt.U, Pt.locs, Pt.cells, Pt.slots] at X76 l76 y76 z76 st76 hQ76
    subst l76 y76 z76
    obtain ⟨rfl, rfl, e76⟩ := hQ76
    try rw [List.append_nil] at X76
    refine OD.go (B := (T76.setTop (mkF m 123 #[.val (.int p0), .val (.int p1), .val (.int p2), .val (.int p3), .val (.int p4), .val (.int p5), .val (.int 4), .val (.ref b66), .val (.ref b72), .unset] [(.int ((1 : Int32) <<< (((own_m4_2 sv0) (2 : Int32)) &&& 31))), (.int (((1 : Int32) <<< (((own_m4_2 sv0) (0 : Int32)) &&& 31)) ||| ((1 : Int32) <<< (((own_m4_2 sv0) (1 : Int32)) &&& 31))))]))) st76 ?_
    refine OD.go (B := (T76.setTop (mkF m 124 #[.val (.int p0), .val (.int p1), .val (.int p2), .val (.int p3), .val (.int p4), .val (.int p5), .val (.int 4), .val (.ref b66), .val (.ref b72), .unset] [(.int ((((1 : Int32) <<< (((own_m4_2 sv0) (0 : Int32)) &&& 31)) ||| ((1 : Int32) <<< (((own_m4_2 sv0) (1 : Int32)) &&& 31))) ||| ((1 : Int32) <<< (((own_m4_2 sv0) (2 : Int32)) &&& 31))))]))) (fun t k => XS.ior X76.here hx rfl (hb hby at_123) rfl k) ?_
    refine OD.go (B := (T76.setTop (mkF m 126 #[.val (.int p0), .val (.int p1), .val (.int p2), .val (.int p3), .val (.int p4), .val (.int p5), .val (.int 4), .val (.ref b66), .val (.ref b72), .unset] [(.ref b72), (.int ((((1 : Int32) <<< (((own_m4_2 sv0) (0 : Int32)) &&& 31)) ||| ((1 : Int32) <<< (((own_m4_2 sv0) (1 : Int32)) &&& 31))) ||| ((1 : Int32) <<< (((own_m4_2 sv0) (2 : Int32)) &&& 31))))]))) (fun t k => XS.aload X76.here hx rfl (hb hby at_124) rfl rfl k) ?_
    refine OD.go (B := (T76.setTop (mkF m 127 #[.val (.int p0), .val (.int p1), .val (.int p2), .val (.int p3), .val (.int p4), .val (.int p5), .val (.int 4), .val (.ref b66), .val (.ref b72), .unset] [(.int 3), (.ref b72), (.int ((((1 : Int32) <<< (((own_m4_2 sv0) (0 : Int32)) &&& 31)) ||| ((1 : Int32) <<< (((own_m4_2 sv0) (1 : Int32)) &&& 31))) ||| ((1 : Int32) <<< (((own_m4_2 sv0) (2 : Int32)) &&& 31))))]))) (fun t k => XS.iconst X76.here hx rfl (hb hby at_126) k) ?_
    refine OD.go (B := (T76.setTop (mkF m 129 #[.val (.int p0), .val (.int p1), .val (.int p2), .val (.int p3), .val (.int p4), .val (.int p5), .val (.int 4), .val (.ref b66), .val (.ref b72), .unset] [(.int 4), (.int 3), (.ref b72), (.int ((((1 : Int32) <<< (((own_m4_2 sv0) (0 : Int32)) &&& 31)) ||| ((1 : Int32) <<< (((own_m4_2 sv0) (1 : Int32)) &&& 31))) ||| ((1 : Int32) <<< (((own_m4_2 sv0) (2 : Int32)) &&& 31))))]))) (fun t k => XS.iload X76.here hx rfl (hb hby at_127) rfl k) ?_
    obtain ⟨_, _, ⟨T77, L77, k77, n77⟩, -, X77, ⟨Lc77, hQ77, l77, y77, z77⟩, st77⟩ := Jvm.LawKit.callS X76 hx (y := (⟨"com/example/topside/topside/DescendingOrderOfPinLaw", "bit", "([III)I"⟩ : MethodName)) hown (mvT hZ (Wd6 hw)) (mvT hZ (Wd7 hw)) (mvT hZ (Wd8 hw)) (mvT hZ (Wd9 hw)) (by decide) (backOf (W := 1) (rmB1 l Z a0 hw [] b72 (3 : Int32) (4 : Int32) T72.heap k72' (own_m4_2 sv0) A72 ⟨by decide, by decide⟩ (own_m4_2_b sv0)) hZ (Wd9 hw) (Wd8 hw) (by decide) (by decide)) (g := (mkF m 129 #[.val (.int p0), .val (.int p1), .val (.int p2), .val (.int p3), .val (.int p4), .val (.int p5), .val (.int 4), .val (.ref b66), .val (.ref b72), .unset] [(.int 4), (.int 3), (.ref b72), (.int ((((1 : Int32) <<< (((own_m4_2 sv0) (0 : Int32)) &&& 31)) ||| ((1 : Int32) <<< (((own_m4_2 sv0) (1 : Int32)) &&& 31))) ||| ((1 : Int32) <<< (((own_m4_2 sv0) (2 : Int32)) &&& 31))))])) rfl (by rw [hml]; rfl) (argsL := [(.ref b72), (.int 3), (.int 4)]) (rest := [(.int ((((1 : Int32) <<< (((own_m4_2 sv0) (0 : Int32)) &&& 31)) ||| ((1 : Int32) <<< (((own_m4_2 sv0) (1 : Int32)) &&& 31))) ||| ((1 : Int32) <<< (((own_m4_2 sv0) (2 : Int32)) &&& 31))))]) (lenOf pd3 rfl) rfl (by show 2 * 0 + _ ≤ _; exact Nat.le_of_eq rfl) (hb hby at_129) (fun _ _ => ⟨rfl, e76, (Nat.le_of_ble_eq_true rfl), (Nat.le_of_ble_eq_true rfl)⟩)
    dsimp only [Pt.U, Pt.locs, Pt.cells, Pt.slots] at X77 l77 y77 z77 st77 hQ77
    subst l77 y77 z77
    obtain ⟨rfl, rfl, e77⟩ := hQ77
    try rw [List.append_nil] at X77
    refine OD.go (B := (T77.setTop (mkF m 132 #[.val (.int p0), .val (.int p1), .val (.int p2), .val (.int p3), .val (.int p4), .val (.int p5), .val (.int 4), .val (.ref b66), .val (.ref b72), .unset] [(.int ((1 : Int32) <<< (((own_m4_2 sv0) (3 : Int32)) &&& 31))), (.int ((((1 : Int32) <<< (((own_m4_2 sv0) (0 : Int32)) &&& 31)) ||| ((1 : Int32) <<< (((own_m4_2 sv0) (1 : Int32)) &&& 31))) ||| ((1 : Int32) <<< (((own_m4_2 sv0) (2 : Int32)) &&& 31))))]))) st77 ?_
    refine OD.go (B := (T77.setTop (mkF m 133 #[.val (.int p0), .val (.int p1), .val (.int p2), .val (.int p3), .val (.int p4), .val (.int p5), .val (.int 4), .val (.ref b66), .val (.ref b72), .unset] [(.int (((((1 : Int32) <<< (((own_m4_2 sv0) (0 : Int32)) &&& 31)) ||| ((1 : Int32) <<< (((own_m4_2 sv0) (1 : Int32)) &&& 31))) ||| ((1 : Int32) <<< (((own_m4_2 sv0) (2 : Int32)) &&& 31))) ||| ((1 : Int32) <<< (((own_m4_2 sv0) (3 : Int32)) &&& 31))))]))) (fun t k => XS.ior X77.here hx rfl (hb hby at_132) rfl k) ?_
    refine OD.go (B := (T77.setTop (mkF m 135 #[.val (.int p0), .val (.int p1), .val (.int p2), .val (.int p3), .val (.int p4), .val (.int p5), .val (.int 4), .val (.ref b66), .val (.ref b72), .unset] [(.ref b72), (.int (((((1 : Int32) <<< (((own_m4_2 sv0) (0 : Int32)) &&& 31)) ||| ((1 : Int32) <<< (((own_m4_2 sv0) (1 : Int32)) &&& 31))) ||| ((1 : Int32) <<< (((own_m4_2 sv0) (2 : Int32)) &&& 31))) ||| ((1 : Int32) <<< (((own_m4_2 sv0) (3 : Int32)) &&& 31))))]))) (fun t k => XS.aload X77.here hx rfl (hb hby at_133) rfl rfl k) ?_
    refine OD.go (B := (T77.setTop (mkF m 136 #[.val (.int p0), .val (.int p1), .val (.int p2), .val (.int p3), .val (.int p4), .val (.int p5), .val (.int 4), .val (.ref b66), .val (.ref b72), .unset] [(.int 4), (.ref b72), (.int (((((1 : Int32) <<< (((own_m4_2 sv0) (0 : Int32)) &&& 31)) ||| ((1 : Int32) <<< (((own_m4_2 sv0) (1 : Int32)) &&& 31))) ||| ((1 : Int32) <<< (((own_m4_2 sv0) (2 : Int32)) &&& 31))) ||| ((1 : Int32) <<< (((own_m4_2 sv0) (3 : Int32)) &&& 31))))]))) (fun t k => XS.iconst X77.here hx rfl (hb hby at_135) k) ?_
    refine OD.go (B := (T77.setTop (mkF m 138 #[.val (.int p0), .val (.int p1), .val (.int p2), .val (.int p3), .val (.int p4), .val (.int p5), .val (.int 4), .val (.ref b66), .val (.ref b72), .unset] [(.int 4), (.int 4), (.ref b72), (.int (((((1 : Int32) <<< (((own_m4_2 sv0) (0 : Int32)) &&& 31)) ||| ((1 : Int32) <<< (((own_m4_2 sv0) (1 : Int32)) &&& 31))) ||| ((1 : Int32) <<< (((own_m4_2 sv0) (2 : Int32)) &&& 31))) ||| ((1 : Int32) <<< (((own_m4_2 sv0) (3 : Int32)) &&& 31))))]))) (fun t k => XS.iload X77.here hx rfl (hb hby at_136) rfl k) ?_
    obtain ⟨_, _, ⟨T78, L78, k78, n78⟩, -, X78, ⟨Lc78, hQ78, l78, y78, z78⟩, st78⟩ := Jvm.LawKit.callS X77 hx (y := (⟨"com/example/topside/topside/DescendingOrderOfPinLaw", "bit", "([III)I"⟩ : MethodName)) hown (mvT hZ (Wd6 hw)) (mvT hZ (Wd7 hw)) (mvT hZ (Wd8 hw)) (mvT hZ (Wd9 hw)) (by decide) (backOf (W := 1) (rmB0 l Z a0 hw [] b72 (4 : Int32) (4 : Int32) T72.heap (by decide)) hZ (Wd9 hw) (Wd8 hw) (by decide) (by decide)) (g := (mkF m 138 #[.val (.int p0), .val (.int p1), .val (.int p2), .val (.int p3), .val (.int p4), .val (.int p5), .val (.int 4), .val (.ref b66), .val (.ref b72), .unset] [(.int 4), (.int 4), (.ref b72), (.int (((((1 : Int32) <<< (((own_m4_2 sv0) (0 : Int32)) &&& 31)) ||| ((1 : Int32) <<< (((own_m4_2 sv0) (1 : Int32)) &&& 31))) ||| ((1 : Int32) <<< (((own_m4_2 sv0) (2 : Int32)) &&& 31))) ||| ((1 : Int32) <<< (((own_m4_2 sv0) (3 : Int32)) &&& 31))))])) rfl (by rw [hml]; rfl) (argsL := [(.ref b72), (.int 4), (.int 4)]) (rest := [(.int (((((1 : Int32) <<< (((own_m4_2 sv0) (0 : Int32)) &&& 31)) ||| ((1 : Int32) <<< (((own_m4_2 sv0) (1 : Int32)) &&& 31))) ||| ((1 : Int32) <<< (((own_m4_2 sv0) (2 : Int32)) &&& 31))) ||| ((1 : Int32) <<< (((own_m4_2 sv0) (3 : Int32)) &&& 31))))]) (lenOf pd3 rfl) rfl (by show 2 * 0 + _ ≤ _; exact Nat.le_of_eq rfl) (hb hby at_138) (fun _ _ => ⟨rfl, e77, (Nat.le_of_ble_eq_true rfl), (Nat.le_of_ble_eq_true rfl)⟩)
    dsimp only [Pt.U, Pt.locs, Pt.cells, Pt.slots] at X78 l78 y78 z78 st78 hQ78
    subst l78 y78 z78
    obtain ⟨rfl, rfl, e78⟩ := hQ78
    try rw [List.append_nil] at X78
    refine OD.go (B := (T78.setTop (mkF m 141 #[.val (.int p0), .val (.int p1), .val (.int p2), .val (.int p3), .val (.int p4), .val (.int p5), .val (.int 4), .val (.ref b66), .val (.ref b72), .unset] [(.int 0), (.int (((((1 : Int32) <<< (((own_m4_2 sv0) (0 : Int32)) &&& 31)) ||| ((1 : Int32) <<< (((own_m4_2 sv0) (1 : Int32)) &&& 31))) ||| ((1 : Int32) <<< (((own_m4_2 sv0) (2 : Int32)) &&& 31))) ||| ((1 : Int32) <<< (((own_m4_2 sv0) (3 : Int32)) &&& 31))))]))) st78 ?_
    refine OD.go (B := (T78.setTop (mkF m 142 #[.val (.int p0), .val (.int p1), .val (.int p2), .val (.int p3), .val (.int p4), .val (.int p5), .val (.int 4), .val (.ref b66), .val (.ref b72), .unset] [(.int ((((((1 : Int32) <<< (((own_m4_2 sv0) (0 : Int32)) &&& 31)) ||| ((1 : Int32) <<< (((own_m4_2 sv0) (1 : Int32)) &&& 31))) ||| ((1 : Int32) <<< (((own_m4_2 sv0) (2 : Int32)) &&& 31))) ||| ((1 : Int32) <<< (((own_m4_2 sv0) (3 : Int32)) &&& 31))) ||| (0 : Int32)))]))) (fun t k => XS.ior X78.here hx rfl (hb hby at_141) rfl k) ?_
    refine OD.go (B := (T78.setTop (mkF m 144 #[.val (.int p0), .val (.int p1), .val (.int p2), .val (.int p3), .val (.int p4), .val (.int p5), .val (.int 4), .val (.ref b66), .val (.ref b72), .val (.int ((((((1 : Int32) <<< (((own_m4_2 sv0) (0 : Int32)) &&& 31)) ||| ((1 : Int32) <<< (((own_m4_2 sv0) (1 : Int32)) &&& 31))) ||| ((1 : Int32) <<< (((own_m4_2 sv0) (2 : Int32)) &&& 31))) ||| ((1 : Int32) <<< (((own_m4_2 sv0) (3 : Int32)) &&& 31))) ||| (0 : Int32)))] []))) (fun t k => XS.istore X78.here hx rfl (hb hby at_142) rfl (l' := #[.val (.int p0), .val (.int p1), .val (.int p2), .val (.int p3), .val (.int p4), .val (.int p5), .val (.int 4), .val (.ref b66), .val (.ref b72), .val (.int ((((((1 : Int32) <<< (((own_m4_2 sv0) (0 : Int32)) &&& 31)) ||| ((1 : Int32) <<< (((own_m4_2 sv0) (1 : Int32)) &&& 31))) ||| ((1 : Int32) <<< (((own_m4_2 sv0) (2 : Int32)) &&& 31))) ||| ((1 : Int32) <<< (((own_m4_2 sv0) (3 : Int32)) &&& 31))) ||| (0 : Int32)))]) rfl k) ?_
    generalize hu142_79 : ((((((1 : Int32) <<< (((own_m4_2 sv0) (0 : Int32)) &&& 31)) ||| ((1 : Int32) <<< (((own_m4_2 sv0) (1 : Int32)) &&& 31))) ||| ((1 : Int32) <<< (((own_m4_2 sv0) (2 : Int32)) &&& 31))) ||| ((1 : Int32) <<< (((own_m4_2 sv0) (3 : Int32)) &&& 31))) ||| (0 : Int32)) = u142_79
    refine OD.go (B := (T78.setTop (mkF m 146 #[.val (.int p0), .val (.int p1), .val (.int p2), .val (.int p3), .val (.int p4), .val (.int p5), .val (.int 4), .val (.ref b66), .val (.ref b72), .val (.int u142_79)] [(.int u142_79)]))) (fun t k => XS.iload X78.here hx rfl (hb hby at_144) rfl k) ?_
    refine OD.go (B := (T78.setTop (mkF m 147 #[.val (.int p0), .val (.int p1), .val (.int p2), .val (.int p3), .val (.int p4), .val (.int p5), .val (.int 4), .val (.ref b66), .val (.ref b72), .val (.int u142_79)] [(.int 1), (.int u142_79)]))) (fun t k => XS.iconst X78.here hx rfl (hb hby at_146) k) ?_
    refine OD.go (B := (T78.setTop (mkF m 149 #[.val (.int p0), .val (.int p1), .val (.int p2), .val (.int p3), .val (.int p4), .val (.int p5), .val (.int 4), .val (.ref b66), .val (.ref b72), .val (.int u142_79)] [(.int 4), (.int 1), (.int u142_79)]))) (fun t k => XS.iload X78.here hx rfl (hb hby at_147) rfl k) ?_
    refine OD.go (B := (T78.setTop (mkF m 150 #[.val (.int p0), .val (.int p1), .val (.int p2), .val (.int p3), .val (.int p4), .val (.int p5), .val (.int 4), .val (.ref b66), .val (.ref b72), .val (.int u142_79)] [(.int ((1 : Int32) <<< ((4 : Int32) &&& 31))), (.int u142_79)]))) (fun t k => XS.ishl X78.here hx rfl (hb hby at_149) rfl k) ?_
    refine OD.go (B := (T78.setTop (mkF m 151 #[.val (.int p0), .val (.int p1), .val (.int p2), .val (.int p3), .val (.int p4), .val (.int p5), .val (.int 4), .val (.ref b66), .val (.ref b72), .val (.int u142_79)] [(.int 1), (.int ((1 : Int32) <<< ((4 : Int32) &&& 31))), (.int u142_79)]))) (fun t k => XS.iconst X78.here hx rfl (hb hby at_150) k) ?_
    refine OD.go (B := (T78.setTop (mkF m 152 #[.val (.int p0), .val (.int p1), .val (.int p2), .val (.int p3), .val (.int p4), .val (.int p5), .val (.int 4), .val (.ref b66), .val (.ref b72), .val (.int u142_79)] [(.int (((1 : Int32) <<< ((4 : Int32) &&& 31)) - (1 : Int32))), (.int u142_79)]))) (fun t k => XS.isub X78.here hx rfl (hb hby at_151) rfl k) ?_
    refine OD.go (B := (T78.setTop (mkF m 157 #[.val (.int p0), .val (.int p1), .val (.int p2), .val (.int p3), .val (.int p4), .val (.int p5), .val (.int 4), .val (.ref b66), .val (.ref b72), .val (.int u142_79)] []))) (fun t k => XS.icmpYes X78.here hx rfl (pc0 := 152) (pc' := 157) rfl (hb hby at_152) rfl (teq (by rw [← hu142_79]; (try rw [hsv]); exact own_mask4 p1 p2 p3 p4 p5)).1 (by decide) (by decide) k) ?_
    refine OD.go (B := (T78.setTop (mkF m 159 #[.val (.int p0), .val (.int p1), .val (.int p2), .val (.int p3), .val (.int p4), .val (.int p5), .val (.int 4), .val (.ref b66), .val (.ref b72), .val (.int u142_79)] [(.ref b66)]))) (fun t k => XS.aload X78.here hx rfl (hb hby at_157) rfl rfl k) ?_
    refine OD.go (B := (T78.setTop (mkF m 161 #[.val (.int p0), .val (.int p1), .val (.int p2), .val (.int p3), .val (.int p4), .val (.int p5), .val (.int 4), .val (.ref b66), .val (.ref b72), .val (.int u142_79)] [(.ref b72), (.ref b66)]))) (fun t k => XS.aload X78.here hx rfl (hb hby at_159) rfl rfl k) ?_
    refine OD.go (B := (T78.setTop (mkF m 162 #[.val (.int p0), .val (.int p1), .val (.int p2), .val (.int p3), .val (.int p4), .val (.int p5), .val (.int 4), .val (.ref b66), .val (.ref b72), .val (.int u142_79)] [(.int 0), (.ref b72), (.ref b66)]))) (fun t k => XS.iconst X78.here hx rfl (hb hby at_161) k) ?_
    refine OD.go (B := (T78.setTop (mkF m 164 #[.val (.int p0), .val (.int p1), .val (.int p2), .val (.int p3), .val (.int p4), .val (.int p5), .val (.int 4), .val (.ref b66), .val (.ref b72), .val (.int u142_79)] [(.int 4), (.int 0), (.ref b72), (.ref b66)]))) (fun t k => XS.iload X78.here hx rfl (hb hby at_162) rfl k) ?_
    have f80 := (Vf71.keep K72 nin0)
    obtain ⟨_, _, ⟨T81, L81, k81, n81⟩, -, X81, ⟨Lc81, hQ81, l81, y81, z81⟩, st81⟩ := Jvm.LawKit.callS X78 hx (y := (⟨"com/example/topside/topside/DescendingOrderOfPinLaw", "pair", "([D[III)Z"⟩ : MethodName)) hown (mvT hZ (Wd10 hw)) (mvT hZ (Wd11 hw)) (mvT hZ (Wd8 hw)) (mvT hZ (Wd12 hw)) (by decide) (backOf (W := 0) (rmP1 l Z a0 hw [] b66 b72 (0 : Int32) (4 : Int32) T72.heap k72' k66 (own_m4_2 sv0) sv0 f80 A72 ⟨by decide, by decide⟩ ⟨by decide, by decide⟩ (own_m4_2_b sv0)) hZ (Wd12 hw) (Wd8 hw) (by decide) (by decide)) (g := (mkF m 164 #[.val (.int p0), .val (.int p1), .val (.int p2), .val (.int p3), .val (.int p4), .val (.int p5), .val (.int 4), .val (.ref b66), .val (.ref b72), .val (.int u142_79)] [(.int 4), (.int 0), (.ref b72), (.ref b66)])) rfl (by rw [hml]; rfl) (argsL := [(.ref b66), (.ref b72), (.int 0), (.int 4)]) (rest := []) (lenOf pd4 rfl) rfl (by show 2 * 0 + _ ≤ _; exact Nat.le_of_eq rfl) (hb hby at_164) (fun _ _ => ⟨rfl, e78, (Nat.le_of_ble_eq_true rfl), (Nat.le_of_ble_eq_true rfl)⟩)
    dsimp only [Pt.U, Pt.locs, Pt.cells, Pt.slots] at X81 l81 y81 z81 st81 hQ81
    subst l81 y81 z81
    obtain ⟨rfl, rfl, e81⟩ := hQ81
    try rw [List.append_nil] at X81
    refine OD.go (B := (T81.setTop (mkF m 167 #[.val (.int p0), .val (.int p1), .val (.int p2), .val (.int p3), .val (.int p4), .val (.int p5), .val (.int 4), .val (.ref b66), .val (.ref b72), .val (.int u142_79)] [(.int (own_pr sv0 ((own_m4_2 sv0) (0 : Int32)) ((own_m4_2 sv0) ((0 : Int32) + (1 : Int32)))))]))) st81 ?_
    refine OD.go (B := (T81.setTop (mkF m 170 #[.val (.int p0), .val (.int p1), .val (.int p2), .val (.int p3), .val (.int p4), .val (.int p5), .val (.int 4), .val (.ref b66), .val (.ref b72), .val (.int u142_79)] []))) (fun t k => XS.ifNo X81.here hx rfl (hb hby at_167) rfl (by rw [if0]; exact (feq (by rw [hsv, own_pair4_0]; decide)).1) k) ?_
    refine OD.go (B := (T81.setTop (mkF m 172 #[.val (.int p0), .val (.int p1), .val (.int p2), .val (.int p3), .val (.int p4), .val (.int p5), .val (.int 4), .val (.ref b66), .val (.ref b72), .val (.int u142_79)] [(.ref b66)]))) (fun t k => XS.aload X81.here hx rfl (hb hby at_170) rfl rfl k) ?_
    refine OD.go (B := (T81.setTop (mkF m 174 #[.val (.int p0), .val (.int p1), .val (.int p2), .val (.int p3), .val (.int p4), .val (.int p5), .val (.int 4), .val (.ref b66), .val (.ref b72), .val (.int u142_79)] [(.ref b72), (.ref b66)]))) (fun t k => XS.aload X81.here hx rfl (hb hby at_172) rfl rfl k) ?_
    refine OD.go (B := (T81.setTop (mkF m 175 #[.val (.int p0), .val (.int p1), .val (.int p2), .val (.int p3), .val (.int p4), .val (.int p5), .val (.int 4), .val (.ref b66), .val (.ref b72), .val (.int u142_79)] [(.int 1), (.ref b72), (.ref b66)]))) (fun t k => XS.iconst X81.here hx rfl (hb hby at_174) k) ?_
    refine OD.go (B := (T81.setTop (mkF m 177 #[.val (.int p0), .val (.int p1), .val (.int p2), .val (.int p3), .val (.int p4), .val (.int p5), .val (.int 4), .val (.ref b66), .val (.ref b72), .val (.int u142_79)] [(.int 4), (.int 1), (.ref b72), (.ref b66)]))) (fun t k => XS.iload X81.here hx rfl (hb hby at_175) rfl k) ?_
    obtain ⟨_, _, ⟨T82, L82, k82, n82⟩, -, X82, ⟨Lc82, hQ82, l82, y82, z82⟩, st82⟩ := Jvm.LawKit.callS X81 hx (y := (⟨"com/example/topside/topside/DescendingOrderOfPinLaw", "pair", "([D[III)Z"⟩ : MethodName)) hown (mvT hZ (Wd10 hw)) (mvT hZ (Wd11 hw)) (mvT hZ (Wd8 hw)) (mvT hZ (Wd12 hw)) (by decide) (backOf (W := 0) (rmP1 l Z a0 hw [] b66 b72 (1 : Int32) (4 : Int32) T72.heap k72' k66 (own_m4_2 sv0) sv0 f80 A72 ⟨by decide, by decide⟩ ⟨by decide, by decide⟩ (own_m4_2_b sv0)) hZ (Wd12 hw) (Wd8 hw) (by decide) (by decide)) (g := (mkF m 177 #[.val (.int p0), .val (.int p1), .val (.int p2), .val (.int p3), .val (.int p4), .val (.int p5), .val (.int 4), .val (.ref b66), .val (.ref b72), .val (.int u142_79)] [(.int 4), (.int 1), (.ref b72), (.ref b66)])) rfl (by rw [hml]; rfl) (argsL := [(.ref b66), (.ref b72), (.int 1), (.int 4)]) (rest := []) (lenOf pd4 rfl) rfl (by show 2 * 0 + _ ≤ _; exact Nat.le_of_eq rfl) (hb hby at_177) (fun _ _ => ⟨rfl, e81, (Nat.le_of_ble_eq_true rfl), (Nat.le_of_ble_eq_true rfl)⟩)
    dsimp only [Pt.U, Pt.locs, Pt.cells, Pt.slots] at X82 l82 y82 z82 st82 hQ82
    subst l82 y82 z82
    obtain ⟨rfl, rfl, e82⟩ := hQ82
    try rw [List.append_nil] at X82
    refine OD.go (B := (T82.setTop (mkF m 180 #[.val (.int p0), .val (.int p1), .val (.int p2), .val (.int p3), .val (.int p4), .val (.int p5), .val (.int 4), .val (.ref b66), .val (.ref b72), .val (.int u142_79)] [(.int (own_pr sv0 ((own_m4_2 sv0) (1 : Int32)) ((own_m4_2 sv0) ((1 : Int32) + (1 : Int32)))))]))) st82 ?_
    refine OD.go (B := (T82.setTop (mkF m 183 #[.val (.int p0), .val (.int p1), .val (.int p2), .val (.int p3), .val (.int p4), .val (.int p5), .val (.int 4), .val (.ref b66), .val (.ref b72), .val (.int u142_79)] []))) (fun t k => XS.ifNo X82.here hx rfl (hb hby at_180) rfl (by rw [if0]; exact (feq (by rw [hsv, own_pair4_1]; decide)).1) k) ?_
    refine OD.go (B := (T82.setTop (mkF m 185 #[.val (.int p0), .val (.int p1), .val (.int p2), .val (.int p3), .val (.int p4), .val (.int p5), .val (.int 4), .val (.ref b66), .val (.ref b72), .val (.int u142_79)] [(.ref b66)]))) (fun t k => XS.aload X82.here hx rfl (hb hby at_183) rfl rfl k) ?_
    refine OD.go (B := (T82.setTop (mkF m 187 #[.val (.int p0), .val (.int p1), .val (.int p2), .val (.int p3), .val (.int p4), .val (.int p5), .val (.int 4), .val (.ref b66), .val (.ref b72), .val (.int u142_79)] [(.ref b72), (.ref b66)]))) (fun t k => XS.aload X82.here hx rfl (hb hby at_185) rfl rfl k) ?_
    refine OD.go (B := (T82.setTop (mkF m 188 #[.val (.int p0), .val (.int p1), .val (.int p2), .val (.int p3), .val (.int p4), .val (.int p5), .val (.int 4), .val (.ref b66), .val (.ref b72), .val (.int u142_79)] [(.int 2), (.ref b72), (.ref b66)]))) (fun t k => XS.iconst X82.here hx rfl (hb hby at_187) k) ?_
    refine OD.go (B := (T82.setTop (mkF m 190 #[.val (.int p0), .val (.int p1), .val (.int p2), .val (.int p3), .val (.int p4), .val (.int p5), .val (.int 4), .val (.ref b66), .val (.ref b72), .val (.int u142_79)] [(.int 4), (.int 2), (.ref b72), (.ref b66)]))) (fun t k => XS.iload X82.here hx rfl (hb hby at_188) rfl k) ?_
    obtain ⟨_, _, ⟨T83, L83, k83, n83⟩, -, X83, ⟨Lc83, hQ83, l83, y83, z83⟩, st83⟩ := Jvm.LawKit.callS X82 hx (y := (⟨"com/example/topside/topside/DescendingOrderOfPinLaw", "pair", "([D[III)Z"⟩ : MethodName)) hown (mvT hZ (Wd10 hw)) (mvT hZ (Wd11 hw)) (mvT hZ (Wd8 hw)) (mvT hZ (Wd12 hw)) (by decide) (backOf (W := 0) (rmP1 l Z a0 hw [] b66 b72 (2 : Int32) (4 : Int32) T72.heap k72' k66 (own_m4_2 sv0) sv0 f80 A72 ⟨by decide, by decide⟩ ⟨by decide, by decide⟩ (own_m4_2_b sv0)) hZ (Wd12 hw) (Wd8 hw) (by decide) (by decide)) (g := (mkF m 190 #[.val (.int p0), .val (.int p1), .val (.int p2), .val (.int p3), .val (.int p4), .val (.int p5), .val (.int 4), .val (.ref b66), .val (.ref b72), .val (.int u142_79)] [(.int 4), (.int 2), (.ref b72), (.ref b66)])) rfl (by rw [hml]; rfl) (argsL := [(.ref b66), (.ref b72), (.int 2), (.int 4)]) (rest := []) (lenOf pd4 rfl) rfl (by show 2 * 0 + _ ≤ _; exact Nat.le_of_eq rfl) (hb hby at_190) (fun _ _ => ⟨rfl, e82, (Nat.le_of_ble_eq_true rfl), (Nat.le_of_ble_eq_true rfl)⟩)
    dsimp only [Pt.U, Pt.locs, Pt.cells, Pt.slots] at X83 l83 y83 z83 st83 hQ83
    subst l83 y83 z83
    obtain ⟨rfl, rfl, e83⟩ := hQ83
    try rw [List.append_nil] at X83
    refine OD.go (B := (T83.setTop (mkF m 193 #[.val (.int p0), .val (.int p1), .val (.int p2), .val (.int p3), .val (.int p4), .val (.int p5), .val (.int 4), .val (.ref b66), .val (.ref b72), .val (.int u142_79)] [(.int (own_pr sv0 ((own_m4_2 sv0) (2 : Int32)) ((own_m4_2 sv0) ((2 : Int32) + (1 : Int32)))))]))) st83 ?_
    refine OD.go (B := (T83.setTop (mkF m 196 #[.val (.int p0), .val (.int p1), .val (.int p2), .val (.int p3), .val (.int p4), .val (.int p5), .val (.int 4), .val (.ref b66), .val (.ref b72), .val (.int u142_79)] []))) (fun t k => XS.ifNo X83.here hx rfl (hb hby at_193) rfl (by rw [if0]; exact (feq (by rw [hsv, own_pair4_2]; decide)).1) k) ?_
    refine OD.go (B := (T83.setTop (mkF m 198 #[.val (.int p0), .val (.int p1), .val (.int p2), .val (.int p3), .val (.int p4), .val (.int p5), .val (.int 4), .val (.ref b66), .val (.ref b72), .val (.int u142_79)] [(.ref b66)]))) (fun t k => XS.aload X83.here hx rfl (hb hby at_196) rfl rfl k) ?_
    refine OD.go (B := (T83.setTop (mkF m 200 #[.val (.int p0), .val (.int p1), .val (.int p2), .val (.int p3), .val (.int p4), .val (.int p5), .val (.int 4), .val (.ref b66), .val (.ref b72), .val (.int u142_79)] [(.ref b72), (.ref b66)]))) (fun t k => XS.aload X83.here hx rfl (hb hby at_198) rfl rfl k) ?_
    refine OD.go (B := (T83.setTop (mkF m 201 #[.val (.int p0), .val (.int p1), .val (.int p2), .val (.int p3), .val (.int p4), .val (.int p5), .val (.int 4), .val (.ref b66), .val (.ref b72), .val (.int u142_79)] [(.int 3), (.ref b72), (.ref b66)]))) (fun t k => XS.iconst X83.here hx rfl (hb hby at_200) k) ?_
    refine OD.go (B := (T83.setTop (mkF m 203 #[.val (.int p0), .val (.int p1), .val (.int p2), .val (.int p3), .val (.int p4), .val (.int p5), .val (.int 4), .val (.ref b66), .val (.ref b72), .val (.int u142_79)] [(.int 4), (.int 3), (.ref b72), (.ref b66)]))) (fun t k => XS.iload X83.here hx rfl (hb hby at_201) rfl k) ?_
    obtain ⟨_, _, ⟨T84, L84, k84, n84⟩, -, X84, ⟨Lc84, hQ84, l84, y84, z84⟩, st84⟩ := Jvm.LawKit.callS X83 hx (y := (⟨"com/example/topside/topside/DescendingOrderOfPinLaw", "pair", "([D[III)Z"⟩ : MethodName)) hown (mvT hZ (Wd10 hw)) (mvT hZ (Wd11 hw)) (mvT hZ (Wd8 hw)) (mvT hZ (Wd12 hw)) (by decide) (backOf (W := 0) (rmP0 l Z a0 hw [] b66 b72 (3 : Int32) (4 : Int32) T72.heap (by decide)) hZ (Wd12 hw) (Wd8 hw) (by decide) (by decide)) (g := (mkF m 203 #[.val (.int p0), .val (.int p1), .val (.int p2), .val (.int p3), .val (.int p4), .val (.int p5), .val (.int 4), .val (.ref b66), .val (.ref b72), .val (.int u142_79)] [(.int 4), (.int 3), (.ref b72), (.ref b66)])) rfl (by rw [hml]; rfl) (argsL := [(.ref b66), (.ref b72), (.int 3), (.int 4)]) (rest := []) (lenOf pd4 rfl) rfl (by show 2 * 0 + _ ≤ _; exact Nat.le_of_eq rfl) (hb hby at_203) (fun _ _ => ⟨rfl, e83, (Nat.le_of_ble_eq_true rfl), (Nat.le_of_ble_eq_true rfl)⟩)
    dsimp only [Pt.U, Pt.locs, Pt.cells, Pt.slots] at X84 l84 y84 z84 st84 hQ84
    subst l84 y84 z84
    obtain ⟨rfl, rfl, e84⟩ := hQ84
    try rw [List.append_nil] at X84
    refine OD.go (B := (T84.setTop (mkF m 206 #[.val (.int p0), .val (.int p1), .val (.int p2), .val (.int p3), .val (.int p4), .val (.int p5), .val (.int 4), .val (.ref b66), .val (.ref b72), .val (.int u142_79)] [(.int 1)]))) st84 ?_
    refine OD.go (B := (T84.setTop (mkF m 209 #[.val (.int p0), .val (.int p1), .val (.int p2), .val (.int p3), .val (.int p4), .val (.int p5), .val (.int 4), .val (.ref b66), .val (.ref b72), .val (.int u142_79)] []))) (fun t k => XS.ifNo X84.here hx rfl (hb hby at_206) rfl (by rw [if0]; exact (feq (by decide : ¬ (1 : Int32) = (0 : Int32))).1) k) ?_
    refine OD.go (B := (T84.setTop (mkF m 210 #[.val (.int p0), .val (.int p1), .val (.int p2), .val (.int p3), .val (.int p4), .val (.int p5), .val (.int 4), .val (.ref b66), .val (.ref b72), .val (.int u142_79)] [(.int 1)]))) (fun t k => XS.iconst X84.here hx rfl (hb hby at_209) k) ?_
    refine OD.go (B := (T84.setTop (mkF m 214 #[.val (.int p0), .val (.int p1), .val (.int p2), .val (.int p3), .val (.int p4), .val (.int p5), .val (.int 4), .val (.ref b66), .val (.ref b72), .val (.int u142_79)] [(.int 1)]))) (fun t k => XS.goto X84.here hx rfl (pc0 := 210) (pc' := 214) rfl (hb hby at_210) (by decide) (by decide) k) ?_
    exact OD.ret X84 hx hlk (t := .boolean) Bd.returns rfl (Or.inl ⟨rfl, Or.inr (Or.inl rfl), _, rfl⟩) (hb hby at_214) (Nat.le_of_ble_eq_true rfl) (Nat.le_of_ble_eq_true rfl) ⟨rfl, N72⟩
  · subst q6
    refine OD.go (B := (s₁.setTop (mkF m 11 #[.val (.int p0), .val (.int p1), .val (.int p2), .val (.int p3), .val (.int p4), .val (.int p5), .val (.int 5), .unset, .unset, .unset] [(.int 5)]))) (fun t k => XS.iload X0.here hx rfl (hb hby at_9) rfl k) ?_
    obtain ⟨T85, h85, k85, X85, e85, E85, A85, st85⟩ := newP X0 hx hZ (aty := .double) (Wd0 hw) e0 (g := (mkF m 11 #[.val (.int p0), .val (.int p1), .val (.int p2), .val (.int p3), .val (.int p4), .val (.int p5), .val (.int 5), .unset, .unset, .unset] [(.int 5)])) rfl (hb hby at_11) rfl (by decide) (cap := 5) (by decide) (by decide) (Nat.le_of_ble_eq_true rfl) (Nat.le_of_ble_eq_true rfl)
    obtain ⟨b85, g85⟩ : ∃ z, z = h0.size := ⟨_, rfl⟩
    rw [← g85] at A85 st85
    have V85 : Arv Z h85 b85 k85 .double (5 : Int32) [(.double (0 : UInt64)), (.double (0 : UInt64)), (.double (0 : UInt64)), (.double (0 : UInt64)), (.double (0 : UInt64))] (.double (0 : UInt64)) := (Arv.new A85 (by decide)).pad (pad_rep [] (.double (0 : UInt64)) 5)
    refine OD.go (B := (T85.setTop (mkF m 13 #[.val (.int p0), .val (.int p1), .val (.int p2), .val (.int p3), .val (.int p4), .val (.int p5), .val (.int 5), .unset, .unset, .unset] [(.ref b85)]))) st85 ?_
    refine OD.go (B := (T85.setTop (mkF m 15 #[.val (.int p0), .val (.int p1), .val (.int p2), .val (.int p3), .val (.int p4), .val (.int p5), .val (.int 5), .val (.ref b85), .unset, .unset] []))) (fun t k => XS.astore X85.here hx rfl (hb hby at_13) rfl rfl (l' := #[.val (.int p0), .val (.int p1), .val (.int p2), .val (.int p3), .val (.int p4), .val (.int p5), .val (.int 5), .val (.ref b85), .unset, .unset]) rfl k) ?_
    refine OD.go (B := (T85.setTop (mkF m 17 #[.val (.int p0), .val (.int p1), .val (.int p2), .val (.int p3), .val (.int p4), .val (.int p5), .val (.int 5), .val (.ref b85), .unset, .unset] [(.int 5)]))) (fun t k => XS.iload X85.here hx rfl (hb hby at_15) rfl k) ?_
    refine OD.go (B := (T85.setTop (mkF m 20 #[.val (.int p0), .val (.int p1), .val (.int p2), .val (.int p3), .val (.int p4), .val (.int p5), .val (.int 5), .val (.ref b85), .unset, .unset] []))) (fun t k => XS.ifNo X85.here hx rfl (hb hby at_17) rfl (by rw [if0]; exact (tlt (by decide : (0 : Int32) < (5 : Int32))).2.2.2) k) ?_
    refine OD.go (B := (T85.setTop (mkF m 22 #[.val (.int p0), .val (.int p1), .val (.int p2), .val (.int p3), .val (.int p4), .val (.int p5), .val (.int 5), .val (.ref b85), .unset, .unset] [(.ref b85)]))) (fun t k => XS.aload X85.here hx rfl (hb hby at_20) rfl rfl k) ?_
    refine OD.go (B := (T85.setTop (mkF m 23 #[.val (.int p0), .val (.int p1), .val (.int p2), .val (.int p3), .val (.int p4), .val (.int p5), .val (.int 5), .val (.ref b85), .unset, .unset] [(.int 0), (.ref b85)]))) (fun t k => XS.iconst X85.here hx rfl (hb hby at_22) k) ?_
    refine OD.go (B := (T85.setTop (mkF m 24 #[.val (.int p0), .val (.int p1), .val (.int p2), .val (.int p3), .val (.int p4), .val (.int p5), .val (.int 5), .val (.ref b85), .unset, .unset] [(.int p1), (.int 0), (.ref b85)]))) (fun t k => XS.iloadN X85.here hx rfl (hb hby at_23) rfl k) ?_
    refine OD.go (B := (T85.setTop (mkF m 25 #[.val (.int p0), .val (.int p1), .val (.int p2), .val (.int p3), .val (.int p4), .val (.int p5), .val (.int 5), .val (.ref b85), .unset, .unset] [(.double (FP.i2d p1)), (.int 0), (.ref b85)]))) (fun t k => XS.i2dS X85.here hx rfl (hb hby at_24) rfl (v := (FP.i2d p1)) rfl k) ?_
    obtain ⟨cl86, Ar86, q86, S86, M86, H86, G86⟩ := id V85
    obtain ⟨T86, h86, X86, e86, W86, st86⟩ := stD X85 hx hZ e85 Ar86 (j := (0 : Int32)) (inb_of S86 ⟨by decide, by decide⟩) (g := (mkF m 25 #[.val (.int p0), .val (.int p1), .val (.int p2), .val (.int p3), .val (.int p4), .val (.int p5), .val (.int 5), .val (.ref b85), .unset, .unset] [(.double (FP.i2d p1)), (.int 0), (.ref b85)])) rfl rfl (hb hby at_25)
    have V86 : Arv Z h86 b85 k85 .double (5 : Int32) [(.double (FP.i2d p1)), (.double (0 : UInt64)), (.double (0 : UInt64)), (.double (0 : UInt64)), (.double (0 : UInt64))] (.double (0 : UInt64)) := Arv.set Ar86 q86 S86 M86 H86 G86 rfl W86 0 rfl (Nat.le_of_ble_eq_true rfl)
    have N86 := Fr.snoc X86 N0 (Nat.le_trans (Nat.le_refl _) (Nat.le_of_eq g85.symm))
    refine OD.go (B := (T86.setTop (mkF m 26 #[.val (.int p0), .val (.int p1), .val (.int p2), .val (.int p3), .val (.int p4), .val (.int p5), .val (.int 5), .val (.ref b85), .unset, .unset] []))) st86 ?_
    refine OD.go (B := (T86.setTop (mkF m 28 #[.val (.int p0), .val (.int p1), .val (.int p2), .val (.int p3), .val (.int p4), .val (.int p5), .val (.int 5), .val (.ref b85), .unset, .unset] [(.int 5)]))) (fun t k => XS.iload X86.here hx rfl (hb hby at_26) rfl k) ?_
    refine OD.go (B := (T86.setTop (mkF m 29 #[.val (.int p0), .val (.int p1), .val (.int p2), .val (.int p3), .val (.int p4), .val (.int p5), .val (.int 5), .val (.ref b85), .unset, .unset] [(.int 1), (.int 5)]))) (fun t k => XS.iconst X86.here hx rfl (hb hby at_28) k) ?_
    refine OD.go (B := (T86.setTop (mkF m 32 #[.val (.int p0), .val (.int p1), .val (.int p2), .val (.int p3), .val (.int p4), .val (.int p5), .val (.int 5), .val (.ref b85), .unset, .unset] []))) (fun t k => XS.icmpNo X86.here hx rfl (hb hby at_29) rfl (tlt (by decide : (1 : Int32) < (5 : Int32))).2.2.2 k) ?_
    refine OD.go (B := (T86.setTop (mkF m 34 #[.val (.int p0), .val (.int p1), .val (.int p2), .val (.int p3), .val (.int p4), .val (.int p5), .val (.int 5), .val (.ref b85), .unset, .unset] [(.ref b85)]))) (fun t k => XS.aload X86.here hx rfl (hb hby at_32) rfl rfl k) ?_
    refine OD.go (B := (T86.setTop (mkF m 35 #[.val (.int p0), .val (.int p1), .val (.int p2), .val (.int p3), .val (.int p4), .val (.int p5), .val (.int 5), .val (.ref b85), .unset, .unset] [(.int 1), (.ref b85)]))) (fun t k => XS.iconst X86.here hx rfl (hb hby at_34) k) ?_
    refine OD.go (B := (T86.setTop (mkF m 36 #[.val (.int p0), .val (.int p1), .val (.int p2), .val (.int p3), .val (.int p4), .val (.int p5), .val (.int 5), .val (.ref b85), .unset, .unset] [(.int p2), (.int 1), (.ref b85)]))) (fun t k => XS.iloadN X86.here hx rfl (hb hby at_35) rfl k) ?_
    refine OD.go (B := (T86.setTop (mkF m 37 #[.val (.int p0), .val (.int p1), .val (.int p2), .val (.int p3), .val (.int p4), .val (.int p5), .val (.int 5), .val (.ref b85), .unset, .unset] [(.double (FP.i2d p2)), (.int 1), (.ref b85)]))) (fun t k => XS.i2dS X86.here hx rfl (hb hby at_36) rfl (v := (FP.i2d p2)) rfl k) ?_
    obtain ⟨cl87, Ar87, q87, S87, M87, H87, G87⟩ := id V86
    obtain ⟨T87, h87, X87, e87, W87, st87⟩ := stD X86 hx hZ e86 Ar87 (j := (1 : Int32)) (inb_of S87 ⟨by decide, by decide⟩) (g := (mkF m 37 #[.val (.int p0), .val (.int p1), .val (.int p2), .val (.int p3), .val (.int p4), .val (.int p5), .val (.int 5), .val (.ref b85), .unset, .unset] [(.double (FP.i2d p2)), (.int 1), (.ref b85)])) rfl rfl (hb hby at_37)
    have V87 : Arv Z h87 b85 k85 .double (5 : Int32) [(.double (FP.i2d p1)), (.double (FP.i2d p2)), (.double (0 : UInt64)), (.double (0 : UInt64)), (.double (0 : UInt64))] (.double (0 : UInt64)) := Arv.set Ar87 q87 S87 M87 H87 G87 rfl W87 1 rfl (Nat.le_of_ble_eq_true rfl)
    have N87 := Fr.snoc X87 N86 (Nat.le_trans (Nat.le_refl _) (Nat.le_of_eq g85.symm))
    refine OD.go (B := (T87.setTop (mkF m 38 #[.val (.int p0), .val (.int p1), .val (.int p2), .val (.int p3), .val (.int p4), .val (.int p5), .val (.int 5), .val (.ref b85), .unset, .unset] []))) st87 ?_
    refine OD.go (B := (T87.setTop (mkF m 40 #[.val (.int p0), .val (.int p1), .val (.int p2), .val (.int p3), .val (.int p4), .val (.int p5), .val (.int 5), .val (.ref b85), .unset, .unset] [(.int 5)]))) (fun t k => XS.iload X87.here hx rfl (hb hby at_38) rfl k) ?_
    refine OD.go (B := (T87.setTop (mkF m 41 #[.val (.int p0), .val (.int p1), .val (.int p2), .val (.int p3), .val (.int p4), .val (.int p5), .val (.int 5), .val (.ref b85), .unset, .unset] [(.int 2), (.int 5)]))) (fun t k => XS.iconst X87.here hx rfl (hb hby at_40) k) ?_
    refine OD.go (B := (T87.setTop (mkF m 44 #[.val (.int p0), .val (.int p1), .val (.int p2), .val (.int p3), .val (.int p4), .val (.int p5), .val (.int 5), .val (.ref b85), .unset, .unset] []))) (fun t k => XS.icmpNo X87.here hx rfl (hb hby at_41) rfl (tlt (by decide : (2 : Int32) < (5 : Int32))).2.2.2 k) ?_
    refine OD.go (B := (T87.setTop (mkF m 46 #[.val (.int p0), .val (.int p1), .val (.int p2), .val (.int p3), .val (.int p4), .val (.int p5), .val (.int 5), .val (.ref b85), .unset, .unset] [(.ref b85)]))) (fun t k => XS.aload X87.here hx rfl (hb hby at_44) rfl rfl k) ?_
    refine OD.go (B := (T87.setTop (mkF m 47 #[.val (.int p0), .val (.int p1), .val (.int p2), .val (.int p3), .val (.int p4), .val (.int p5), .val (.int 5), .val (.ref b85), .unset, .unset] [(.int 2), (.ref b85)]))) (fun t k => XS.iconst X87.here hx rfl (hb hby at_46) k) ?_
    refine OD.go (B := (T87.setTop (mkF m 48 #[.val (.int p0), .val (.int p1), .val (.int p2), .val (.int p3), .val (.int p4), .val (.int p5), .val (.int 5), .val (.ref b85), .unset, .unset] [(.int p3), (.int 2), (.ref b85)]))) (fun t k => XS.iloadN X87.here hx rfl (hb hby at_47) rfl k) ?_
    refine OD.go (B := (T87.setTop (mkF m 49 #[.val (.int p0), .val (.int p1), .val (.int p2), .val (.int p3), .val (.int p4), .val (.int p5), .val (.int 5), .val (.ref b85), .unset, .unset] [(.double (FP.i2d p3)), (.int 2), (.ref b85)]))) (fun t k => XS.i2dS X87.here hx rfl (hb hby at_48) rfl (v := (FP.i2d p3)) rfl k) ?_
    obtain ⟨cl88, Ar88, q88, S88, M88, H88, G88⟩ := id V87
    obtain ⟨T88, h88, X88, e88, W88, st88⟩ := stD X87 hx hZ e87 Ar88 (j := (2 : Int32)) (inb_of S88 ⟨by decide, by decide⟩) (g := (mkF m 49 #[.val (.int p0), .val (.int p1), .val (.int p2), .val (.int p3), .val (.int p4), .val (.int p5), .val (.int 5), .val (.ref b85), .unset, .unset] [(.double (FP.i2d p3)), (.int 2), (.ref b85)])) rfl rfl (hb hby at_49)
    have V88 : Arv Z h88 b85 k85 .double (5 : Int32) [(.double (FP.i2d p1)), (.double (FP.i2d p2)), (.double (FP.i2d p3)), (.double (0 : UInt64)), (.double (0 : UInt64))] (.double (0 : UInt64)) := Arv.set Ar88 q88 S88 M88 H88 G88 rfl W88 2 rfl (Nat.le_of_ble_eq_true rfl)
    have N88 := Fr.snoc X88 N87 (Nat.le_trans (Nat.le_refl _) (Nat.le_of_eq g85.symm))
    refine OD.go (B := (T88.setTop (mkF m 50 #[.val (.int p0), .val (.int p1), .val (.int p2), .val (.int p3), .val (.int p4), .val (.int p5), .val (.int 5), .val (.ref b85), .unset, .unset] []))) st88 ?_
    refine OD.go (B := (T88.setTop (mkF m 52 #[.val (.int p0), .val (.int p1), .val (.int p2), .val (.int p3), .val (.int p4), .val (.int p5), .val (.int 5), .val (.ref b85), .unset, .unset] [(.int 5)]))) (fun t k => XS.iload X88.here hx rfl (hb hby at_50) rfl k) ?_
    refine OD.go (B := (T88.setTop (mkF m 53 #[.val (.int p0), .val (.int p1), .val (.int p2), .val (.int p3), .val (.int p4), .val (.int p5), .val (.int 5), .val (.ref b85), .unset, .unset] [(.int 3), (.int 5)]))) (fun t k => XS.iconst X88.here hx rfl (hb hby at_52) k) ?_
    refine OD.go (B := (T88.setTop (mkF m 56 #[.val (.int p0), .val (.int p1), .val (.int p2), .val (.int p3), .val (.int p4), .val (.int p5), .val (.int 5), .val (.ref b85), .unset, .unset] []))) (fun t k => XS.icmpNo X88.here hx rfl (hb hby at_53) rfl (tlt (by decide : (3 : Int32) < (5 : Int32))).2.2.2 k) ?_
    refine OD.go (B := (T88.setTop (mkF m 58 #[.val (.int p0), .val (.int p1), .val (.int p2), .val (.int p3), .val (.int p4), .val (.int p5), .val (.int 5), .val (.ref b85), .unset, .unset] [(.ref b85)]))) (fun t k => XS.aload X88.here hx rfl (hb hby at_56) rfl rfl k) ?_
    refine OD.go (B := (T88.setTop (mkF m 59 #[.val (.int p0), .val (.int p1), .val (.int p2), .val (.int p3), .val (.int p4), .val (.int p5), .val (.int 5), .val (.ref b85), .unset, .unset] [(.int 3), (.ref b85)]))) (fun t k => XS.iconst X88.here hx rfl (hb hby at_58) k) ?_
    refine OD.go (B := (T88.setTop (mkF m 61 #[.val (.int p0), .val (.int p1), .val (.int p2), .val (.int p3), .val (.int p4), .val (.int p5), .val (.int 5), .val (.ref b85), .unset, .unset] [(.int p4), (.int 3), (.ref b85)]))) (fun t k => XS.iload X88.here hx rfl (hb hby at_59) rfl k) ?_
    refine OD.go (B := (T88.setTop (mkF m 62 #[.val (.int p0), .val (.int p1), .val (.int p2), .val (.int p3), .val (.int p4), .val (.int p5), .val (.int 5), .val (.ref b85), .unset, .unset] [(.double (FP.i2d p4)), (.int 3), (.ref b85)]))) (fun t k => XS.i2dS X88.here hx rfl (hb hby at_61) rfl (v := (FP.i2d p4)) rfl k) ?_
    obtain ⟨cl89, Ar89, q89, S89, M89, H89, G89⟩ := id V88
    obtain ⟨T89, h89, X89, e89, W89, st89⟩ := stD X88 hx hZ e88 Ar89 (j := (3 : Int32)) (inb_of S89 ⟨by decide, by decide⟩) (g := (mkF m 62 #[.val (.int p0), .val (.int p1), .val (.int p2), .val (.int p3), .val (.int p4), .val (.int p5), .val (.int 5), .val (.ref b85), .unset, .unset] [(.double (FP.i2d p4)), (.int 3), (.ref b85)])) rfl rfl (hb hby at_62)
    have V89 : Arv Z h89 b85 k85 .double (5 : Int32) [(.double (FP.i2d p1)), (.double (FP.i2d p2)), (.double (FP.i2d p3)), (.double (FP.i2d p4)), (.double (0 : UInt64))] (.double (0 : UInt64)) := Arv.set Ar89 q89 S89 M89 H89 G89 rfl W89 3 rfl (Nat.le_of_ble_eq_true rfl)
    have N89 := Fr.snoc X89 N88 (Nat.le_trans (Nat.le_refl _) (Nat.le_of_eq g85.symm))
    refine OD.go (B := (T89.setTop (mkF m 63 #[.val (.int p0), .val (.int p1), .val (.int p2), .val (.int p3), .val (.int p4), .val (.int p5), .val (.int 5), .val (.ref b85), .unset, .unset] []))) st89 ?_
    refine OD.go (B := (T89.setTop (mkF m 65 #[.val (.int p0), .val (.int p1), .val (.int p2), .val (.int p3), .val (.int p4), .val (.int p5), .val (.int 5), .val (.ref b85), .unset, .unset] [(.int 5)]))) (fun t k => XS.iload X89.here hx rfl (hb hby at_63) rfl k) ?_
    refine OD.go (B := (T89.setTop (mkF m 66 #[.val (.int p0), .val (.int p1), .val (.int p2), .val (.int p3), .val (.int p4), .val (.int p5), .val (.int 5), .val (.ref b85), .unset, .unset] [(.int 4), (.int 5)]))) (fun t k => XS.iconst X89.here hx rfl (hb hby at_65) k) ?_
    refine OD.go (B := (T89.setTop (mkF m 69 #[.val (.int p0), .val (.int p1), .val (.int p2), .val (.int p3), .val (.int p4), .val (.int p5), .val (.int 5), .val (.ref b85), .unset, .unset] []))) (fun t k => XS.icmpNo X89.here hx rfl (hb hby at_66) rfl (tlt (by decide : (4 : Int32) < (5 : Int32))).2.2.2 k) ?_
    refine OD.go (B := (T89.setTop (mkF m 71 #[.val (.int p0), .val (.int p1), .val (.int p2), .val (.int p3), .val (.int p4), .val (.int p5), .val (.int 5), .val (.ref b85), .unset, .unset] [(.ref b85)]))) (fun t k => XS.aload X89.here hx rfl (hb hby at_69) rfl rfl k) ?_
    refine OD.go (B := (T89.setTop (mkF m 72 #[.val (.int p0), .val (.int p1), .val (.int p2), .val (.int p3), .val (.int p4), .val (.int p5), .val (.int 5), .val (.ref b85), .unset, .unset] [(.int 4), (.ref b85)]))) (fun t k => XS.iconst X89.here hx rfl (hb hby at_71) k) ?_
    refine OD.go (B := (T89.setTop (mkF m 74 #[.val (.int p0), .val (.int p1), .val (.int p2), .val (.int p3), .val (.int p4), .val (.int p5), .val (.int 5), .val (.ref b85), .unset, .unset] [(.int p5), (.int 4), (.ref b85)]))) (fun t k => XS.iload X89.here hx rfl (hb hby at_72) rfl k) ?_
    refine OD.go (B := (T89.setTop (mkF m 75 #[.val (.int p0), .val (.int p1), .val (.int p2), .val (.int p3), .val (.int p4), .val (.int p5), .val (.int 5), .val (.ref b85), .unset, .unset] [(.double (FP.i2d p5)), (.int 4), (.ref b85)]))) (fun t k => XS.i2dS X89.here hx rfl (hb hby at_74) rfl (v := (FP.i2d p5)) rfl k) ?_
    obtain ⟨cl90, Ar90, q90, S90, M90, H90, G90⟩ := id V89
    obtain ⟨T90, h90, X90, e90, W90, st90⟩ := stD X89 hx hZ e89 Ar90 (j := (4 : Int32)) (inb_of S90 ⟨by decide, by decide⟩) (g := (mkF m 75 #[.val (.int p0), .val (.int p1), .val (.int p2), .val (.int p3), .val (.int p4), .val (.int p5), .val (.int 5), .val (.ref b85), .unset, .unset] [(.double (FP.i2d p5)), (.int 4), (.ref b85)])) rfl rfl (hb hby at_75)
    have V90 : Arv Z h90 b85 k85 .double (5 : Int32) [(.double (FP.i2d p1)), (.double (FP.i2d p2)), (.double (FP.i2d p3)), (.double (FP.i2d p4)), (.double (FP.i2d p5))] (.double (0 : UInt64)) := Arv.set Ar90 q90 S90 M90 H90 G90 rfl W90 4 rfl (Nat.le_of_ble_eq_true rfl)
    have N90 := Fr.snoc X90 N89 (Nat.le_trans (Nat.le_refl _) (Nat.le_of_eq g85.symm))
    refine OD.go (B := (T90.setTop (mkF m 76 #[.val (.int p0), .val (.int p1), .val (.int p2), .val (.int p3), .val (.int p4), .val (.int p5), .val (.int 5), .val (.ref b85), .unset, .unset] []))) st90 ?_
    refine OD.go (B := (T90.setTop (mkF m 78 #[.val (.int p0), .val (.int p1), .val (.int p2), .val (.int p3), .val (.int p4), .val (.int p5), .val (.int 5), .val (.ref b85), .unset, .unset] [(.ref b85)]))) (fun t k => XS.aload X90.here hx rfl (hb hby at_76) rfl rfl k) ?_
    have Vf91 : Arv Z h90 b85 k85 .double (5 : Int32) (own_rg (5 : Int32).toNatClampNeg (fun x => .double (sv0 x))) (.double 0) := by rw [hsv]; exact V90
    obtain ⟨_, _, ⟨T92, L92, k92, n92⟩, -, X92, ⟨Lc92, hQ92, l92, y92, z92⟩, st92⟩ := Jvm.LawKit.callS X90 hx (y := (⟨"com/example/topside/topside/DescendingOrder", "of", "([D)[I"⟩ : MethodName)) hown (mvT hZ (Wd1 hw)) (mvT hZ (Wd2 hw)) (mvT hZ (Wd3 hw)) (mvT hZ (Wd4 hw)) (by decide) (backOf (W := 0) (rmO5 l Z a0 hw [] b85 h90 h0.size (Nat.le_trans (Nat.le_trans (Nat.le_trans (Nat.le_trans (Nat.le_trans (Nat.le_trans (Nat.le_refl _) E85.1) (Keep.of_wr W86).1) (Keep.of_wr W87).1) (Keep.of_wr W88).1) (Keep.of_wr W89).1) (Keep.of_wr W90).1) k85 sv0 Vf91) hZ (Wd4 hw) (Wd3 hw) (by decide) (by decide)) (g := (mkF m 78 #[.val (.int p0), .val (.int p1), .val (.int p2), .val (.int p3), .val (.int p4), .val (.int p5), .val (.int 5), .val (.ref b85), .unset, .unset] [(.ref b85)])) rfl (by rw [hml]; rfl) (argsL := [(.ref b85)]) (rest := []) (lenOf pd2 rfl) rfl (by show 2 * 0 + _ ≤ _; exact Nat.le_of_eq rfl) (hb hby at_78) (fun _ _ => ⟨rfl, e90, (Nat.le_of_ble_eq_true rfl), (Nat.le_of_ble_eq_true rfl)⟩)
    dsimp only [Pt.U, Pt.locs, Pt.cells, Pt.slots] at X92 l92 y92 z92 st92 hQ92
    subst l92 y92 z92
    obtain ⟨b92, k92', rfl, Nq92, K92, ob92, A92⟩ := hQ92
    have N92 := Fr.app N90 Nq92
    refine OD.go (B := (T92.setTop (mkF m 81 #[.val (.int p0), .val (.int p1), .val (.int p2), .val (.int p3), .val (.int p4), .val (.int p5), .val (.int 5), .val (.ref b85), .unset, .unset] [(.ref b92)]))) st92 ?_
    refine OD.go (B := (T92.setTop (mkF m 83 #[.val (.int p0), .val (.int p1), .val (.int p2), .val (.int p3), .val (.int p4), .val (.int p5), .val (.int 5), .val (.ref b85), .val (.ref b92), .unset] []))) (fun t k => XS.astore X92.here hx rfl (hb hby at_81) rfl rfl (l' := #[.val (.int p0), .val (.int p1), .val (.int p2), .val (.int p3), .val (.int p4), .val (.int p5), .val (.int 5), .val (.ref b85), .val (.ref b92), .unset]) rfl k) ?_
    refine OD.go (B := (T92.setTop (mkF m 85 #[.val (.int p0), .val (.int p1), .val (.int p2), .val (.int p3), .val (.int p4), .val (.int p5), .val (.int 5), .val (.ref b85), .val (.ref b92), .unset] [(.ref b92)]))) (fun t k => XS.aload X92.here hx rfl (hb hby at_83) rfl rfl k) ?_
    refine OD.go (B := (T92.setTop (mkF m 88 #[.val (.int p0), .val (.int p1), .val (.int p2), .val (.int p3), .val (.int p4), .val (.int p5), .val (.int 5), .val (.ref b85), .val (.ref b92), .unset] []))) (fun t k => XS.ifnullNo X92.here hx rfl (hb hby at_85) rfl k) ?_
    refine OD.go (B := (T92.setTop (mkF m 90 #[.val (.int p0), .val (.int p1), .val (.int p2), .val (.int p3), .val (.int p4), .val (.int p5), .val (.int 5), .val (.ref b85), .val (.ref b92), .unset] [(.ref b92)]))) (fun t k => XS.aload X92.here hx rfl (hb hby at_88) rfl rfl k) ?_
    obtain ⟨cl93, Ar93, hl93⟩ := own_len A92
    refine OD.go (B := (T92.setTop (mkF m 91 #[.val (.int p0), .val (.int p1), .val (.int p2), .val (.int p3), .val (.int p4), .val (.int p5), .val (.int 5), .val (.ref b85), .val (.ref b92), .unset] [(.int 5)]))) (fun t k => X92.arraylength hx (by exact Ar93.1) (State.isArrayOf_alike hZ.alike Ar93.2.1) (g := (mkF m 90 #[.val (.int p0), .val (.int p1), .val (.int p2), .val (.int p3), .val (.int p4), .val (.int p5), .val (.int 5), .val (.ref b85), .val (.ref b92), .unset] [(.ref b92)])) rfl rfl (hb hby at_90) _ (by rw [hl93]; exact k)) ?_
    refine OD.go (B := (T92.setTop (mkF m 93 #[.val (.int p0), .val (.int p1), .val (.int p2), .val (.int p3), .val (.int p4), .val (.int p5), .val (.int 5), .val (.ref b85), .val (.ref b92), .unset] [(.int 5), (.int 5)]))) (fun t k => XS.iload X92.here hx rfl (hb hby at_91) rfl k) ?_
    refine OD.go (B := (T92.setTop (mkF m 98 #[.val (.int p0), .val (.int p1), .val (.int p2), .val (.int p3), .val (.int p4), .val (.int p5), .val (.int 5), .val (.ref b85), .val (.ref b92), .unset] []))) (fun t k => XS.icmpYes X92.here hx rfl (pc0 := 93) (pc' := 98) rfl (hb hby at_93) rfl (teq (by decide : (5 : Int32) = (5 : Int32))).1 (by decide) (by decide) k) ?_
    refine OD.go (B := (T92.setTop (mkF m 100 #[.val (.int p0), .val (.int p1), .val (.int p2), .val (.int p3), .val (.int p4), .val (.int p5), .val (.int 5), .val (.ref b85), .val (.ref b92), .unset] [(.ref b92)]))) (fun t k => XS.aload X92.here hx rfl (hb hby at_98) rfl rfl k) ?_
    refine OD.go (B := (T92.setTop (mkF m 101 #[.val (.int p0), .val (.int p1), .val (.int p2), .val (.int p3), .val (.int p4), .val (.int p5), .val (.int 5), .val (.ref b85), .val (.ref b92), .unset] [(.int 0), (.ref b92)]))) (fun t k => XS.iconst X92.here hx rfl (hb hby at_100) k) ?_
    refine OD.go (B := (T92.setTop (mkF m 103 #[.val (.int p0), .val (.int p1), .val (.int p2), .val (.int p3), .val (.int p4), .val (.int p5), .val (.int 5), .val (.ref b85), .val (.ref b92), .unset] [(.int 5), (.int 0), (.ref b92)]))) (fun t k => XS.iload X92.here hx rfl (hb hby at_101) rfl k) ?_
    obtain ⟨_, _, ⟨T94, L94, k94, n94⟩, -, X94, ⟨Lc94, hQ94, l94, y94, z94⟩, st94⟩ := Jvm.LawKit.callS X92 hx (y := (⟨"com/example/topside/topside/DescendingOrderOfPinLaw", "bit", "([III)I"⟩ : MethodName)) hown (mvT hZ (Wd6 hw)) (mvT hZ (Wd7 hw)) (mvT hZ (Wd8 hw)) (mvT hZ (Wd9 hw)) (by decide) (backOf (W := 0) (rmB1 l Z a0 hw [] b92 (0 : Int32) (5 : Int32) T92.heap k92' (own_m5_5 sv0) A92 ⟨by decide, by decide⟩ (own_m5_5_b sv0)) hZ (Wd9 hw) (Wd8 hw) (by decide) (by decide)) (g := (mkF m 103 #[.val (.int p0), .val (.int p1), .val (.int p2), .val (.int p3), .val (.int p4), .val (.int p5), .val (.int 5), .val (.ref b85), .val (.ref b92), .unset] [(.int 5), (.int 0), (.ref b92)])) rfl (by rw [hml]; rfl) (argsL := [(.ref b92), (.int 0), (.int 5)]) (rest := []) (lenOf pd3 rfl) rfl (by show 2 * 0 + _ ≤ _; exact Nat.le_of_eq rfl) (hb hby at_103) (fun _ _ => ⟨rfl, rfl, (Nat.le_of_ble_eq_true rfl), (Nat.le_of_ble_eq_true rfl)⟩)
    dsimp only [Pt.U, Pt.locs, Pt.cells, Pt.slots] at X94 l94 y94 z94 st94 hQ94
    subst l94 y94 z94
    obtain ⟨rfl, rfl, e94⟩ := hQ94
    try rw [List.append_nil] at X94
    refine OD.go (B := (T94.setTop (mkF m 106 #[.val (.int p0), .val (.int p1), .val (.int p2), .val (.int p3), .val (.int p4), .val (.int p5), .val (.int 5), .val (.ref b85), .val (.ref b92), .unset] [(.int ((1 : Int32) <<< (((own_m5_5 sv0) (0 : Int32)) &&& 31)))]))) st94 ?_
    refine OD.go (B := (T94.setTop (mkF m 108 #[.val (.int p0), .val (.int p1), .val (.int p2), .val (.int p3), .val (.int p4), .val (.int p5), .val (.int 5), .val (.ref b85), .val (.ref b92), .unset] [(.ref b92), (.int ((1 : Int32) <<< (((own_m5_5 sv0) (0 : Int32)) &&& 31)))]))) (fun t k => XS.aload X94.here hx rfl (hb hby at_106) rfl rfl k) ?_
    refine OD.go (B := (T94.setTop (mkF m 109 #[.val (.int p0), .val (.int p1), .val (.int p2), .val (.int p3), .val (.int p4), .val (.int p5), .val (.int 5), .val (.ref b85), .val (.ref b92), .unset] [(.int 1), (.ref b92), (.int ((1 : Int32) <<< (((own_m5_5 sv0) (0 : Int32)) &&& 31)))]))) (fun t k => XS.iconst X94.here hx rfl (hb hby at_108) k) ?_
    refine OD.go (B := (T94.setTop (mkF m 111 #[.val (.int p0), .val (.int p1), .val (.int p2), .val (.int p3), .val (.int p4), .val (.int p5), .val (.int 5), .val (.ref b85), .val (.ref b92), .unset] [(.int 5), (.int 1), (.ref b92), (.int ((1 : Int32) <<< (((own_m5_5 sv0) (0 : Int32)) &&& 31)))]))) (fun t k => XS.iload X94.here hx rfl (hb hby at_109) rfl k) ?_
    obtain ⟨_, _, ⟨T95, L95, k95, n95⟩, -, X95, ⟨Lc95, hQ95, l95, y95, z95⟩, st95⟩ := Jvm.LawKit.callS X94 hx (y := (⟨"com/example/topside/topside/DescendingOrderOfPinLaw", "bit", "([III)I"⟩ : MethodName)) hown (mvT hZ (Wd6 hw)) (mvT hZ (Wd7 hw)) (mvT hZ (Wd8 hw)) (mvT hZ (Wd9 hw)) (by decide) (backOf (W := 1) (rmB1 l Z a0 hw [] b92 (1 : Int32) (5 : Int32) T92.heap k92' (own_m5_5 sv0) A92 ⟨by decide, by decide⟩ (own_m5_5_b sv0)) hZ (Wd9 hw) (Wd8 hw) (by decide) (by decide)) (g := (mkF m 111 #[.val (.int p0), .val (.int p1), .val (.int p2), .val (.int p3), .val (.int p4), .val (.int p5), .val (.int 5), .val (.ref b85), .val (.ref b92), .unset] [(.int 5), (.int 1), (.ref b92), (.int ((1 : Int32) <<< (((own_m5_5 sv0) (0 : Int32)) &&& 31)))])) rfl (by rw [hml]; rfl) (argsL := [(.ref b92), (.int 1), (.int 5)]) (rest := [(.int ((1 : Int32) <<< (((own_m5_5 sv0) (0 : Int32)) &&& 31)))]) (lenOf pd3 rfl) rfl (by show 2 * 0 + _ ≤ _; exact Nat.le_of_eq rfl) (hb hby at_111) (fun _ _ => ⟨rfl, e94, (Nat.le_of_ble_eq_true rfl), (Nat.le_of_ble_eq_true rfl)⟩)
    dsimp only [Pt.U, Pt.locs, Pt.cells, Pt.slots] at X95 l95 y95 z95 st95 hQ95
    subst l95 y95 z95
    obtain ⟨rfl, rfl, e95⟩ := hQ95
    try rw [List.append_nil] at X95
    refine OD.go (B := (T95.setTop (mkF m 114 #[.val (.int p0), .val (.int p1), .val (.int p2), .val (.int p3), .val (.int p4), .val (.int p5), .val (.int 5), .val (.ref b85), .val (.ref b92), .unset] [(.int ((1 : Int32) <<< (((own_m5_5 sv0) (1 : Int32)) &&& 31))), (.int ((1 : Int32) <<< (((own_m5_5 sv0) (0 : Int32)) &&& 31)))]))) st95 ?_
    refine OD.go (B := (T95.setTop (mkF m 115 #[.val (.int p0), .val (.int p1), .val (.int p2), .val (.int p3), .val (.int p4), .val (.int p5), .val (.int 5), .val (.ref b85), .val (.ref b92), .unset] [(.int (((1 : Int32) <<< (((own_m5_5 sv0) (0 : Int32)) &&& 31)) ||| ((1 : Int32) <<< (((own_m5_5 sv0) (1 : Int32)) &&& 31))))]))) (fun t k => XS.ior X95.here hx rfl (hb hby at_114) rfl k) ?_
    refine OD.go (B := (T95.setTop (mkF m 117 #[.val (.int p0), .val (.int p1), .val (.int p2), .val (.int p3), .val (.int p4), .val (.int p5), .val (.int 5), .val (.ref b85), .val (.ref b92), .unset] [(.ref b92), (.int (((1 : Int32) <<< (((own_m5_5 sv0) (0 : Int32)) &&& 31)) ||| ((1 : Int32) <<< (((own_m5_5 sv0) (1 : Int32)) &&& 31))))]))) (fun t k => XS.aload X95.here hx rfl (hb hby at_115) rfl rfl k) ?_
    refine OD.go (B := (T95.setTop (mkF m 118 #[.val (.int p0), .val (.int p1), .val (.int p2), .val (.int p3), .val (.int p4), .val (.int p5), .val (.int 5), .val (.ref b85), .val (.ref b92), .unset] [(.int 2), (.ref b92), (.int (((1 : Int32) <<< (((own_m5_5 sv0) (0 : Int32)) &&& 31)) ||| ((1 : Int32) <<< (((own_m5_5 sv0) (1 : Int32)) &&& 31))))]))) (fun t k => XS.iconst X95.here hx rfl (hb hby at_117) k) ?_
    refine OD.go (B := (T95.setTop (mkF m 120 #[.val (.int p0), .val (.int p1), .val (.int p2), .val (.int p3), .val (.int p4), .val (.int p5), .val (.int 5), .val (.ref b85), .val (.ref b92), .unset] [(.int 5), (.int 2), (.ref b92), (.int (((1 : Int32) <<< (((own_m5_5 sv0) (0 : Int32)) &&& 31)) ||| ((1 : Int32) <<< (((own_m5_5 sv0) (1 : Int32)) &&& 31))))]))) (fun t k => XS.iload X95.here hx rfl (hb hby at_118) rfl k) ?_
    obtain ⟨_, _, ⟨T96, L96, k96, n96⟩, -, X96, ⟨Lc96, hQ96, l96, y96, z96⟩, st96⟩ := Jvm.LawKit.callS X95 hx (y := (⟨"com/example/topside/topside/DescendingOrderOfPinLaw", "bit", "([III)I"⟩ : MethodName)) hown (mvT hZ (Wd6 hw)) (mvT hZ (Wd7 hw)) (mvT hZ (Wd8 hw)) (mvT hZ (Wd9 hw)) (by decide) (backOf (W := 1) (rmB1 l Z a0 hw [] b92 (2 : Int32) (5 : Int32) T92.heap k92' (own_m5_5 sv0) A92 ⟨by decide, by decide⟩ (own_m5_5_b sv0)) hZ (Wd9 hw) (Wd8 hw) (by decide) (by decide)) (g := (mkF m 120 #[.val (.int p0), .val (.int p1), .val (.int p2), .val (.int p3), .val (.int p4), .val (.int p5), .val (.int 5), .val (.ref b85), .val (.ref b92), .unset] [(.int 5), (.int 2), (.ref b92), (.int (((1 : Int32) <<< (((own_m5_5 sv0) (0 : Int32)) &&& 31)) ||| ((1 : Int32) <<< (((own_m5_5 sv0) (1 : Int32)) &&& 31))))])) rfl (by rw [hml]; rfl) (argsL := [(.ref b92), (.int 2), (.int 5)]) (rest := [(.int (((1 : Int32) <<< (((own_m5_5 sv0) (0 : Int32)) &&& 31)) ||| ((1 : Int32) <<< (((own_m5_5 sv0) (1 : Int32)) &&& 31))))]) (lenOf pd3 rfl) rfl (by show 2 * 0 + _ ≤ _; exact Nat.le_of_eq rfl) (hb hby at_120) (fun _ _ => ⟨rfl, e95, (Nat.le_of_ble_eq_true rfl), (Nat.le_of_ble_eq_true rfl)⟩)
    dsimp only [Pt.U, Pt.locs, Pt.cells, Pt.slots] at X96 l96 y96 z96 st96 hQ96
    subst l96 y96 z96
    obtain ⟨rfl, rfl, e96⟩ := hQ96
    try rw [List.append_nil] at X96
    refine OD.go (B := (T96.setTop (mkF m 123 #[.val (.int p0), .val (.int p1), .val (.int p2), .val (.int p3), .val (.int p4), .val (.int p5), .val (.int 5), .val (.ref b85), .val (.ref b92), .unset] [(.int ((1 : Int32) <<< (((own_m5_5 sv0) (2 : Int32)) &&& 31))), (.int (((1 : Int32) <<< (((own_m5_5 sv0) (0 : Int32)) &&& 31)) ||| ((1 : Int32) <<< (((own_m5_5 sv0) (1 : Int32)) &&& 31))))]))) st96 ?_
    refine OD.go (B := (T96.setTop (mkF m 124 #[.val (.int p0), .val (.int p1), .val (.int p2), .val (.int p3), .val (.int p4), .val (.int p5), .val (.int 5), .val (.ref b85), .val (.ref b92), .unset] [(.int ((((1 : Int32) <<< (((own_m5_5 sv0) (0 : Int32)) &&& 31)) ||| ((1 : Int32) <<< (((own_m5_5 sv0) (1 : Int32)) &&& 31))) ||| ((1 : Int32) <<< (((own_m5_5 sv0) (2 : Int32)) &&& 31))))]))) (fun t k => XS.ior X96.here hx rfl (hb hby at_123) rfl k) ?_
    refine OD.go (B := (T96.setTop (mkF m 126 #[.val (.int p0), .val (.int p1), .val (.int p2), .val (.int p3), .val (.int p4), .val (.int p5), .val (.int 5), .val (.ref b85), .val (.ref b92), .unset] [(.ref b92), (.int ((((1 : Int32) <<< (((own_m5_5 sv0) (0 : Int32)) &&& 31)) ||| ((1 : Int32) <<< (((own_m5_5 sv0) (1 : Int32)) &&& 31))) ||| ((1 : Int32) <<< (((own_m5_5 sv0) (2 : Int32)) &&& 31))))]))) (fun t k => XS.aload X96.here hx rfl (hb hby at_124) rfl rfl k) ?_
    refine OD.go (B := (T96.setTop (mkF m 127 #[.val (.int p0), .val (.int p1), .val (.int p2), .val (.int p3), .val (.int p4), .val (.int p5), .val (.int 5), .val (.ref b85), .val (.ref b92), .unset] [(.int 3), (.ref b92), (.int ((((1 : Int32) <<< (((own_m5_5 sv0) (0 : Int32)) &&& 31)) ||| ((1 : Int32) <<< (((own_m5_5 sv0) (1 : Int32)) &&& 31))) ||| ((1 : Int32) <<< (((own_m5_5 sv0) (2 : Int32)) &&& 31))))]))) (fun t k => XS.iconst X96.here hx rfl (hb hby at_126) k) ?_
    refine OD.go (B := (T96.setTop (mkF m 129 #[.val (.int p0), .val (.int p1), .val (.int p2), .val (.int p3), .val (.int p4), .val (.int p5), .val (.int 5), .val (.ref b85), .val (.ref b92), .unset] [(.int 5), (.int 3), (.ref b92), (.int ((((1 : Int32) <<< (((own_m5_5 sv0) (0 : Int32)) &&& 31)) ||| ((1 : Int32) <<< (((own_m5_5 sv0) (1 : Int32)) &&& 31))) ||| ((1 : Int32) <<< (((own_m5_5 sv0) (2 : Int32)) &&& 31))))]))) (fun t k => XS.iload X96.here hx rfl (hb hby at_127) rfl k) ?_
    obtain ⟨_, _, ⟨T97, L97, k97, n97⟩, -, X97, ⟨Lc97, hQ97, l97, y97, z97⟩, st97⟩ := Jvm.LawKit.callS X96 hx (y := (⟨"com/example/topside/topside/DescendingOrderOfPinLaw", "bit", "([III)I"⟩ : MethodName)) hown (mvT hZ (Wd6 hw)) (mvT hZ (Wd7 hw)) (mvT hZ (Wd8 hw)) (mvT hZ (Wd9 hw)) (by decide) (backOf (W := 1) (rmB1 l Z a0 hw [] b92 (3 : Int32) (5 : Int32) T92.heap k92' (own_m5_5 sv0) A92 ⟨by decide, by decide⟩ (own_m5_5_b sv0)) hZ (Wd9 hw) (Wd8 hw) (by decide) (by decide)) (g := (mkF m 129 #[.val (.int p0), .val (.int p1), .val (.int p2), .val (.int p3), .val (.int p4), .val (.int p5), .val (.int 5), .val (.ref b85), .val (.ref b92), .unset] [(.int 5), (.int 3), (.ref b92), (.int ((((1 : Int32) <<< (((own_m5_5 sv0) (0 : Int32)) &&& 31)) ||| ((1 : Int32) <<< (((own_m5_5 sv0) (1 : Int32)) &&& 31))) ||| ((1 : Int32) <<< (((own_m5_5 sv0) (2 : Int32)) &&& 31))))])) rfl (by rw [hml]; rfl) (argsL := [(.ref b92), (.int 3), (.int 5)]) (rest := [(.int ((((1 : Int32) <<< (((own_m5_5 sv0) (0 : Int32)) &&& 31)) ||| ((1 : Int32) <<< (((own_m5_5 sv0) (1 : Int32)) &&& 31))) ||| ((1 : Int32) <<< (((own_m5_5 sv0) (2 : Int32)) &&& 31))))]) (lenOf pd3 rfl) rfl (by show 2 * 0 + _ ≤ _; exact Nat.le_of_eq rfl) (hb hby at_129) (fun _ _ => ⟨rfl, e96, (Nat.le_of_ble_eq_true rfl), (Nat.le_of_ble_eq_true rfl)⟩)
    dsimp only [Pt.U, Pt.locs, Pt.cells, Pt.slots] at X97 l97 y97 z97 st97 hQ97
    subst l97 y97 z97
    obtain ⟨rfl, rfl, e97⟩ := hQ97
    try rw [List.append_nil] at X97
    refine OD.go (B := (T97.setTop (mkF m 132 #[.val (.int p0), .val (.int p1), .val (.int p2), .val (.int p3), .val (.int p4), .val (.int p5), .val (.int 5), .val (.ref b85), .val (.ref b92), .unset] [(.int ((1 : Int32) <<< (((own_m5_5 sv0) (3 : Int32)) &&& 31))), (.int ((((1 : Int32) <<< (((own_m5_5 sv0) (0 : Int32)) &&& 31)) ||| ((1 : Int32) <<< (((own_m5_5 sv0) (1 : Int32)) &&& 31))) ||| ((1 : Int32) <<< (((own_m5_5 sv0) (2 : Int32)) &&& 31))))]))) st97 ?_
    refine OD.go (B := (T97.setTop (mkF m 133 #[.val (.int p0), .val (.int p1), .val (.int p2), .val (.int p3), .val (.int p4), .val (.int p5), .val (.int 5), .val (.ref b85), .val (.ref b92), .unset] [(.int (((((1 : Int32) <<< (((own_m5_5 sv0) (0 : Int32)) &&& 31)) ||| ((1 : Int32) <<< (((own_m5_5 sv0) (1 : Int32)) &&& 31))) ||| ((1 : Int32) <<< (((own_m5_5 sv0) (2 : Int32)) &&& 31))) ||| ((1 : Int32) <<< (((own_m5_5 sv0) (3 : Int32)) &&& 31))))]))) (fun t k => XS.ior X97.here hx rfl (hb hby at_132) rfl k) ?_
    refine OD.go (B := (T97.setTop (mkF m 135 #[.val (.int p0), .val (.int p1), .val (.int p2), .val (.int p3), .val (.int p4), .val (.int p5), .val (.int 5), .val (.ref b85), .val (.ref b92), .unset] [(.ref b92), (.int (((((1 : Int32) <<< (((own_m5_5 sv0) (0 : Int32)) &&& 31)) ||| ((1 : Int32) <<< (((own_m5_5 sv0) (1 : Int32)) &&& 31))) ||| ((1 : Int32) <<< (((own_m5_5 sv0) (2 : Int32)) &&& 31))) ||| ((1 : Int32) <<< (((own_m5_5 sv0) (3 : Int32)) &&& 31))))]))) (fun t k => XS.aload X97.here hx rfl (hb hby at_133) rfl rfl k) ?_
    refine OD.go (B := (T97.setTop (mkF m 136 #[.val (.int p0), .val (.int p1), .val (.int p2), .val (.int p3), .val (.int p4), .val (.int p5), .val (.int 5), .val (.ref b85), .val (.ref b92), .unset] [(.int 4), (.ref b92), (.int (((((1 : Int32) <<< (((own_m5_5 sv0) (0 : Int32)) &&& 31)) ||| ((1 : Int32) <<< (((own_m5_5 sv0) (1 : Int32)) &&& 31))) ||| ((1 : Int32) <<< (((own_m5_5 sv0) (2 : Int32)) &&& 31))) ||| ((1 : Int32) <<< (((own_m5_5 sv0) (3 : Int32)) &&& 31))))]))) (fun t k => XS.iconst X97.here hx rfl (hb hby at_135) k) ?_
    refine OD.go (B := (T97.setTop (mkF m 138 #[.val (.int p0), .val (.int p1), .val (.int p2), .val (.int p3), .val (.int p4), .val (.int p5), .val (.int 5), .val (.ref b85), .val (.ref b92), .unset] [(.int 5), (.int 4), (.ref b92), (.int (((((1 : Int32) <<< (((own_m5_5 sv0) (0 : Int32)) &&& 31)) ||| ((1 : Int32) <<< (((own_m5_5 sv0) (1 : Int32)) &&& 31))) ||| ((1 : Int32) <<< (((own_m5_5 sv0) (2 : Int32)) &&& 31))) ||| ((1 : Int32) <<< (((own_m5_5 sv0) (3 : Int32)) &&& 31))))]))) (fun t k => XS.iload X97.here hx rfl (hb hby at_136) rfl k) ?_
    obtain ⟨_, _, ⟨T98, L98, k98, n98⟩, -, X98, ⟨Lc98, hQ98, l98, y98, z98⟩, st98⟩ := Jvm.LawKit.callS X97 hx (y := (⟨"com/example/topside/topside/DescendingOrderOfPinLaw", "bit", "([III)I"⟩ : MethodName)) hown (mvT hZ (Wd6 hw)) (mvT hZ (Wd7 hw)) (mvT hZ (Wd8 hw)) (mvT hZ (Wd9 hw)) (by decide) (backOf (W := 1) (rmB1 l Z a0 hw [] b92 (4 : Int32) (5 : Int32) T92.heap k92' (own_m5_5 sv0) A92 ⟨by decide, by decide⟩ (own_m5_5_b sv0)) hZ (Wd9 hw) (Wd8 hw) (by decide) (by decide)) (g := (mkF m 138 #[.val (.int p0), .val (.int p1), .val (.int p2), .val (.int p3), .val (.int p4), .val (.int p5), .val (.int 5), .val (.ref b85), .val (.ref b92), .unset] [(.int 5), (.int 4), (.ref b92), (.int (((((1 : Int32) <<< (((own_m5_5 sv0) (0 : Int32)) &&& 31)) ||| ((1 : Int32) <<< (((own_m5_5 sv0) (1 : Int32)) &&& 31))) ||| ((1 : Int32) <<< (((own_m5_5 sv0) (2 : Int32)) &&& 31))) ||| ((1 : Int32) <<< (((own_m5_5 sv0) (3 : Int32)) &&& 31))))])) rfl (by rw [hml]; rfl) (argsL := [(.ref b92), (.int 4), (.int 5)]) (rest := [(.int (((((1 : Int32) <<< (((own_m5_5 sv0) (0 : Int32)) &&& 31)) ||| ((1 : Int32) <<< (((own_m5_5 sv0) (1 : Int32)) &&& 31))) ||| ((1 : Int32) <<< (((own_m5_5 sv0) (2 : Int32)) &&& 31))) ||| ((1 : Int32) <<< (((own_m5_5 sv0) (3 : Int32)) &&& 31))))]) (lenOf pd3 rfl) rfl (by show 2 * 0 + _ ≤ _; exact Nat.le_of_eq rfl) (hb hby at_138) (fun _ _ => ⟨rfl, e97, (Nat.le_of_ble_eq_true rfl), (Nat.le_of_ble_eq_true rfl)⟩)
    dsimp only [Pt.U, Pt.locs, Pt.cells, Pt.slots] at X98 l98 y98 z98 st98 hQ98
    subst l98 y98 z98
    obtain ⟨rfl, rfl, e98⟩ := hQ98
    try rw [List.append_nil] at X98
    refine OD.go (B := (T98.setTop (mkF m 141 #[.val (.int p0), .val (.int p1), .val (.int p2), .val (.int p3), .val (.int p4), .val (.int p5), .val (.int 5), .val (.ref b85), .val (.ref b92), .unset] [(.int ((1 : Int32) <<< (((own_m5_5 sv0) (4 : Int32)) &&& 31))), (.int (((((1 : Int32) <<< (((own_m5_5 sv0) (0 : Int32)) &&& 31)) ||| ((1 : Int32) <<< (((own_m5_5 sv0) (1 : Int32)) &&& 31))) ||| ((1 : Int32) <<< (((own_m5_5 sv0) (2 : Int32)) &&& 31))) ||| ((1 : Int32) <<< (((own_m5_5 sv0) (3 : Int32)) &&& 31))))]))) st98 ?_
    refine OD.go (B := (T98.setTop (mkF m 142 #[.val (.int p0), .val (.int p1), .val (.int p2), .val (.int p3), .val (.int p4), .val (.int p5), .val (.int 5), .val (.ref b85), .val (.ref b92), .unset] [(.int ((((((1 : Int32) <<< (((own_m5_5 sv0) (0 : Int32)) &&& 31)) ||| ((1 : Int32) <<< (((own_m5_5 sv0) (1 : Int32)) &&& 31))) ||| ((1 : Int32) <<< (((own_m5_5 sv0) (2 : Int32)) &&& 31))) ||| ((1 : Int32) <<< (((own_m5_5 sv0) (3 : Int32)) &&& 31))) ||| ((1 : Int32) <<< (((own_m5_5 sv0) (4 : Int32)) &&& 31))))]))) (fun t k => XS.ior X98.here hx rfl (hb hby at_141) rfl k) ?_
    refine OD.go (B := (T98.setTop (mkF m 144 #[.val (.int p0), .val (.int p1), .val (.int p2), .val (.int p3), .val (.int p4), .val (.int p5), .val (.int 5), .val (.ref b85), .val (.ref b92), .val (.int ((((((1 : Int32) <<< (((own_m5_5 sv0) (0 : Int32)) &&& 31)) ||| ((1 : Int32) <<< (((own_m5_5 sv0) (1 : Int32)) &&& 31))) ||| ((1 : Int32) <<< (((own_m5_5 sv0) (2 : Int32)) &&& 31))) ||| ((1 : Int32) <<< (((own_m5_5 sv0) (3 : Int32)) &&& 31))) ||| ((1 : Int32) <<< (((own_m5_5 sv0) (4 : Int32)) &&& 31))))] []))) (fun t k => XS.istore X98.here hx rfl (hb hby at_142) rfl (l' := #[.val (.int p0), .val (.int p1), .val (.int p2), .val (.int p3), .val (.int p4), .val (.int p5), .val (.int 5), .val (.ref b85), .val (.ref b92), .val (.int ((((((1 : Int32) <<< (((own_m5_5 sv0) (0 : Int32)) &&& 31)) ||| ((1 : Int32) <<< (((own_m5_5 sv0) (1 : Int32)) &&& 31))) ||| ((1 : Int32) <<< (((own_m5_5 sv0) (2 : Int32)) &&& 31))) ||| ((1 : Int32) <<< (((own_m5_5 sv0) (3 : Int32)) &&& 31))) ||| ((1 : Int32) <<< (((own_m5_5 sv0) (4 : Int32)) &&& 31))))]) rfl k) ?_
    generalize hu142_99 : ((((((1 : Int32) <<< (((own_m5_5 sv0) (0 : Int32)) &&& 31)) ||| ((1 : Int32) <<< (((own_m5_5 sv0) (1 : Int32)) &&& 31))) ||| ((1 : Int32) <<< (((own_m5_5 sv0) (2 : Int32)) &&& 31))) ||| ((1 : Int32) <<< (((own_m5_5 sv0) (3 : Int32)) &&& 31))) ||| ((1 : Int32) <<< (((own_m5_5 sv0) (4 : Int32)) &&& 31))) = u142_99
    refine OD.go (B := (T98.setTop (mkF m 146 #[.val (.int p0), .val (.int p1), .val (.int p2), .val (.int p3), .val (.int p4), .val (.int p5), .val (.int 5), .val (.ref b85), .val (.ref b92), .val (.int u142_99)] [(.int u142_99)]))) (fun t k => XS.iload X98.here hx rfl (hb hby at_144) rfl k) ?_
    refine OD.go (B := (T98.setTop (mkF m 147 #[.val (.int p0), .val (.int p1), .val (.int p2), .val (.int p3), .val (.int p4), .val (.int p5), .val (.int 5), .val (.ref b85), .val (.ref b92), .val (.int u142_99)] [(.int 1), (.int u142_99)]))) (fun t k => XS.iconst X98.here hx rfl (hb hby at_146) k) ?_
    refine OD.go (B := (T98.setTop (mkF m 149 #[.val (.int p0), .val (.int p1), .val (.int p2), .val (.int p3), .val (.int p4), .val (.int p5), .val (.int 5), .val (.ref b85), .val (.ref b92), .val (.int u142_99)] [(.int 5), (.int 1), (.int u142_99)]))) (fun t k => XS.iload X98.here hx rfl (hb hby at_147) rfl k) ?_
    refine OD.go (B := (T98.setTop (mkF m 150 #[.val (.int p0), .val (.int p1), .val (.int p2), .val (.int p3), .val (.int p4), .val (.int p5), .val (.int 5), .val (.ref b85), .val (.ref b92), .val (.int u142_99)] [(.int ((1 : Int32) <<< ((5 : Int32) &&& 31))), (.int u142_99)]))) (fun t k => XS.ishl X98.here hx rfl (hb hby at_149) rfl k) ?_
    refine OD.go (B := (T98.setTop (mkF m 151 #[.val (.int p0), .val (.int p1), .val (.int p2), .val (.int p3), .val (.int p4), .val (.int p5), .val (.int 5), .val (.ref b85), .val (.ref b92), .val (.int u142_99)] [(.int 1), (.int ((1 : Int32) <<< ((5 : Int32) &&& 31))), (.int u142_99)]))) (fun t k => XS.iconst X98.here hx rfl (hb hby at_150) k) ?_
    refine OD.go (B := (T98.setTop (mkF m 152 #[.val (.int p0), .val (.int p1), .val (.int p2), .val (.int p3), .val (.int p4), .val (.int p5), .val (.int 5), .val (.ref b85), .val (.ref b92), .val (.int u142_99)] [(.int (((1 : Int32) <<< ((5 : Int32) &&& 31)) - (1 : Int32))), (.int u142_99)]))) (fun t k => XS.isub X98.here hx rfl (hb hby at_151) rfl k) ?_
    refine OD.go (B := (T98.setTop (mkF m 157 #[.val (.int p0), .val (.int p1), .val (.int p2), .val (.int p3), .val (.int p4), .val (.int p5), .val (.int 5), .val (.ref b85), .val (.ref b92), .val (.int u142_99)] []))) (fun t k => XS.icmpYes X98.here hx rfl (pc0 := 152) (pc' := 157) rfl (hb hby at_152) rfl (teq (by rw [← hu142_99]; (try rw [hsv]); exact own_mask5 p1 p2 p3 p4 p5)).1 (by decide) (by decide) k) ?_
    refine OD.go (B := (T98.setTop (mkF m 159 #[.val (.int p0), .val (.int p1), .val (.int p2), .val (.int p3), .val (.int p4), .val (.int p5), .val (.int 5), .val (.ref b85), .val (.ref b92), .val (.int u142_99)] [(.ref b85)]))) (fun t k => XS.aload X98.here hx rfl (hb hby at_157) rfl rfl k) ?_
    refine OD.go (B := (T98.setTop (mkF m 161 #[.val (.int p0), .val (.int p1), .val (.int p2), .val (.int p3), .val (.int p4), .val (.int p5), .val (.int 5), .val (.ref b85), .val (.ref b92), .val (.int u142_99)] [(.ref b92), (.ref b85)]))) (fun t k => XS.aload X98.here hx rfl (hb hby at_159) rfl rfl k) ?_
    refine OD.go (B := (T98.setTop (mkF m 162 #[.val (.int p0), .val (.int p1), .val (.int p2), .val (.int p3), .val (.int p4), .val (.int p5), .val (.int 5), .val (.ref b85), .val (.ref b92), .val (.int u142_99)] [(.int 0), (.ref b92), (.ref b85)]))) (fun t k => XS.iconst X98.here hx rfl (hb hby at_161) k) ?_
    refine OD.go (B := (T98.setTop (mkF m 164 #[.val (.int p0), .val (.int p1), .val (.int p2), .val (.int p3), .val (.int p4), .val (.int p5), .val (.int 5), .val (.ref b85), .val (.ref b92), .val (.int u142_99)] [(.int 5), (.int 0), (.ref b92), (.ref b85)]))) (fun t k => XS.iload X98.here hx rfl (hb hby at_162) rfl k) ?_
    have f100 := (Vf91.keep K92 nin0)
    obtain ⟨_, _, ⟨T101, L101, k101, n101⟩, -, X101, ⟨Lc101, hQ101, l101, y101, z101⟩, st101⟩ := Jvm.LawKit.callS X98 hx (y := (⟨"com/example/topside/topside/DescendingOrderOfPinLaw", "pair", "([D[III)Z"⟩ : MethodName)) hown (mvT hZ (Wd10 hw)) (mvT hZ (Wd11 hw)) (mvT hZ (Wd8 hw)) (mvT hZ (Wd12 hw)) (by decide) (backOf (W := 0) (rmP1 l Z a0 hw [] b85 b92 (0 : Int32) (5 : Int32) T92.heap k92' k85 (own_m5_5 sv0) sv0 f100 A92 ⟨by decide, by decide⟩ ⟨by decide, by decide⟩ (own_m5_5_b sv0)) hZ (Wd12 hw) (Wd8 hw) (by decide) (by decide)) (g := (mkF m 164 #[.val (.int p0), .val (.int p1), .val (.int p2), .val (.int p3), .val (.int p4), .val (.int p5), .val (.int 5), .val (.ref b85), .val (.ref b92), .val (.int u142_99)] [(.int 5), (.int 0), (.ref b92), (.ref b85)])) rfl (by rw [hml]; rfl) (argsL := [(.ref b85), (.ref b92), (.int 0), (.int 5)]) (rest := []) (lenOf pd4 rfl) rfl (by show 2 * 0 + _ ≤ _; exact Nat.le_of_eq rfl) (hb hby at_164) (fun _ _ => ⟨rfl, e98, (Nat.le_of_ble_eq_true rfl), (Nat.le_of_ble_eq_true rfl)⟩)
    dsimp only [Pt.U, Pt.locs, Pt.cells, Pt.slots] at X101 l101 y101 z101 st101 hQ101
    subst l101 y101 z101
    obtain ⟨rfl, rfl, e101⟩ := hQ101
    try rw [List.append_nil] at X101
    refine OD.go (B := (T101.setTop (mkF m 167 #[.val (.int p0), .val (.int p1), .val (.int p2), .val (.int p3), .val (.int p4), .val (.int p5), .val (.int 5), .val (.ref b85), .val (.ref b92), .val (.int u142_99)] [(.int (own_pr sv0 ((own_m5_5 sv0) (0 : Int32)) ((own_m5_5 sv0) ((0 : Int32) + (1 : Int32)))))]))) st101 ?_
    refine OD.go (B := (T101.setTop (mkF m 170 #[.val (.int p0), .val (.int p1), .val (.int p2), .val (.int p3), .val (.int p4), .val (.int p5), .val (.int 5), .val (.ref b85), .val (.ref b92), .val (.int u142_99)] []))) (fun t k => XS.ifNo X101.here hx rfl (hb hby at_167) rfl (by rw [if0]; exact (feq (by rw [hsv, own_pair5_0]; decide)).1) k) ?_
    refine OD.go (B := (T101.setTop (mkF m 172 #[.val (.int p0), .val (.int p1), .val (.int p2), .val (.int p3), .val (.int p4), .val (.int p5), .val (.int 5), .val (.ref b85), .val (.ref b92), .val (.int u142_99)] [(.ref b85)]))) (fun t k => XS.aload X101.here hx rfl (hb hby at_170) rfl rfl k) ?_
    refine OD.go (B := (T101.setTop (mkF m 174 #[.val (.int p0), .val (.int p1), .val (.int p2), .val (.int p3), .val (.int p4), .val (.int p5), .val (.int 5), .val (.ref b85), .val (.ref b92), .val (.int u142_99)] [(.ref b92), (.ref b85)]))) (fun t k => XS.aload X101.here hx rfl (hb hby at_172) rfl rfl k) ?_
    refine OD.go (B := (T101.setTop (mkF m 175 #[.val (.int p0), .val (.int p1), .val (.int p2), .val (.int p3), .val (.int p4), .val (.int p5), .val (.int 5), .val (.ref b85), .val (.ref b92), .val (.int u142_99)] [(.int 1), (.ref b92), (.ref b85)]))) (fun t k => XS.iconst X101.here hx rfl (hb hby at_174) k) ?_
    refine OD.go (B := (T101.setTop (mkF m 177 #[.val (.int p0), .val (.int p1), .val (.int p2), .val (.int p3), .val (.int p4), .val (.int p5), .val (.int 5), .val (.ref b85), .val (.ref b92), .val (.int u142_99)] [(.int 5), (.int 1), (.ref b92), (.ref b85)]))) (fun t k => XS.iload X101.here hx rfl (hb hby at_175) rfl k) ?_
    obtain ⟨_, _, ⟨T102, L102, k102, n102⟩, -, X102, ⟨Lc102, hQ102, l102, y102, z102⟩, st102⟩ := Jvm.LawKit.callS X101 hx (y := (⟨"com/example/topside/topside/DescendingOrderOfPinLaw", "pair", "([D[III)Z"⟩ : MethodName)) hown (mvT hZ (Wd10 hw)) (mvT hZ (Wd11 hw)) (mvT hZ (Wd8 hw)) (mvT hZ (Wd12 hw)) (by decide) (backOf (W := 0) (rmP1 l Z a0 hw [] b85 b92 (1 : Int32) (5 : Int32) T92.heap k92' k85 (own_m5_5 sv0) sv0 f100 A92 ⟨by decide, by decide⟩ ⟨by decide, by decide⟩ (own_m5_5_b sv0)) hZ (Wd12 hw) (Wd8 hw) (by decide) (by decide)) (g := (mkF m 177 #[.val (.int p0), .val (.int p1), .val (.int p2), .val (.int p3), .val (.int p4), .val (.int p5), .val (.int 5), .val (.ref b85), .val (.ref b92), .val (.int u142_99)] [(.int 5), (.int 1), (.ref b92), (.ref b85)])) rfl (by rw [hml]; rfl) (argsL := [(.ref b85), (.ref b92), (.int 1), (.int 5)]) (rest := []) (lenOf pd4 rfl) rfl (by show 2 * 0 + _ ≤ _; exact Nat.le_of_eq rfl) (hb hby at_177) (fun _ _ => ⟨rfl, e101, (Nat.le_of_ble_eq_true rfl), (Nat.le_of_ble_eq_true rfl)⟩)
    dsimp only [Pt.U, Pt.locs, Pt.cells, Pt.slots] at X102 l102 y102 z102 st102 hQ102
    subst l102 y102 z102
    obtain ⟨rfl, rfl, e102⟩ := hQ102
    try rw [List.append_nil] at X102
    refine OD.go (B := (T102.setTop (mkF m 180 #[.val (.int p0), .val (.int p1), .val (.int p2), .val (.int p3), .val (.int p4), .val (.int p5), .val (.int 5), .val (.ref b85), .val (.ref b92), .val (.int u142_99)] [(.int (own_pr sv0 ((own_m5_5 sv0) (1 : Int32)) ((own_m5_5 sv0) ((1 : Int32) + (1 : Int32)))))]))) st102 ?_
    refine OD.go (B := (T102.setTop (mkF m 183 #[.val (.int p0), .val (.int p1), .val (.int p2), .val (.int p3), .val (.int p4), .val (.int p5), .val (.int 5), .val (.ref b85), .val (.ref b92), .val (.int u142_99)] []))) (fun t k => XS.ifNo X102.here hx rfl (hb hby at_180) rfl (by rw [if0]; exact (feq (by rw [hsv, own_pair5_1]; decide)).1) k) ?_
    refine OD.go (B := (T102.setTop (mkF m 185 #[.val (.int p0), .val (.int p1), .val (.int p2), .val (.int p3), .val (.int p4), .val (.int p5), .val (.int 5), .val (.ref b85), .val (.ref b92), .val (.int u142_99)] [(.ref b85)]))) (fun t k => XS.aload X102.here hx rfl (hb hby at_183) rfl rfl k) ?_
    refine OD.go (B := (T102.setTop (mkF m 187 #[.val (.int p0), .val (.int p1), .val (.int p2), .val (.int p3), .val (.int p4), .val (.int p5), .val (.int 5), .val (.ref b85), .val (.ref b92), .val (.int u142_99)] [(.ref b92), (.ref b85)]))) (fun t k => XS.aload X102.here hx rfl (hb hby at_185) rfl rfl k) ?_
    refine OD.go (B := (T102.setTop (mkF m 188 #[.val (.int p0), .val (.int p1), .val (.int p2), .val (.int p3), .val (.int p4), .val (.int p5), .val (.int 5), .val (.ref b85), .val (.ref b92), .val (.int u142_99)] [(.int 2), (.ref b92), (.ref b85)]))) (fun t k => XS.iconst X102.here hx rfl (hb hby at_187) k) ?_
    refine OD.go (B := (T102.setTop (mkF m 190 #[.val (.int p0), .val (.int p1), .val (.int p2), .val (.int p3), .val (.int p4), .val (.int p5), .val (.int 5), .val (.ref b85), .val (.ref b92), .val (.int u142_99)] [(.int 5), (.int 2), (.ref b92), (.ref b85)]))) (fun t k => XS.iload X102.here hx rfl (hb hby at_188) rfl k) ?_
    obtain ⟨_, _, ⟨T103, L103, k103, n103⟩, -, X103, ⟨Lc103, hQ103, l103, y103, z103⟩, st103⟩ := Jvm.LawKit.callS X102 hx (y := (⟨"com/example/topside/topside/DescendingOrderOfPinLaw", "pair", "([D[III)Z"⟩ : MethodName)) hown (mvT hZ (Wd10 hw)) (mvT hZ (Wd11 hw)) (mvT hZ (Wd8 hw)) (mvT hZ (Wd12 hw)) (by decide) (backOf (W := 0) (rmP1 l Z a0 hw [] b85 b92 (2 : Int32) (5 : Int32) T92.heap k92' k85 (own_m5_5 sv0) sv0 f100 A92 ⟨by decide, by decide⟩ ⟨by decide, by decide⟩ (own_m5_5_b sv0)) hZ (Wd12 hw) (Wd8 hw) (by decide) (by decide)) (g := (mkF m 190 #[.val (.int p0), .val (.int p1), .val (.int p2), .val (.int p3), .val (.int p4), .val (.int p5), .val (.int 5), .val (.ref b85), .val (.ref b92), .val (.int u142_99)] [(.int 5), (.int 2), (.ref b92), (.ref b85)])) rfl (by rw [hml]; rfl) (argsL := [(.ref b85), (.ref b92), (.int 2), (.int 5)]) (rest := []) (lenOf pd4 rfl) rfl (by show 2 * 0 + _ ≤ _; exact Nat.le_of_eq rfl) (hb hby at_190) (fun _ _ => ⟨rfl, e102, (Nat.le_of_ble_eq_true rfl), (Nat.le_of_ble_eq_true rfl)⟩)
    dsimp only [Pt.U, Pt.locs, Pt.cells, Pt.slots] at X103 l103 y103 z103 st103 hQ103
    subst l103 y103 z103
    obtain ⟨rfl, rfl, e103⟩ := hQ103
    try rw [List.append_nil] at X103
    refine OD.go (B := (T103.setTop (mkF m 193 #[.val (.int p0), .val (.int p1), .val (.int p2), .val (.int p3), .val (.int p4), .val (.int p5), .val (.int 5), .val (.ref b85), .val (.ref b92), .val (.int u142_99)] [(.int (own_pr sv0 ((own_m5_5 sv0) (2 : Int32)) ((own_m5_5 sv0) ((2 : Int32) + (1 : Int32)))))]))) st103 ?_
    refine OD.go (B := (T103.setTop (mkF m 196 #[.val (.int p0), .val (.int p1), .val (.int p2), .val (.int p3), .val (.int p4), .val (.int p5), .val (.int 5), .val (.ref b85), .val (.ref b92), .val (.int u142_99)] []))) (fun t k => XS.ifNo X103.here hx rfl (hb hby at_193) rfl (by rw [if0]; exact (feq (by rw [hsv, own_pair5_2]; decide)).1) k) ?_
    refine OD.go (B := (T103.setTop (mkF m 198 #[.val (.int p0), .val (.int p1), .val (.int p2), .val (.int p3), .val (.int p4), .val (.int p5), .val (.int 5), .val (.ref b85), .val (.ref b92), .val (.int u142_99)] [(.ref b85)]))) (fun t k => XS.aload X103.here hx rfl (hb hby at_196) rfl rfl k) ?_
    refine OD.go (B := (T103.setTop (mkF m 200 #[.val (.int p0), .val (.int p1), .val (.int p2), .val (.int p3), .val (.int p4), .val (.int p5), .val (.int 5), .val (.ref b85), .val (.ref b92), .val (.int u142_99)] [(.ref b92), (.ref b85)]))) (fun t k => XS.aload X103.here hx rfl (hb hby at_198) rfl rfl k) ?_
    refine OD.go (B := (T103.setTop (mkF m 201 #[.val (.int p0), .val (.int p1), .val (.int p2), .val (.int p3), .val (.int p4), .val (.int p5), .val (.int 5), .val (.ref b85), .val (.ref b92), .val (.int u142_99)] [(.int 3), (.ref b92), (.ref b85)]))) (fun t k => XS.iconst X103.here hx rfl (hb hby at_200) k) ?_
    refine OD.go (B := (T103.setTop (mkF m 203 #[.val (.int p0), .val (.int p1), .val (.int p2), .val (.int p3), .val (.int p4), .val (.int p5), .val (.int 5), .val (.ref b85), .val (.ref b92), .val (.int u142_99)] [(.int 5), (.int 3), (.ref b92), (.ref b85)]))) (fun t k => XS.iload X103.here hx rfl (hb hby at_201) rfl k) ?_
    obtain ⟨_, _, ⟨T104, L104, k104, n104⟩, -, X104, ⟨Lc104, hQ104, l104, y104, z104⟩, st104⟩ := Jvm.LawKit.callS X103 hx (y := (⟨"com/example/topside/topside/DescendingOrderOfPinLaw", "pair", "([D[III)Z"⟩ : MethodName)) hown (mvT hZ (Wd10 hw)) (mvT hZ (Wd11 hw)) (mvT hZ (Wd8 hw)) (mvT hZ (Wd12 hw)) (by decide) (backOf (W := 0) (rmP1 l Z a0 hw [] b85 b92 (3 : Int32) (5 : Int32) T92.heap k92' k85 (own_m5_5 sv0) sv0 f100 A92 ⟨by decide, by decide⟩ ⟨by decide, by decide⟩ (own_m5_5_b sv0)) hZ (Wd12 hw) (Wd8 hw) (by decide) (by decide)) (g := (mkF m 203 #[.val (.int p0), .val (.int p1), .val (.int p2), .val (.int p3), .val (.int p4), .val (.int p5), .val (.int 5), .val (.ref b85), .val (.ref b92), .val (.int u142_99)] [(.int 5), (.int 3), (.ref b92), (.ref b85)])) rfl (by rw [hml]; rfl) (argsL := [(.ref b85), (.ref b92), (.int 3), (.int 5)]) (rest := []) (lenOf pd4 rfl) rfl (by show 2 * 0 + _ ≤ _; exact Nat.le_of_eq rfl) (hb hby at_203) (fun _ _ => ⟨rfl, e103, (Nat.le_of_ble_eq_true rfl), (Nat.le_of_ble_eq_true rfl)⟩)
    dsimp only [Pt.U, Pt.locs, Pt.cells, Pt.slots] at X104 l104 y104 z104 st104 hQ104
    subst l104 y104 z104
    obtain ⟨rfl, rfl, e104⟩ := hQ104
    try rw [List.append_nil] at X104
    refine OD.go (B := (T104.setTop (mkF m 206 #[.val (.int p0), .val (.int p1), .val (.int p2), .val (.int p3), .val (.int p4), .val (.int p5), .val (.int 5), .val (.ref b85), .val (.ref b92), .val (.int u142_99)] [(.int (own_pr sv0 ((own_m5_5 sv0) (3 : Int32)) ((own_m5_5 sv0) ((3 : Int32) + (1 : Int32)))))]))) st104 ?_
    refine OD.go (B := (T104.setTop (mkF m 209 #[.val (.int p0), .val (.int p1), .val (.int p2), .val (.int p3), .val (.int p4), .val (.int p5), .val (.int 5), .val (.ref b85), .val (.ref b92), .val (.int u142_99)] []))) (fun t k => XS.ifNo X104.here hx rfl (hb hby at_206) rfl (by rw [if0]; exact (feq (by rw [hsv, own_pair5_3]; decide)).1) k) ?_
    refine OD.go (B := (T104.setTop (mkF m 210 #[.val (.int p0), .val (.int p1), .val (.int p2), .val (.int p3), .val (.int p4), .val (.int p5), .val (.int 5), .val (.ref b85), .val (.ref b92), .val (.int u142_99)] [(.int 1)]))) (fun t k => XS.iconst X104.here hx rfl (hb hby at_209) k) ?_
    refine OD.go (B := (T104.setTop (mkF m 214 #[.val (.int p0), .val (.int p1), .val (.int p2), .val (.int p3), .val (.int p4), .val (.int p5), .val (.int 5), .val (.ref b85), .val (.ref b92), .val (.int u142_99)] [(.int 1)]))) (fun t k => XS.goto X104.here hx rfl (pc0 := 210) (pc' := 214) rfl (hb hby at_210) (by decide) (by decide) k) ?_
    exact OD.ret X104 hx hlk (t := .boolean) Bd.returns rfl (Or.inl ⟨rfl, Or.inr (Or.inl rfl), _, rfl⟩) (hb hby at_214) (Nat.le_of_ble_eq_true rfl) (Nat.le_of_ble_eq_true rfl) ⟨rfl, N92⟩
set_option maxRecDepth 65536 in
set_option maxHeartbeats 40000000 in
theorem comes_1 {Post : Tables → Env → Array Value → State → Outcome → State → Prop} (hpost : ∀ tb e args s v u, (limb_1_1.after args s (.returned v) u = true ∧ limb_1_2.after args s (.returned v) u = true ∧ True) → FrameEnd s (.returned v) u (Jvm.fieldLocs frame_1_writes args s ++ Jvm.arrayLocs frame_1_arrays args s ++ Jvm.staticLocs frame_1_statics s) 16 128 → Post tb e args s (.returned v) u) :
    ArmFor flags0 classFile x code maxLocals ret World_1 tables_1 room_1 Calls_1 rest_1 Pre_1 Post := by
  intro l hfl _ _ p e ha hc hk s m args below hf hA hF happ hP
  obtain ⟨hcalls, hrest, hpre⟩ := hP
  obtain ⟨-, -, -, hnamed, -, -, -, hat⟩ := (Spec.applies_iff hf).mp happ
  obtain ⟨hg, hn⟩ := and_e (Cond.before_iff.mp (show (Jvm.Cond.and given_1 narrow_1).before args s = true from hpre))
  obtain ⟨hg0, hr0⟩ := and_e hg
  obtain ⟨hg1, hr1⟩ := and_e hr0
  obtain ⟨hg2, hr2⟩ := and_e hr1
  obtain ⟨hg3, hr3⟩ := and_e hr2
  obtain ⟨hg4, hr4⟩ := and_e hr3
  obtain ⟨hg5, hr5⟩ := and_e hr4
  obtain ⟨w0, w1, w2, w3, w4, w5, rfl⟩ : ∃ w0 w1 w2 w3 w4 w5 : Value, args = #[w0, w1, w2, w3, w4, w5] := by
    have hs : args.size = 6 := by simpa [Cond.value, given_1] using hg0
    obtain ⟨L⟩ := args
    match L, hs with
    | [w0, w1, w2, w3, w4, w5], _ => exact ⟨w0, w1, w2, w3, w4, w5, rfl⟩
  have hw := fun d (hd : d ∈ tables_1) => atoms_spec (ws := Jvm.Cond.code x code maxLocals ret :: tables_1) hat d (List.mem_cons_of_mem _ hd)
  obtain ⟨i0, ei0⟩ := is_v hg1
  obtain rfl : w0 = (.int i0) := Option.some.inj ei0
  obtain ⟨i1, ei1⟩ := is_v hg2
  obtain rfl : w1 = (.int i1) := Option.some.inj ei1
  obtain ⟨i2, ei2⟩ := is_v hg3
  obtain rfl : w2 = (.int i2) := Option.some.inj ei2
  obtain ⟨i3, ei3⟩ := is_v hg4
  obtain rfl : w3 = (.int i3) := Option.some.inj ei3
  obtain ⟨i4, ei4⟩ := is_v hg5
  obtain rfl : w4 = (.int i4) := Option.some.inj ei4
  obtain ⟨i5, ei5⟩ := is_v hr5
  obtain rfl : w5 = (.int i5) := Option.some.inj ei5
  obtain ⟨n, o, h1, h2, h3, _, L, rfl, ⟨rfl, N⟩, hq⟩ := rm0 l s _ hw tables_1 i0 i1 i2 i3 i4 i5 s.heap  p e ha hc hk s m _ below hf ((Spec.applies_iff_loose hf).mp happ).1 ⟨rfl, State.Warmed39.refl s, rfl⟩ trivial
  refine ⟨n, _, h1, h2, h3, hpost _ _ _ _ _ _ ⟨Cond.after_iff.mpr rfl, Cond.after_iff.mpr (eq_i res_at (Term.int_eval (1)) rfl), trivial⟩ ⟨hq.1, hq.2.1, (hq.2.2.sift fun y hy => Or.inr (N y hy)).mono (by decide) (by decide)⟩⟩
theorem main_1_1 : Claimed_1_1 := comes_1 fun _ _ _ _ _ _ h hF => ⟨h.1, hF⟩
theorem main_1_2 : Claimed_1_2 := comes_1 fun _ _ _ _ _ _ h hF => ⟨h.2.1, hF⟩
end Jvm.Pilot.@@N@@
namespace Jvm.Pilot.@@N@@
open Jvm Jvm.ClassFile Sem Op Lib Jvm.Free Jvm.Stand Jvm.Pilot.@@N@@.Jvm.D
/-! MADE BY PROGRAM (witnessworld.py) out of the Statement's table words and the real class files: 12 classes; the members and pool entries that the words name. The judged class is class 1, her method 1. -/
namespace start1
open Jvm.ClassFile
def u (s : String) : CpInfo := .utf8 (stringToUtf16 s)
/-- a pool by its gaps: so many unusable entries, then the entry; so many at the end -/
def gap : Nat → List CpInfo → List CpInfo
  | 0, r => r
  | n + 1, r => .unusable :: gap n r
def poolList (es : List (Nat × CpInfo)) (last : Nat) : List CpInfo := es.foldr (fun e r => gap e.1 (e.2 :: r)) (gap last [])
def pool (es : List (Nat × CpInfo)) (last : Nat) : Array CpInfo := ⟨poolList es last⟩
def fileOf (pool : Array CpInfo) (this : Nat) (attrs : Array Attribute := #[]) (ms : Array MethodInfo := #[]) (fl : Nat := 33) (sup : Nat := 0) (ifs : Array Nat := #[]) (fds : Array FieldInfo := #[]) : ClassFile where
  minorVersion := 0
  majorVersion := 65
  constantPool := pool
  accessFlags := fl
  thisClass := this
  superClass := sup
  interfaces := ifs
  fields := fds
  methods := ms
  attributes := attrs
def plain (name : String) (sup : Option ClassId) : Class where
  name := name
  kind := .ordinary
  loader := none
  accessFlags := 33
  super := sup
  interfaces := #[]
  cf := none
  fields := #[]
  methods := #[]
  instanceTypes := #[]
  staticTypes := #[]
  resolved := #[]
  callSites := []
  init := .initialized
  statics := none
  mirror := none

def pool0 : Array CpInfo := pool [(5, u "<init>"), (0, u "()V"), (1, .class_ 10), (1, u "java/lang/Object")] 113

def k0m0 : Method := { name := "<init>", desc := "()V", sig := { parameters := [], returnType := none }, accessFlags := 1, code := none }
/-- java/lang/Object -/
def k0 : Class := { plain "java/lang/Object" none with
  accessFlags := 33
  interfaces := #[]
  cf := some (fileOf pool0 8 #[] #[{ accessFlags := 1, nameIndex := 5, descriptorIndex := 6, attributes := #[] }] 33 0 #[] #[])
  fields := #[]
  methods := #[k0m0]
  instanceTypes := #[]
  staticTypes := #[]
  resolved := Array.replicate 124 none
  statics := none }

def pool1 : Array CpInfo := pool [(2, .class_ 4), (1, u "java/lang/Object"), (0, u "<init>"), (0, u "()V"), (0, .methodref 8 9), (0, .class_ 10), (0, .nameAndType 11 12), (0, u "com/example/topside/topside/DescendingOrder"), (0, u "of"), (0, u "([D)[I"), (0, .methodref 14 15), (0, .class_ 16), (0, .nameAndType 17 18), (0, u "com/example/topside/topside/DescendingOrderOfPinLaw"), (0, u "bit"), (0, u "([III)I"), (0, .methodref 14 20), (0, .nameAndType 21 22), (0, u "pair"), (0, u "([D[III)Z"), (0, .integer 1073741824), (2, u "law"), (0, u "(IIIIII)Z")] 7

def k1m0 : Method := { name := "<init>", desc := "()V", sig := { parameters := [], returnType := none }, accessFlags := 2, code := none }
def k1c1 : Code := { maxStack := 4, maxLocals := 10, code := code, exceptionTable := #[], attributes := #[] }
def k1m1 : Method := { name := "law", desc := "(IIIIII)Z", sig := { parameters := [.int, .int, .int, .int, .int, .int], returnType := some .boolean }, accessFlags := 9, code := some k1c1 }
def k1c2 : Code := { maxStack := 2, maxLocals := 4, code := method_3_code, exceptionTable := #[], attributes := #[] }
def k1m2 : Method := { name := "bit", desc := "([III)I", sig := { parameters := [(.array .int), .int, .int], returnType := some .int }, accessFlags := 10, code := some k1c2 }
def k1c3 : Code := { maxStack := 4, maxLocals := 6, code := method_4_code, exceptionTable := #[], attributes := #[] }
def k1m3 : Method := { name := "pair", desc := "([D[III)Z", sig := { parameters := [(.array .double), (.array .int), .int, .int], returnType := some .boolean }, accessFlags := 10, code := some k1c3 }
/-- com/example/topside/topside/DescendingOrderOfPinLaw -/
def k1 : Class := { plain "com/example/topside/topside/DescendingOrderOfPinLaw" (some 0) with
  accessFlags := 49
  interfaces := #[]
  cf := some (fileOf pool1 14 #[] #[{ accessFlags := 2, nameIndex := 5, descriptorIndex := 6, attributes := #[] }, { accessFlags := 9, nameIndex := 26, descriptorIndex := 27, attributes := #[] }, { accessFlags := 10, nameIndex := 17, descriptorIndex := 18, attributes := #[] }, { accessFlags := 10, nameIndex := 21, descriptorIndex := 22, attributes := #[] }] 49 2 #[] #[])
  fields := #[]
  methods := #[k1m0, k1m1, k1m2, k1m3]
  instanceTypes := #[]
  staticTypes := #[]
  resolved := Array.replicate 35 none
  statics := none }

def pool2 : Array CpInfo := pool [(2, .class_ 4), (1, u "java/lang/Object"), (0, u "<init>"), (0, u "()V"), (0, .methodref 8 9), (0, .class_ 10), (0, .nameAndType 11 12), (0, u "java/lang/Math"), (0, u "min"), (0, u "(II)I"), (0, .methodref 14 15), (0, .class_ 16), (0, .nameAndType 17 18), (0, u "com/example/topside/topside/DescendingOrder"), (0, u "merge"), (0, u "([D[I[IIII)V"), (2, u "of"), (0, u "([D)[I")] 5

def k2m0 : Method := { name := "<init>", desc := "()V", sig := { parameters := [], returnType := none }, accessFlags := 2, code := none }
def k2c1 : Code := { maxStack := 6, maxLocals := 7, code := prog_5_method_2_code, exceptionTable := #[], attributes := #[] }
def k2m1 : Method := { name := "of", desc := "([D)[I", sig := { parameters := [(.array .double)], returnType := some (.array .int) }, accessFlags := 8, code := some k2c1 }
def k2c2 : Code := { maxStack := 5, maxLocals := 9, code := prog_5_method_3_code, exceptionTable := #[], attributes := #[] }
def k2m2 : Method := { name := "merge", desc := "([D[I[IIII)V", sig := { parameters := [(.array .double), (.array .int), (.array .int), .int, .int, .int], returnType := none }, accessFlags := 10, code := some k2c2 }
/-- com/example/topside/topside/DescendingOrder -/
def k2 : Class := { plain "com/example/topside/topside/DescendingOrder" (some 0) with
  accessFlags := 48
  interfaces := #[]
  cf := some (fileOf pool2 14 #[] #[{ accessFlags := 2, nameIndex := 5, descriptorIndex := 6, attributes := #[] }, { accessFlags := 8, nameIndex := 21, descriptorIndex := 22, attributes := #[] }, { accessFlags := 10, nameIndex := 17, descriptorIndex := 18, attributes := #[] }] 48 2 #[] #[])
  fields := #[]
  methods := #[k2m0, k2m1, k2m2]
  instanceTypes := #[]
  staticTypes := #[]
  resolved := Array.replicate 28 none
  statics := none }

def pool3 : Array CpInfo := pool [(1, .class_ 2), (0, u "java/lang/Math"), (1, .class_ 6), (1, u "java/lang/Object"), (0, u "<init>"), (0, u "()V"), (89, .class_ 100), (1, u "java/lang/Math$RandomNumberGeneratorHolder"), (71, u "negativeZeroFloatBits"), (0, u "J"), (2, u "negativeZeroDoubleBits"), (24, u "min"), (43, u "$assertionsDisabled"), (0, u "Z"), (88, u "(II)I"), (2, u "twoToTheDoubleScaleDown"), (0, u "D"), (4, u "twoToTheDoubleScaleUp"), (9, u "E"), (3, u "PI"), (2, u "TAU"), (2, u "DEGREES_TO_RADIANS"), (0, u "RADIANS_TO_DEGREES")] 94

def k3m0 : Method := { name := "<init>", desc := "()V", sig := { parameters := [], returnType := none }, accessFlags := 2, code := none }
def k3c1 : Code := { maxStack := 2, maxLocals := 2, code := jdk_29_method_69_code, exceptionTable := #[], attributes := #[] }
def k3m1 : Method := { name := "min", desc := "(II)I", sig := { parameters := [.int, .int], returnType := some .int }, accessFlags := 9, code := some k3c1 }
/-- java/lang/Math -/
def k3 : Class := { plain "java/lang/Math" (some 0) with
  accessFlags := 49
  interfaces := #[]
  cf := some (fileOf pool3 1 #[.nestMembers #[98]] #[{ accessFlags := 2, nameIndex := 7, descriptorIndex := 8, attributes := #[] }, { accessFlags := 9, nameIndex := 201, descriptorIndex := 335, attributes := #[] }] 49 4 #[] #[{ accessFlags := 25, nameIndex := 354, descriptorIndex := 339, attributes := #[] }, { accessFlags := 25, nameIndex := 358, descriptorIndex := 339, attributes := #[] }, { accessFlags := 25, nameIndex := 361, descriptorIndex := 339, attributes := #[] }, { accessFlags := 26, nameIndex := 364, descriptorIndex := 339, attributes := #[] }, { accessFlags := 26, nameIndex := 365, descriptorIndex := 339, attributes := #[] }, { accessFlags := 26, nameIndex := 172, descriptorIndex := 173, attributes := #[] }, { accessFlags := 26, nameIndex := 176, descriptorIndex := 173, attributes := #[] }, { accessFlags := 8, nameIndex := 344, descriptorIndex := 339, attributes := #[] }, { accessFlags := 8, nameIndex := 338, descriptorIndex := 339, attributes := #[] }, { accessFlags := 4120, nameIndex := 245, descriptorIndex := 246, attributes := #[] }])
  fields := #[{ name := "E", type := .double, accessFlags := 25, slot := 0, constantValue := 0 }, { name := "PI", type := .double, accessFlags := 25, slot := 1, constantValue := 0 }, { name := "TAU", type := .double, accessFlags := 25, slot := 2, constantValue := 0 }, { name := "DEGREES_TO_RADIANS", type := .double, accessFlags := 26, slot := 3, constantValue := 0 }, { name := "RADIANS_TO_DEGREES", type := .double, accessFlags := 26, slot := 4, constantValue := 0 }, { name := "negativeZeroFloatBits", type := .long, accessFlags := 26, slot := 5, constantValue := 0 }, { name := "negativeZeroDoubleBits", type := .long, accessFlags := 26, slot := 6, constantValue := 0 }, { name := "twoToTheDoubleScaleUp", type := .double, accessFlags := 8, slot := 7, constantValue := 0 }, { name := "twoToTheDoubleScaleDown", type := .double, accessFlags := 8, slot := 8, constantValue := 0 }, { name := "$assertionsDisabled", type := .boolean, accessFlags := 4120, slot := 9, constantValue := 0 }]
  methods := #[k3m0, k3m1]
  instanceTypes := #[]
  staticTypes := #[.double, .double, .double, .double, .double, .long, .long, .double, .double, .boolean]
  resolved := Array.replicate 460 none
  statics := none }

def pool4 : Array CpInfo := pool [(1, u "java/lang/Cloneable"), (0, .class_ 1), (0, u "java/lang/Object"), (0, .class_ 3)] 3

/-- java/lang/Cloneable -/
def k4 : Class := { plain "java/lang/Cloneable" (some 0) with
  accessFlags := 1537
  interfaces := #[]
  cf := some (fileOf pool4 2 #[] #[] 1537 4 #[] #[])
  fields := #[]
  methods := #[]
  instanceTypes := #[]
  staticTypes := #[]
  resolved := Array.replicate 8 none
  statics := none }

def pool5 : Array CpInfo := pool [(1, u "java/io/Serializable"), (0, .class_ 1), (0, u "java/lang/Object"), (0, .class_ 3)] 3

/-- java/io/Serializable -/
def k5 : Class := { plain "java/io/Serializable" (some 0) with
  accessFlags := 1537
  interfaces := #[]
  cf := some (fileOf pool5 2 #[] #[] 1537 4 #[] #[])
  fields := #[]
  methods := #[]
  instanceTypes := #[]
  staticTypes := #[]
  resolved := Array.replicate 8 none
  statics := none }

/-- the primitive byte -/
def k6 : Class := { plain "byte" none with kind := .primitive 'B', accessFlags := 0x411 }
/-- [B -/
def k7 : Class := { plain "[B" (some 0) with kind := .array 6 .byte, interfaces := #[4, 5], accessFlags := 1041 }

/-- the primitive double -/
def k8 : Class := { plain "double" none with kind := .primitive 'D', accessFlags := 0x411 }
/-- [D -/
def k9 : Class := { plain "[D" (some 0) with kind := .array 8 .double, interfaces := #[4, 5], accessFlags := 1041 }

/-- the primitive int -/
def k10 : Class := { plain "int" none with kind := .primitive 'I', accessFlags := 0x411 }
/-- [I -/
def k11 : Class := { plain "[I" (some 0) with kind := .array 10 .int, interfaces := #[4, 5], accessFlags := 1041 }

def heap : Heap := #[]
def classes : Array Class := #[k0, k1, k2, k3, k4, k5, k6, k7, k8, k9, k10, k11]
def interned : List (Array UInt16 × Addr) := []
def slotsUsed : Nat := 0
def theMethod : MethodId := ⟨1, 1⟩
def args0 : Array Value := #[.int 3, .int 5, .int 2, .int 9, .int 1, .int 4]
def aboutOver (below : List Frame) : State where
  vm := { classes := classes, interned := interned.toArray }
  heap := heap
  slotsUsed := slotsUsed
  threads := #[{ frames := .invoking theMethod args0 :: below }]
def below0 : List Frame := [.native { method := ⟨0, 0⟩, args := #[] }]
def about1 : State := aboutOver below0
def p0 : Program := .bare "" "" ""
def e0 : Env := launch0.env 0 0 0
theorem w_frames : about1.frames = Frame.invoking theMethod args0 :: below0 := rfl
set_option maxRecDepth 65536 in
theorem w_args : argsFit about1.vm theMethod args0 = true := by decide +kernel
set_option maxRecDepth 65536 in
theorem w_heap : heapFits about1 = true := by decide +kernel
set_option maxRecDepth 65536 in
theorem w_runnable : about1.curStatus? = some .runnable := by decide +kernel
set_option maxRecDepth 65536 in
theorem w_alone : about1.alone = true := by decide +kernel
set_option maxRecDepth 65536 in
theorem w_named : about1.methodNamed? x = some theMethod := by decide +kernel
set_option maxRecDepth 65536 in
theorem w_hears : about1.hears theMethod below0 = true := by decide +kernel
set_option maxRecDepth 65536 in
theorem w_ripe : about1.ripe theMethod args0 below0 = true := by decide +kernel
theorem w_running : about1.status = .running := rfl
set_option maxRecDepth 65536 in
theorem w_room : about1.hasRoom e0.platform room_1 = true :=
  launch0.hasRoom_least _ room_1 (by decide +kernel) (by decide +kernel) (by decide +kernel) (by decide +kernel) (by decide +kernel) (by decide +kernel)
theorem allAtoms_all (ts : List Jvm.Cond) (a : Array Jvm.Value) (st : Jvm.State) : (allAtoms ts).before a st = ts.all (fun c => c.before a st) := by
  induction ts with
  | nil => rfl
  | cons c t ih =>
    show (Jvm.Cond.and c (allAtoms t)).before a st = _
    rw [Jvm.Cond.before_and, ih, List.all_cons]
def words1 : List Jvm.Cond := Jvm.Cond.code x code maxLocals ret :: tables_1
/-- a 'code' word, met by the world's own term for the bytes: nothing is compared byte by byte -/
theorem code_word {y : MethodName} {bytes : ByteArray} {mx : Nat} {rt : Option FieldType} {a : Array Value} {s : State} {m : MethodId} {meth : Method} {c : Code} (h1 : s.methodNamed? y = some m) (h2 : s.vm.method? m = some meth) (h3 : meth.code = some c) (h4 : c.code = bytes)
    (h5 : (c.maxLocals == mx && c.exceptionTable.isEmpty && decide (c.maxStack ≤ mostOperands) && decide (meth.sig.returnType = rt) && !meth.locks && decide (parseMethodDescriptor y.desc = some meth.sig)) = true) : (Jvm.Cond.code y bytes mx rt).before a s = true := by
  simp only [Bool.and_eq_true, beq_iff_eq, Bool.not_eq_true', decide_eq_true_eq] at h5
  obtain ⟨⟨⟨⟨⟨g1, g2⟩, g3⟩, g4⟩, g5⟩, g6⟩ := h5
  simp [Cond.before, Cond.holds, Cond.value, h1, h2, h3, h4, g1, g2, g3, g4, g5, g6]
def isCode : Jvm.Cond → Bool
  | .code _ _ _ _ => true
  | _ => false
theorem all_split {L : List Jvm.Cond} {P : Jvm.Cond → Bool} (h1 : L.all (fun c => isCode c || P c) = true) (h2 : ∀ c ∈ L.filter isCode, P c = true) : L.all P = true := by
  refine List.all_eq_true.mpr fun c hc => ?_
  have h := List.all_eq_true.mp h1 c hc
  rcases Bool.eq_false_or_eq_true (isCode c) with hi | hi
  · exact h2 c (List.mem_filter.mpr ⟨hc, hi⟩)
  · simpa [hi] using h
set_option maxRecDepth 65536 in
theorem w_c0 : (Jvm.Cond.code x code maxLocals ret).before args0 about1 = true := code_word (m := ⟨1, 1⟩) (meth := k1m1) (c := k1c1) (by decide +kernel) rfl rfl rfl (by decide +kernel)
set_option maxRecDepth 65536 in
theorem w_c1 : (Jvm.Cond.code ({ cls := "com/example/topside/topside/DescendingOrder", name := "of", desc := "([D)[I" } : Jvm.MethodName) prog_5_method_2_code (7 : Nat) (Option.some (Jvm.ClassFile.FieldType.array Jvm.ClassFile.FieldType.int))).before args0 about1 = true := code_word (m := ⟨2, 1⟩) (meth := k2m1) (c := k2c1) (by decide +kernel) rfl rfl rfl (by decide +kernel)
set_option maxRecDepth 65536 in
theorem w_c2 : (Jvm.Cond.code ({ cls := "com/example/topside/topside/DescendingOrderOfPinLaw", name := "bit", desc := "([III)I" } : Jvm.MethodName) method_3_code (4 : Nat) (Option.some Jvm.ClassFile.FieldType.int)).before args0 about1 = true := code_word (m := ⟨1, 2⟩) (meth := k1m2) (c := k1c2) (by decide +kernel) rfl rfl rfl (by decide +kernel)
set_option maxRecDepth 65536 in
theorem w_c3 : (Jvm.Cond.code ({ cls := "com/example/topside/topside/DescendingOrderOfPinLaw", name := "pair", desc := "([D[III)Z" } : Jvm.MethodName) method_4_code (6 : Nat) (Option.some Jvm.ClassFile.FieldType.boolean)).before args0 about1 = true := code_word (m := ⟨1, 3⟩) (meth := k1m3) (c := k1c3) (by decide +kernel) rfl rfl rfl (by decide +kernel)
set_option maxRecDepth 65536 in
theorem w_c4 : (Jvm.Cond.code ({ cls := "java/lang/Math", name := "min", desc := "(II)I" } : Jvm.MethodName) jdk_29_method_69_code (2 : Nat) (Option.some Jvm.ClassFile.FieldType.int)).before args0 about1 = true := code_word (m := ⟨3, 1⟩) (meth := k3m1) (c := k3c1) (by decide +kernel) rfl rfl rfl (by decide +kernel)
set_option maxRecDepth 65536 in
theorem w_c5 : (Jvm.Cond.code ({ cls := "com/example/topside/topside/DescendingOrder", name := "merge", desc := "([D[I[IIII)V" } : Jvm.MethodName) prog_5_method_3_code (9 : Nat) (Option.none : Option Jvm.ClassFile.FieldType)).before args0 about1 = true := code_word (m := ⟨2, 2⟩) (meth := k2m2) (c := k2c2) (by decide +kernel) rfl rfl rfl (by decide +kernel)
def codes1 : List Jvm.Cond := [Jvm.Cond.code x code maxLocals ret, Jvm.Cond.code ({ cls := "com/example/topside/topside/DescendingOrder", name := "of", desc := "([D)[I" } : Jvm.MethodName) prog_5_method_2_code (7 : Nat) (Option.some (Jvm.ClassFile.FieldType.array Jvm.ClassFile.FieldType.int)), Jvm.Cond.code ({ cls := "com/example/topside/topside/DescendingOrderOfPinLaw", name := "bit", desc := "([III)I" } : Jvm.MethodName) method_3_code (4 : Nat) (Option.some Jvm.ClassFile.FieldType.int), Jvm.Cond.code ({ cls := "com/example/topside/topside/DescendingOrderOfPinLaw", name := "pair", desc := "([D[III)Z" } : Jvm.MethodName) method_4_code (6 : Nat) (Option.some Jvm.ClassFile.FieldType.boolean), Jvm.Cond.code ({ cls := "java/lang/Math", name := "min", desc := "(II)I" } : Jvm.MethodName) jdk_29_method_69_code (2 : Nat) (Option.some Jvm.ClassFile.FieldType.int), Jvm.Cond.code ({ cls := "com/example/topside/topside/DescendingOrder", name := "merge", desc := "([D[I[IIII)V" } : Jvm.MethodName) prog_5_method_3_code (9 : Nat) (Option.none : Option Jvm.ClassFile.FieldType)]
set_option maxRecDepth 65536 in
theorem codes_eq : words1.filter isCode = codes1 := rfl
theorem w_codes : ∀ c ∈ words1.filter isCode, c.before args0 about1 = true := by
  rw [codes_eq]
  intro c hc
  simp only [codes1, List.mem_cons, List.not_mem_nil, or_false] at hc
  rcases hc with rfl | rfl | rfl | rfl | rfl | rfl
  · exact w_c0
  · exact w_c1
  · exact w_c2
  · exact w_c3
  · exact w_c4
  · exact w_c5
set_option maxRecDepth 65536 in
theorem w_t1 : words1.all (fun c => isCode c || c.before args0 about1) = true := by decide +kernel
theorem w_tables : (allAtoms (Jvm.Cond.code x code maxLocals ret :: tables_1)).before args0 about1 = true := by
  rw [allAtoms_all]
  show words1.all (fun c => c.before args0 about1) = true
  refine all_split ?_ w_codes
  rw [w_t1]
set_option maxRecDepth 65536 in
theorem w_case : (Jvm.Cond.and given_1 narrow_1).before args0 about1 = true := by decide +kernel
theorem w_applies : (headSpec (Jvm.Cond.code x code maxLocals ret :: tables_1) room_1).applies x e0.platform about1 = true :=
  (Spec.applies_iff w_frames).mpr ⟨w_running, w_runnable, w_alone, w_named, w_hears, w_ripe, w_room, w_tables⟩
theorem atStart : AtStart classFile x code maxLocals ret World_1 tables_1 room_1 Calls_1 rest_1 Pre_1 launch0 p0 e0 about1 theMethod args0 below0 :=
  ⟨lists_1, trivial, launch0.admits_env _ _ _, launch0.least_env, fairChoices_fair.cas, fairChoices_fair.clock, w_frames, w_args, w_heap, w_applies, trivial, trivial, w_case⟩
end start1
theorem witness_1 : WitnessClaimed_1 := ⟨start1.p0, start1.e0, start1.about1, start1.theMethod, start1.args0, start1.below0, start1.atStart⟩
end Jvm.Pilot.@@N@@
