import JvmDerived
import JvmDerived.Pilot.@@N@@Statement
import JvmDerived.Pilot.@@N@@Code
set_option linter.unusedVariables false
set_option linter.unusedSimpArgs false
namespace Jvm.Pilot.@@N@@
open Jvm Jvm.ClassFile Sem Op Lib Jvm.Free Jvm.Stand Jvm.LawKit Jvm.RoadKit Bundle Jvm.Pilot.@@N@@.Jvm.D

abbrev HW (a0 : Array Value) (Z : State) : Prop := ∀ d ∈ tables_1, d.before a0 Z = true
theorem wAt {Z : State} {a0 : Array Value} (hw : HW a0 Z) {i : Nat} {d : Jvm.Cond} (q : tables_1[i]? = some d) : d.before a0 Z = true := hw _ (List.mem_of_getElem? q)
abbrev rO (f c s l : Nat) : Room := { frames := f, cells := c, slots := s, locals := l }
theorem nl {a b : Nat} (q : Nat.ble a b = true) : a ≤ b := Nat.le_of_ble_eq_true q
abbrev zZ0 : String := "com/example/tight_pivot/tightpivot/ValueTree"
abbrev zZ1 : String := "com/example/tight_pivot/tightpivot/ValueTreeOutdatePinLaw"
abbrev zZ2 : String := "(Ljava/lang/Object;ILjava/lang/Object;II)V"
abbrev kQ0 := jdk_92_method_1_code
abbrev kQ1 := jdk_29_method_28_code
abbrev kQ2 := jdk_29_method_69_code
abbrev kQ3 := prog_19_method_11_code
abbrev kQ4 := jdk_35_method_50_code
abbrev kQ5 := jdk_92_method_6_code
abbrev kQ6 := jdk_92_method_4_code
abbrev kQ7 := jdk_92_method_2_code
abbrev kQ8 := jdk_92_method_14_code
abbrev kQ9 := jdk_92_method_15_code
abbrev kQ10 := jdk_92_method_19_code
abbrev kQ11 := jdk_92_method_35_code
abbrev kQ12 := jdk_92_method_26_code
abbrev kQ13 := jdk_92_method_3_code
abbrev kQ14 := jdk_92_method_23_code
abbrev kQ15 := prog_19_method_10_code
abbrev kQ16 := prog_19_method_9_code
abbrev kQ17 := prog_19_method_8_code
abbrev kQ18 := prog_19_method_2_code
abbrev kQ19 := prog_19_method_1_code
abbrev kQ20 := prog_19_method_4_code
abbrev kQ21 := prog_19_method_5_code
abbrev kQ22 := prog_19_method_6_code
section OwnKit
variable {p : Program} {l : Launch} {e : Env} {R : Room} {s : State} {m : MethodId} {args : Array Value} {below : List Frame} {meth : Method} {c : Code} {T : State} {locs : List Loc} {cells slots : Nat}
/-- from A the invocation ends, and what it leaves is Q, within K cells and N slots -/
def OD (p : Program) (e : Env) (s : State) (below : List Frame) (Q : Option Value → Heap → List Loc → Prop) (K N : Nat) (A : State) : Prop :=
  ∃ s₂ o, Steps p.tables e below A s₂ ∧ s₂.status = .running ∧ Ended s₂ below o ∧ ∃ v L, o = .returned v ∧ Q v s₂.heap L ∧ FrameEnd s o s₂ L K N
theorem OD.go {Q : Option Value → Heap → List Loc → Prop} {K N : Nat} {A B : State} (h : ∀ t, Steps p.tables e below B t → Steps p.tables e below A t) (k : OD p e s below Q K N B) : OD p e s below Q K N A := by
  obtain ⟨s₂, o, h1, r⟩ := k
  exact ⟨s₂, o, h _ h1, r⟩
theorem OD.via {Q : Option Value → Heap → List Loc → Prop} {K N : Nat} {A B : State} (h : Steps p.tables e below A B) (k : OD p e s below Q K N B) : OD p e s below Q K N A := OD.go (fun _ q => h.trans q) k
theorem OD.cut {Q : Option Value → Heap → List Loc → Prop} {K N : Nat} {A B : State} (f : OD p e s below Q K N B → OD p e s below Q K N A) (g : OD p e s below Q K N B) : OD p e s below Q K N A := f g
theorem OD.cutA {Q : Option Value → Heap → List Loc → Prop} {K N : Nat} {A : State} {P : State → Prop} {B : State → State} (f : (∀ T, P T → OD p e s below Q K N (B T)) → OD p e s below Q K N A) (g : ∀ T, P T → OD p e s below Q K N (B T)) : OD p e s below Q K N A := f g
theorem OD.cutX {Q : Option Value → Heap → List Loc → Prop} {K N : Nat} {A s' T0 : State} {h : Heap} (X : Stand p l e R s' m args below meth c T0 locs cells slots) {B : State → State} (f : (∀ T, (Stand p l e R s' m args below meth c T locs cells slots ∧ T.heap = h) → OD p e s below Q K N (B T)) → OD p e s below Q K N A) (g : ∀ T, (Stand p l e R s' m args below meth c T locs cells slots ∧ T.heap = h) → OD p e s below Q K N (B T)) : OD p e s below Q K N A := f g
theorem OD.ret {Q : Option Value → Heap → List Loc → Prop} {K N : Nat} (X : Stand p l e R s m args below meth c T locs cells slots) (hx : p.tables.exec = Jvm.exec) (hlk : meth.locks = false) {pc : Nat} {Ls : Array Slot} {w : Value} {t : FieldType} {i : Instr} {rest : List Value} (hret : meth.sig.returnType = some t) (hn : narrow t w = w)
    (hi : (i = .ireturn ∧ (t = .int ∨ t = .boolean ∨ t = .byte ∨ t = .char ∨ t = .short) ∧ ∃ z, w = .int z) ∨ (i = .lreturn ∧ t = .long ∧ ∃ z, w = .long z) ∨ (i = .dreturn ∧ t = .double ∧ ∃ z, w = .double z) ∨ (i = .freturn ∧ t = .float ∧ ∃ z, w = .float z) ∨ (i = .areturn ∧ t.isReference = true ∧ w.isRef = true))
    (hd : decode c.code pc = .ok (i, 1)) (hk : cells ≤ K) (hs : slots ≤ N) (hQ : Q (some w) T.heap locs) : OD p e s below Q K N (T.setTop (mkF m pc Ls (w :: rest))) := by
  obtain ⟨fs, hr, hrun, hended, hW, hsame⟩ := X.leave (v := some w) (fun h => by rw [hret] at h; cases h) hlk
  exact ⟨_, _, retOut X hx hret hn hi hd hr, hrun, hended, _, _, rfl, hQ, ⟨_, rfl⟩, hW, hsame.mono hk hs⟩
theorem OD.retV {Q : Option Value → Heap → List Loc → Prop} {K N : Nat} (X : Stand p l e R s m args below meth c T locs cells slots) (hx : p.tables.exec = Jvm.exec) (hlk : meth.locks = false) {pc : Nat} {Ls : Array Slot} (hret : meth.sig.returnType = none)
    (hd : decode c.code pc = .ok (.return_, 1)) (hk : cells ≤ K) (hs : slots ≤ N) (hQ : Q none T.heap locs) : OD p e s below Q K N (T.setTop (mkF m pc Ls [])) := by
  obtain ⟨fs, hr, hrun, hended, hW, hsame⟩ := X.leave (v := none) (fun _ => rfl) hlk
  exact ⟨_, _, X.returnOut hx hret hd hr, hrun, hended, _, _, rfl, hQ, ⟨_, rfl⟩, hW, hsame.mono hk hs⟩
theorem own_len {Z : State} {h : Heap} {a : Addr} {k : ClassId} {ty : FieldType} {z : Int32} {vs : List Value} {dv : Value} (F : Arv Z h a k ty z vs dv) : ∃ cl : Cell, Arr Z h a cl ty ∧ cl.slots.size.toInt32 = z := by
  obtain ⟨cl, A, -, S, M, -⟩ := F
  exact ⟨cl, A, len_of S M⟩
theorem own_at {Z : State} {h : Heap} {a : Addr} {k : ClassId} {ty : FieldType} {z j : Int32} {vs : List Value} {dv v : Value} (F : Arv Z h a k ty z vs dv) (q : ¬ j < 0 ∧ j < z) (u : vs.getD j.toNatClampNeg dv = v) : ∃ cl : Cell, Arr Z h a cl ty ∧ ¬ (j < 0 ∨ cl.slots.size ≤ j.toNatClampNeg) ∧ cl.slots[j.toNatClampNeg]? = some v := by
  obtain ⟨cl, A, -, S, M, H, -⟩ := F
  exact ⟨cl, A, inb_of S q, H.at (inb_of S q) u⟩
theorem own_inst {Z : State} {a0 : Array Value} {h : Heap} {own C K : String} {index : Nat} {a : Addr} (X : Stand p l e R s m args below meth c T locs cells slots) (hZ : Z.Warmed39 s.vm) (hown : s.vm.findClass own = some m.cls) (w : (Jvm.Cond.classLink own index K).before a0 Z = true) (E : Exa Z h a C) : Ins Z h a K true ∨ ∃ c t, Z.vm.findClass C = some c ∧ Z.vm.findClass K = some t ∧ Z.vm.assignable c t = false := by
  have hpl : e.platform.magicAccessors = ({} : Platform).magicAccessors := by rw [X.admits.platform]
  obtain ⟨c', hc', -⟩ := Cond.classLink_spec (args := args) hown (mv hZ w) e.platform hpl
  rw [hZ.alike.findClass] at hc'
  obtain ⟨cell, k, h1, h2, h3, h4, -⟩ := E
  cases ha : Z.vm.assignable cell.cls c' with
  | true => exact Or.inl ⟨cell, c', h1, hc', by rw [ha, h4]; rfl⟩
  | false => exact Or.inr ⟨_, _, h2, hc', ha⟩
end OwnKit
/-- an array's values by a function of the index -/
def own_rg (N : Nat) (F : Int32 → Value) : List Value := (List.range N).map (fun i => F (Int32.ofNat i))
theorem own_ofNat {j z : Int32} (h : ¬ j < 0 ∧ j < z) : Int32.ofNat j.toNatClampNeg = j ∧ j.toNatClampNeg < z.toNatClampNeg := by
  have e := (back32 h.1).1
  refine ⟨e, ?_⟩
  have h1 := h.1
  have h2 := h.2
  rw [Int32.lt_iff_toInt_lt] at h1 h2
  have e0 : (0 : Int32).toInt = 0 := rfl
  simp only [Int32.toNatClampNeg] at *
  omega
theorem own_rg_at {j z : Int32} (h : ¬ j < 0 ∧ j < z) (F : Int32 → Value) (d : Value) : (own_rg z.toNatClampNeg F).getD j.toNatClampNeg d = F j := by
  obtain ⟨e, l⟩ := own_ofNat h
  simp [own_rg, List.getD_eq_getElem?_getD, l, e]
theorem own_rg_len (N : Nat) (F : Int32 → Value) : (own_rg N F).length = N := by simp [own_rg]
theorem own_rg_set {t z : Int32} (h : ¬ t < 0 ∧ t < z) (F F' : Int32 → Value) {v : Value} (h1 : F' t = v) (h2 : ∀ x, x ≠ t → F' x = F x) : (own_rg z.toNatClampNeg F).set t.toNatClampNeg v = own_rg z.toNatClampNeg F' := by
  obtain ⟨e, l⟩ := own_ofNat h
  have zz : z.toNatClampNeg < 2 ^ 31 := by
    have := z.toInt_lt
    simp only [Int32.toNatClampNeg]
    omega
  refine List.ext_getElem? fun i => ?_
  by_cases c : t.toNatClampNeg = i
  · subst c
    rw [List.getElem?_set_self (by rw [own_rg_len]; exact l)]
    simp [own_rg, l, e, h1]
  · rw [List.getElem?_set_ne c]
    by_cases l2 : i < z.toNatClampNeg
    · have n : Int32.ofNat i ≠ t := by
        intro q
        apply c
        rw [← q]
        have : (Int32.ofNat i).toInt = (i : Int) := toInt_of rfl (by omega)
        simp only [Int32.toNatClampNeg, this]
        omega
      simp [own_rg, l2, h2 _ n]
    · simp [own_rg, l2]
theorem own_pad (N : Nat) (d : Value) : ∀ i, (own_rg N (fun _ => d)).getD i d = ([] : List Value).getD i d := by
  intro i
  simp only [own_rg, List.getD_eq_getElem?_getD]
  by_cases l : i < N <;> simp [l]
theorem own_fill {Z : State} {h : Heap} {a : Addr} {k : ClassId} {ty : FieldType} {z : Int32} {d : Value} (F : Arv Z h a k ty z [] d) : Arv Z h a k ty z (own_rg z.toNatClampNeg (fun _ => d)) d := F.pad (own_pad _ _)
theorem own_put {Z : State} {h h' : Heap} {a : Addr} {k : ClassId} {ty : FieldType} {z t : Int32} {d v : Value} {F : Int32 → Value} (F' : Int32 → Value) {cl : Cell} (A : Arr Z h a cl ty) (q1 : cl.cls = k) (S : cl.slots.size = z.toNatClampNeg) (q3 : ¬ z < 0) (H : Has cl (own_rg z.toNatClampNeg F) d) (G : ∀ i, i < cl.slots.size → fits ty ((own_rg z.toNatClampNeg F).getD i d) = true) (hv : fits ty v = true) (W : Wr h h' a t.toNatClampNeg v) (ht : ¬ t < 0 ∧ t < z) (h1 : F' t = v) (h2 : ∀ x, x ≠ t → F' x = F x) : Arv Z h' a k ty z (own_rg z.toNatClampNeg F') d := by
  have q := Arv.set A q1 S q3 H G hv W t.toNatClampNeg rfl (by rw [own_rg_len]; exact (own_ofNat ht).2)
  rw [own_rg_set ht F F' h1 h2] at q
  exact q
section OwnD
variable {tb : Tables} [Ours tb] {e : Env} {below : List Frame} {T target : State} {m : MethodId} {c : Code} {g : JFrame}
theorem own_dupX2 (h : At T m c below) (hx : tb.exec = Jvm.exec) (hg : g.method = m) {x y z : Value} {rest : List Value} (hd : decode c.code g.pc = .ok (.dup_x2, 1)) (hs : g.stack = x :: y :: z :: rest) (hc : x.category = 1) (hc' : y.category = 1) (hc'' : z.category = 1)
    (hr : Steps tb e below (T.setTop { g with pc := g.pc + 1, stack := x :: y :: z :: x :: rest }) target) : Steps tb e below (T.setTop g) target := by
  subst hg
  jvm_step h [h.top, hx, hd, hs, hc, hc', hc'', Op.dup_x2.wp_sem]
  exact hr
end OwnD
theorem own_selP {Z : State} {a0 : Array Value} {y : MethodName} {n : Nat} (wi : (Cond.instantiable y.cls n).before a0 Z = true) (wp : (Cond.privateMethod y).before a0 Z = true) (w : (Cond.instanceMethod y).before a0 Z = true) (hy : y.cls ≠ "java/lang/invoke/MethodHandle" ∧ y.cls ≠ "java/lang/invoke/VarHandle") : (Cond.selects y.cls y y).before a0 Z = true := by
  obtain ⟨c, k, f1, f2, f3, f4, -⟩ := Cond.instantiable_spec wi
  exact selects_self_of_private f1 f2 (Bool.or_eq_false_iff.mp f4).1 (Cond.privateMethod_at wp) w hy
def own_up {α : Type} (G : Int32 → α) (k : Int32) (v : α) : Int32 → α := fun x => if k = x then v else G x
theorem own_up_at {α : Type} (G : Int32 → α) (k : Int32) (v : α) : own_up G k v k = v := if_pos rfl
theorem own_up_ne {α : Type} (G : Int32 → α) {k x : Int32} (v : α) (h : x ≠ k) : own_up G k v x = G x := if_neg (Ne.symm h)
def own_zero (_ : Int32) : Int32 := 0
/-- a small number's word is the first -/
def own_sm (d : Int32) : Prop := 0 ≤ d.toInt ∧ d.toInt ≤ 15
theorem own_sm0 {d : Int32} (h : own_sm d) : ¬ d < (0 : Int32) := by
  rw [Int32.lt_iff_toInt_lt]
  have : (0 : Int32).toInt = 0 := rfl
  have := h.1
  omega
theorem own_sm16 {d : Int32} (h : own_sm d) : d = 0 ∨ d = 1 ∨ d = 2 ∨ d = 3 ∨ d = 4 ∨ d = 5 ∨ d = 6 ∨ d = 7 ∨ d = 8 ∨ d = 9 ∨ d = 10 ∨ d = 11 ∨ d = 12 ∨ d = 13 ∨ d = 14 ∨ d = 15 := by
  obtain ⟨h1, h2⟩ := h
  have e : ∀ k : Int32, d.toInt = k.toInt → d = k := fun k hk => Int32.toInt_inj.mp hk
  have t : d.toInt = 0 ∨ d.toInt = 1 ∨ d.toInt = 2 ∨ d.toInt = 3 ∨ d.toInt = 4 ∨ d.toInt = 5 ∨ d.toInt = 6 ∨ d.toInt = 7 ∨ d.toInt = 8 ∨ d.toInt = 9 ∨ d.toInt = 10 ∨ d.toInt = 11 ∨ d.toInt = 12 ∨ d.toInt = 13 ∨ d.toInt = 14 ∨ d.toInt = 15 := by omega
  exact t.imp (e 0) (Or.imp (e 1) (Or.imp (e 2) (Or.imp (e 3) (Or.imp (e 4) (Or.imp (e 5) (Or.imp (e 6) (Or.imp (e 7) (Or.imp (e 8) (Or.imp (e 9) (Or.imp (e 10) (Or.imp (e 11) (Or.imp (e 12) (Or.imp (e 13) (Or.imp (e 14) (e 15)))))))))))))))
theorem own_sm6 {d : Int32} (h : own_sm d) : (d >>> ((6 : Int32) &&& 31)) = 0 := by
  rcases own_sm16 h with rfl | rfl | rfl | rfl | rfl | rfl | rfl | rfl | rfl | rfl | rfl | rfl | rfl | rfl | rfl | rfl <;> decide
theorem own_smA (x : Int32) : own_sm (x &&& 15) := by
  have q := c_and x 15 (by decide)
  have e : (15 : Int32).toInt = 15 := rfl
  unfold own_sm
  omega
theorem own_smB (x : Int32) : own_sm (x &&& 7) := by
  have q := c_and x 7 (by decide)
  have e : (7 : Int32).toInt = 7 := rfl
  unfold own_sm
  omega
def own_bit (d : Int32) : Int64 := (1 : Int64) <<< (d &&& 0x3f).toInt64
def own_get (W : Int64) (d : Int32) : Int32 := if lcmpW (W &&& own_bit d) (0 : Int64) = (0 : Int32) then 0 else 1
def own_clr (W : Int64) (d : Int32) : Int64 := W &&& (own_bit d ^^^ (-1 : Int64))
def own_b0 (w : Int64) : Int64 := (w - (((w.toUInt64 >>> ((1 : Int32) &&& 0x3f).toInt64.toUInt64).toInt64) &&& (6148914691236517205 : Int64)))
def own_b1 (w : Int64) : Int64 := ((w &&& (3689348814741910323 : Int64)) + (((w.toUInt64 >>> ((2 : Int32) &&& 0x3f).toInt64.toUInt64).toInt64) &&& (3689348814741910323 : Int64)))
def own_b2 (w : Int64) : Int64 := ((w + ((w.toUInt64 >>> ((4 : Int32) &&& 0x3f).toInt64.toUInt64).toInt64)) &&& (1085102592571150095 : Int64))
def own_b3 (w : Int64) : Int64 := (w + ((w.toUInt64 >>> ((8 : Int32) &&& 0x3f).toInt64.toUInt64).toInt64))
def own_b4 (w : Int64) : Int64 := (w + ((w.toUInt64 >>> ((16 : Int32) &&& 0x3f).toInt64.toUInt64).toInt64))
def own_b5 (w : Int64) : Int64 := (w + ((w.toUInt64 >>> ((32 : Int32) &&& 0x3f).toInt64.toUInt64).toInt64))
def own_b9 (w : Int64) : Int32 := (w.toInt32 &&& (127 : Int32))
def own_bc (w0 : Int64) : Int32 := own_b9 (own_b5 (own_b4 (own_b3 (own_b2 (own_b1 (own_b0 w0))))))
def own_imin (x0 x1 : Int32) : Int32 := if x1 < x0 then x1 else x0
def own_sb (v : Int64) (sh : Int32) : Int32 := ((((v ^^^ (-9223372036854775808 : Int64)).toUInt64 >>> (sh &&& 0x3f).toInt64.toUInt64).toInt64).toInt32 &&& (255 : Int32))
theorem own_get_nar (W : Int64) (d : Int32) : narrow .boolean (.int (own_get W d)) = .int (own_get W d) := by
  unfold own_get
  split <;> rfl
/-- words in use: none only where the word is nought -/
def own_wu (u : Int32) (W : Int64) : Prop := u = 1 ∨ (u = 0 ∧ lcmpW W (0 : Int64) = (0 : Int32))
def own_l3 {α : Type} (a b c : α) (x : Int32) : α := if x = 0 then a else if x = 1 then b else c
def own_W (W : Int64) (d : Int32) : Int64 := if own_get W d = (0 : Int32) then W else own_clr W d
def own_cc (n : Int32) (W : Int64) (d : Int32) : Int32 := if own_get W d = (0 : Int32) then n else n - (1 : Int32)
def own_fm (q6 q7 q8 q9 q10 q11 : Slot) : Prop := (q6 = .unset ∧ q7 = .unset ∧ q8 = .unset ∧ q9 = .unset ∧ q10 = .unset ∧ q11 = .unset) ∨ (∃ (r6 r7 : Addr) (lv : Int64), q6 = .val (.ref r6) ∧ q7 = .val (.ref r7) ∧ q8 = .val (.int 3) ∧ q9 = .val (.int 3) ∧ q10 = .val (.long lv) ∧ q11 = .second) ∨ (∃ (r6 r7 r8 : Addr) (lv : Int64), q6 = .val (.ref r6) ∧ q7 = .val (.ref r7) ∧ q8 = .val (.ref r8) ∧ q9 = .val (.int 3) ∧ q10 = .val (.long lv) ∧ q11 = .second)
theorem own_sh0 {sh : Int32} (h : sh.toInt + 8 * ((0 : Nat) : Int) = 64) : ¬ sh < (64 : Int32) := by
  rw [Int32.lt_iff_toInt_lt]
  have : (64 : Int32).toInt = 64 := rfl
  omega
theorem own_shL {sh : Int32} {t : Nat} (h : sh.toInt + 8 * ((t + 1 : Nat) : Int) = 64) : sh < (64 : Int32) := by
  rw [Int32.lt_iff_toInt_lt]
  have : (64 : Int32).toInt = 64 := rfl
  omega
theorem own_add {x k : Int32} (h1 : x.toInt + k.toInt < 2147483648) (h2 : -2147483648 ≤ x.toInt + k.toInt) : (x + k).toInt = x.toInt + k.toInt := by
  have q := c_iadd x k
  have a := (x + k).toInt_lt
  have b := (x + k).le_toInt
  omega
theorem own_sh8 {sh : Int32} {t : Nat} (h : sh.toInt + 8 * ((t + 1 : Nat) : Int) = 64) : (sh + (8 : Int32)).toInt + 8 * (t : Int) = 64 := by
  have e8 : (8 : Int32).toInt = 8 := rfl
  have l := sh.le_toInt
  rw [own_add (by omega) (by omega)]
  omega
theorem own_in {x z : Int32} (h1 : 0 ≤ x.toInt) (h2 : x.toInt < z.toInt) : ¬ x < 0 ∧ x < z := by
  rw [Int32.lt_iff_toInt_lt, Int32.lt_iff_toInt_lt]
  have e0 : (0 : Int32).toInt = 0 := rfl
  omega
theorem own_iv0 {iv : Int32} (h : 0 ≤ iv.toInt ∧ iv.toInt + ((0 : Nat) : Int) = 256) : ¬ iv < (256 : Int32) := by
  rw [Int32.lt_iff_toInt_lt]
  have : (256 : Int32).toInt = 256 := rfl
  omega
theorem own_ivL {iv : Int32} {fu : Nat} (h : 0 ≤ iv.toInt ∧ iv.toInt + ((fu + 1 : Nat) : Int) = 256) : iv < (256 : Int32) := by
  rw [Int32.lt_iff_toInt_lt]
  have : (256 : Int32).toInt = 256 := rfl
  omega
theorem own_i1 {iv : Int32} {fu : Nat} (h : 0 ≤ iv.toInt ∧ iv.toInt + ((fu + 1 : Nat) : Int) = 256) : (iv + (1 : Int32)).toInt = iv.toInt + 1 := by
  have e1 : (1 : Int32).toInt = 1 := rfl
  rw [own_add (by omega) (by omega), e1]
theorem own_ivA {iv : Int32} {fu : Nat} (h : 0 ≤ iv.toInt ∧ iv.toInt + ((fu + 1 : Nat) : Int) = 256) : ¬ iv < 0 ∧ iv < (257 : Int32) := own_in h.1 (by
  have : (257 : Int32).toInt = 257 := rfl
  omega)
theorem own_ivB {iv : Int32} {fu : Nat} (h : 0 ≤ iv.toInt ∧ iv.toInt + ((fu + 1 : Nat) : Int) = 256) : ¬ (iv + (1 : Int32)) < 0 ∧ (iv + (1 : Int32)) < (257 : Int32) := by
  have e := own_i1 h
  have : (257 : Int32).toInt = 257 := rfl
  exact own_in (by omega) (by omega)
theorem own_iv1 {iv : Int32} {fu : Nat} (h : 0 ≤ iv.toInt ∧ iv.toInt + ((fu + 1 : Nat) : Int) = 256) : 0 ≤ (iv + (1 : Int32)).toInt ∧ (iv + (1 : Int32)).toInt + (fu : Int) = 256 := by
  have e := own_i1 h
  omega
theorem own_sbR (v : Int64) (sh : Int32) : 0 ≤ (own_sb v sh).toInt ∧ (own_sb v sh).toInt ≤ 255 := by
  unfold own_sb
  exact c_and _ 255 (by decide)
theorem own_sbP (v : Int64) (sh : Int32) : (own_sb v sh + (1 : Int32)).toInt = (own_sb v sh).toInt + 1 := by
  have q := own_sbR v sh
  have e1 : (1 : Int32).toInt = 1 := rfl
  rw [own_add (by omega) (by omega), e1]
theorem own_sbB (v : Int64) (sh : Int32) : ¬ (own_sb v sh + (1 : Int32)) < 0 ∧ (own_sb v sh + (1 : Int32)) < (257 : Int32) := by
  have q := own_sbR v sh
  have e := own_sbP v sh
  have : (257 : Int32).toInt = 257 := rfl
  exact own_in (by omega) (by omega)
theorem own_sbC (v : Int64) (sh : Int32) : ¬ (own_sb v sh) < 0 ∧ (own_sb v sh) < (257 : Int32) := by
  have q := own_sbR v sh
  have : (257 : Int32).toInt = 257 := rfl
  exact own_in (by omega) (by omega)
def own_k1 (f : Int32 → Int64) (sh : Int32) : Int32 → Int32 := own_up own_zero (own_sb (f (0 : Int32)) sh + (1 : Int32)) (own_zero (own_sb (f (0 : Int32)) sh + (1 : Int32)) + (1 : Int32))
def own_k2 (f : Int32 → Int64) (sh : Int32) : Int32 → Int32 := own_up (own_k1 f sh) (own_sb (f (1 : Int32)) sh + (1 : Int32)) (own_k1 f sh (own_sb (f (1 : Int32)) sh + (1 : Int32)) + (1 : Int32))
def own_k3 (f : Int32 → Int64) (sh : Int32) : Int32 → Int32 := own_up (own_k2 f sh) (own_sb (f (2 : Int32)) sh + (1 : Int32)) (own_k2 f sh (own_sb (f (2 : Int32)) sh + (1 : Int32)) + (1 : Int32))
def own_pl : Nat → Int32 → (Int32 → Int32) → (Int32 → Int32)
  | 0, _, G => G
  | n + 1, iv, G => own_pl n (iv + (1 : Int32)) (own_up G (iv + (1 : Int32)) (G (iv + (1 : Int32)) + G iv))
def own_PF (f : Int32 → Int64) (sh : Int32) : Int32 → Int32 := own_pl 256 (0 : Int32) (own_k3 f sh)
def own_s1 (f : Int32 → Int64) (sh : Int32) : Int32 → Int32 := own_up (own_PF f sh) (own_sb (f (0 : Int32)) sh) (own_PF f sh (own_sb (f (0 : Int32)) sh) + (1 : Int32))
def own_s2 (f : Int32 → Int64) (sh : Int32) : Int32 → Int32 := own_up (own_s1 f sh) (own_sb (f (1 : Int32)) sh) (own_s1 f sh (own_sb (f (1 : Int32)) sh) + (1 : Int32))
def own_s3 (f : Int32 → Int64) (sh : Int32) : Int32 → Int32 := own_up (own_s2 f sh) (own_sb (f (2 : Int32)) sh) (own_s2 f sh (own_sb (f (2 : Int32)) sh) + (1 : Int32))
theorem own_bump {G : Int32 → Int32} {k x : Int32} (h1 : 0 ≤ (G k).toInt) (h2 : (G k).toInt < 1000) : (own_up G k (G k + (1 : Int32)) x).toInt = (G x).toInt + (if k.toInt = x.toInt then 1 else 0) := by
  have e1 : (1 : Int32).toInt = 1 := rfl
  by_cases c : k = x
  · subst c
    rw [own_up_at, if_pos rfl, own_add (by omega) (by omega), e1]
  · have c' : ¬ k.toInt = x.toInt := fun e => c (Int32.toInt_inj.mp e)
    rw [own_up_ne G _ (Ne.symm c), if_neg c']
    omega
def own_i (p : Prop) [Decidable p] : Int := if p then 1 else 0
theorem own_i01 (p : Prop) [Decidable p] : 0 ≤ own_i p ∧ own_i p ≤ 1 := by unfold own_i; split <;> omega
def own_C (a b c k : Int) : Int := own_i (a + 1 = k) + own_i (b + 1 = k) + own_i (c + 1 = k)
def own_L (a b c k : Int) : Int := own_i (a < k) + own_i (b < k) + own_i (c < k)
theorem own_stepL (a b c k : Int) : own_L a b c (k + 1) = own_L a b c k + own_C a b c (k + 1) := by
  have h : ∀ x : Int, own_i (x < k + 1) = own_i (x < k) + own_i (x + 1 = k + 1) := fun x => by
    unfold own_i
    split <;> split <;> split <;> omega
  unfold own_L own_C
  rw [h, h, h]
  omega
section Srt
variable (f : Int32 → Int64) (sh : Int32)
theorem own_k3C (x : Int32) : (own_k3 f sh x).toInt = own_C (own_sb (f 0) sh).toInt (own_sb (f 1) sh).toInt (own_sb (f 2) sh).toInt x.toInt := by
  have z : ∀ y, (own_zero y).toInt = 0 := fun _ => rfl
  have h1 : ∀ y, (own_k1 f sh y).toInt = own_i ((own_sb (f 0) sh).toInt + 1 = y.toInt) := fun y => by
    unfold own_k1
    rw [own_bump (by rw [z]; decide) (by rw [z]; decide), z, own_sbP]
    exact Int.zero_add _
  have h2 : ∀ y, (own_k2 f sh y).toInt = own_i ((own_sb (f 0) sh).toInt + 1 = y.toInt) + own_i ((own_sb (f 1) sh).toInt + 1 = y.toInt) := fun y => by
    unfold own_k2
    have q := own_i01 ((own_sb (f 0) sh).toInt + 1 = (own_sb (f 1) sh + (1 : Int32)).toInt)
    rw [own_bump (by rw [h1]; omega) (by rw [h1]; omega), h1, own_sbP]
    rfl
  unfold own_k3
  have q := own_i01 ((own_sb (f 0) sh).toInt + 1 = (own_sb (f 2) sh + (1 : Int32)).toInt)
  have q' := own_i01 ((own_sb (f 1) sh).toInt + 1 = (own_sb (f 2) sh + (1 : Int32)).toInt)
  rw [own_bump (by rw [h2]; omega) (by rw [h2]; omega), h2, own_sbP]
  rfl
theorem own_plI (a b c : Int) (ha : 0 ≤ a) (hb' : 0 ≤ b) (hc : 0 ≤ c) : ∀ (n : Nat) (iv : Int32) (G : Int32 → Int32), 0 ≤ iv.toInt → iv.toInt + (n : Int) = 256 → (∀ x : Int32, 0 ≤ x.toInt → x.toInt ≤ 256 → (G x).toInt = if x.toInt ≤ iv.toInt then own_L a b c x.toInt else own_C a b c x.toInt) → ∀ x : Int32, 0 ≤ x.toInt → x.toInt ≤ 256 → (own_pl n iv G x).toInt = own_L a b c x.toInt := by
  intro n
  induction n with
  | zero =>
    intro iv G h1 h2 hG x hx1 hx2
    show (G x).toInt = _
    rw [hG x hx1 hx2, if_pos (by omega)]
  | succ n ih =>
    intro iv G h1 h2 hG x hx1 hx2
    have e := own_i1 (fu := n) ⟨h1, h2⟩
    rw [own_pl]
    refine ih (iv + (1 : Int32)) _ (by omega) (by omega) (fun y hy1 hy2 => ?_) x hx1 hx2
    by_cases cy : y = iv + (1 : Int32)
    · subst cy
      rw [own_up_at, if_pos (by omega)]
      have g1 := hG (iv + (1 : Int32)) hy1 hy2
      have g2 := hG iv h1 (by omega)
      rw [if_neg (by omega), e] at g1
      rw [if_pos (by omega)] at g2
      have s := own_stepL a b c iv.toInt
      have l1 : 0 ≤ own_L a b c iv.toInt ∧ own_L a b c iv.toInt ≤ 3 := by
        unfold own_L
        have q1 := own_i01 (a < iv.toInt)
        have q2 := own_i01 (b < iv.toInt)
        have q3 := own_i01 (c < iv.toInt)
        omega
      have l2 : 0 ≤ own_C a b c (iv.toInt + 1) ∧ own_C a b c (iv.toInt + 1) ≤ 3 := by
        unfold own_C
        have q1 := own_i01 (a + 1 = iv.toInt + 1)
        have q2 := own_i01 (b + 1 = iv.toInt + 1)
        have q3 := own_i01 (c + 1 = iv.toInt + 1)
        omega
      rw [own_add (by omega) (by omega), g1, g2, e, s]
      omega
    · have ne : y.toInt ≠ iv.toInt + 1 := fun q => cy (Int32.toInt_inj.mp (by omega))
      rw [own_up_ne G _ cy, hG y hy1 hy2]
      by_cases c1 : y.toInt ≤ iv.toInt
      · rw [if_pos c1, if_pos (by omega)]
      · rw [if_neg c1, if_neg (by omega)]
theorem own_PFL (x : Int32) (h1 : 0 ≤ x.toInt) (h2 : x.toInt ≤ 256) : (own_PF f sh x).toInt = own_L (own_sb (f 0) sh).toInt (own_sb (f 1) sh).toInt (own_sb (f 2) sh).toInt x.toInt := by
  have r0 := own_sbR (f 0) sh
  have r1 := own_sbR (f 1) sh
  have r2 := own_sbR (f 2) sh
  refine own_plI _ _ _ r0.1 r1.1 r2.1 256 0 (own_k3 f sh) (by decide) (by decide) (fun y hy1 hy2 => ?_) x h1 h2
  rw [own_k3C]
  have e0 : (0 : Int32).toInt = 0 := rfl
  by_cases c : y.toInt ≤ (0 : Int32).toInt
  · rw [if_pos c]
    have : y.toInt = 0 := by omega
    rw [this]
    unfold own_C own_L own_i
    rw [if_neg (by omega), if_neg (by omega), if_neg (by omega), if_neg (by omega), if_neg (by omega), if_neg (by omega)]
  · rw [if_neg c]
theorem own_place0 : ¬ own_PF f sh (own_sb (f (0 : Int32)) sh) < 0 ∧ own_PF f sh (own_sb (f (0 : Int32)) sh) < (3 : Int32) := by
  have r := own_sbR (f 0) sh
  have e := own_PFL f sh (own_sb (f 0) sh) r.1 (by omega)
  unfold own_L own_i at e
  have e3 : (3 : Int32).toInt = 3 := rfl
  refine own_in ?_ ?_ <;> (rw [e]; (repeat' split) <;> omega)
theorem own_s1v (x : Int32) : (own_s1 f sh x).toInt = (own_PF f sh x).toInt + own_i ((own_sb (f 0) sh).toInt = x.toInt) := by
  have q := own_place0 f sh
  rw [Int32.lt_iff_toInt_lt, Int32.lt_iff_toInt_lt] at q
  have e3 : (3 : Int32).toInt = 3 := rfl
  have e0 : (0 : Int32).toInt = 0 := rfl
  unfold own_s1
  rw [own_bump (by omega) (by omega)]
  rfl
theorem own_place1 : ¬ own_s1 f sh (own_sb (f (1 : Int32)) sh) < 0 ∧ own_s1 f sh (own_sb (f (1 : Int32)) sh) < (3 : Int32) := by
  have r := own_sbR (f 1) sh
  have e := own_PFL f sh (own_sb (f 1) sh) r.1 (by omega)
  have s := own_s1v f sh (own_sb (f 1) sh)
  unfold own_L own_i at e
  unfold own_i at s
  have e3 : (3 : Int32).toInt = 3 := rfl
  refine own_in ?_ ?_ <;> (rw [s, e]; (repeat' split) <;> omega)
theorem own_s2v (x : Int32) : (own_s2 f sh x).toInt = (own_s1 f sh x).toInt + own_i ((own_sb (f 1) sh).toInt = x.toInt) := by
  have q := own_place1 f sh
  rw [Int32.lt_iff_toInt_lt, Int32.lt_iff_toInt_lt] at q
  have e3 : (3 : Int32).toInt = 3 := rfl
  have e0 : (0 : Int32).toInt = 0 := rfl
  unfold own_s2
  rw [own_bump (by omega) (by omega)]
  rfl
theorem own_place2 : ¬ own_s2 f sh (own_sb (f (2 : Int32)) sh) < 0 ∧ own_s2 f sh (own_sb (f (2 : Int32)) sh) < (3 : Int32) := by
  have r := own_sbR (f 2) sh
  have e := own_PFL f sh (own_sb (f 2) sh) r.1 (by omega)
  have s := own_s1v f sh (own_sb (f 2) sh)
  have s' := own_s2v f sh (own_sb (f 2) sh)
  unfold own_L own_i at e
  unfold own_i at s s'
  have e3 : (3 : Int32).toInt = 3 := rfl
  refine own_in ?_ ?_ <;> (rw [s', s, e]; (repeat' split) <;> omega)
end Srt
/-- the plain law -/
abbrev own_w3 (a b c : Int32) : Int64 := ((((0 : Int64) ||| own_bit a) ||| own_bit b) ||| own_bit c)
theorem own_f1 : ∀ a b c : Fin 8, ((0 : Int32) + own_bc (own_w3 (Int32.ofNat a) (Int32.ofNat b) (Int32.ofNat c))) = (((1 : Int32) + (if Int32.ofNat b = Int32.ofNat a then (0 : Int32) else (1 : Int32))) + (if Int32.ofNat c = Int32.ofNat a then (0 : Int32) else (if Int32.ofNat c = Int32.ofNat b then (0 : Int32) else (1 : Int32)))) := by decide +kernel
theorem own_f2 : ∀ a b c : Fin 8, ∀ d : Fin 16, own_get (own_w3 (Int32.ofNat a) (Int32.ofNat b) (Int32.ofNat c)) (Int32.ofNat d) = (if Int32.ofNat d = Int32.ofNat a then (1 : Int32) else (if Int32.ofNat d = Int32.ofNat b then (1 : Int32) else (if Int32.ofNat d = Int32.ofNat c then (1 : Int32) else (0 : Int32)))) := by decide +kernel
theorem own_f3 : ∀ d e : Fin 16, (own_bit (Int32.ofNat d) ^^^ (-1 : Int64)) &&& own_bit (Int32.ofNat e) = if Int32.ofNat e = Int32.ofNat d then 0 else own_bit (Int32.ofNat e) := by decide +kernel
theorem own_fin8 {x u : Int32} (h : (x &&& (7 : Int32)) = u) : ∃ k : Fin 8, u = Int32.ofNat k := by
  have q := c_and x 7 (by decide)
  have e : (7 : Int32).toInt = 7 := rfl
  rw [h] at q
  have r : (Int32.ofNat u.toInt.toNat).toInt = ((u.toInt.toNat : Nat) : Int) := toInt_of rfl (by omega)
  refine ⟨⟨u.toInt.toNat, by omega⟩, Int32.toInt_inj.mp ?_⟩
  show u.toInt = (Int32.ofNat u.toInt.toNat).toInt
  rw [r]
  omega
theorem own_fin16 {x u : Int32} (h : (x &&& (15 : Int32)) = u) : ∃ k : Fin 16, u = Int32.ofNat k := by
  have q := c_and x 15 (by decide)
  have e : (15 : Int32).toInt = 15 := rfl
  rw [h] at q
  have r : (Int32.ofNat u.toInt.toNat).toInt = ((u.toInt.toNat : Nat) : Int) := toInt_of rfl (by omega)
  refine ⟨⟨u.toInt.toNat, by omega⟩, Int32.toInt_inj.mp ?_⟩
  show u.toInt = (Int32.ofNat u.toInt.toNat).toInt
  rw [r]
  omega
theorem own_l0 {x : Int64} : lcmpW x (0 : Int64) = (0 : Int32) ↔ x = 0 := lw_eq x 0
theorem own_getE (W : Int64) (d : Int32) : own_get W d = if W &&& own_bit d = 0 then (0 : Int32) else (1 : Int32) := by
  unfold own_get
  by_cases c : W &&& own_bit d = 0
  · rw [if_pos (own_l0.mpr c), if_pos c]
  · rw [if_neg (fun q => c (own_l0.mp q)), if_neg c]
theorem own_eqI {s : State} {args : Array Value} {t : Term} {n : Int32} (h : (Cond.eq t (Term.int n)).value args s none s [] = some true) : t.eval args s none [] s = some (.int n) := by
  obtain ⟨x, y, e1, e2, k1, k2⟩ := cmp_v (Or.inl h)
  have e2' : (Term.int n).eval args s none [] s = some (.int n) := Term.int_eval n
  cases e2.symm.trans e2'
  obtain ⟨z, rfl⟩ := k2
  have := gotT (Cond.eq_ints e1 e2') h
  rw [e1, this]
theorem own_p1 {p0 p1 p2 : Int32} {u4_1 : Int32} (hu4_1 : (p0 &&& (7 : Int32)) = u4_1) {u12_2 : Int32} (hu12_2 : (((p0.toUInt32 >>> ((3 : Int32) &&& 31).toUInt32).toInt32) &&& (7 : Int32)) = u12_2) {u21_3 : Int32} (hu21_3 : (((p0.toUInt32 >>> ((6 : Int32) &&& 31).toUInt32).toInt32) &&& (7 : Int32)) = u21_3) {u27_4 : Int32} (hu27_4 : (p1 &&& (15 : Int32)) = u27_4) {u33_5 : Int32} (hu33_5 : (p2 &&& (15 : Int32)) = u33_5) {v48_6 : Int32} (hv48_6 : v48_6 = (if u12_2 = u4_1 then (0 : Int32) else (1 : Int32))) {v68_9 : Int32} (hv68_9 : v68_9 = (if u21_3 = u4_1 then (0 : Int32) else (if u21_3 = u12_2 then (0 : Int32) else (1 : Int32)))) {u69_13 : Int32} (hu69_13 : (((1 : Int32) + v48_6) + v68_9) = u69_13) {v82_14 : Int32} (hv82_14 : v82_14 = (if u69_13 < (3 : Int32) then (1 : Int32) else (0 : Int32))) {v149_25 : Int32} (hv149_25 : v149_25 = (if u27_4 = u4_1 then (1 : Int32) else (if u27_4 = u12_2 then (1 : Int32) else (if u27_4 = u21_3 then (1 : Int32) else (0 : Int32))))) {v177_30 : Int32} (hv177_30 : v177_30 = (if u33_5 = u4_1 then (1 : Int32) else (if u33_5 = u12_2 then (1 : Int32) else (if u33_5 = u21_3 then (1 : Int32) else (0 : Int32))))) {v191_35 : Int32} (hv191_35 : v191_35 = (if v149_25 = (0 : Int32) then (0 : Int32) else (1 : Int32))) {u192_38 : Int32} (hu192_38 : (u69_13 - v191_35) = u192_38) {v213_39 : Int32} (hv213_39 : v213_39 = (if v177_30 = (0 : Int32) then (0 : Int32) else (if u33_5 = u27_4 then (0 : Int32) else (1 : Int32)))) {u214_43 : Int32} (hu214_43 : (u192_38 - v213_39) = u214_43) : ((0 : Int32) + own_bc ((((0 : Int64) ||| own_bit u4_1) ||| own_bit u12_2) ||| own_bit u21_3)) = u69_13 := by
  obtain ⟨ka, ea⟩ := own_fin8 hu4_1
  obtain ⟨kb, eb⟩ := own_fin8 hu12_2
  obtain ⟨kc, ec⟩ := own_fin8 hu21_3
  rw [← hu69_13, hv48_6, hv68_9, ea, eb, ec]
  exact own_f1 ka kb kc
theorem own_g1 {p0 p1 p2 : Int32} {u4_1 : Int32} (hu4_1 : (p0 &&& (7 : Int32)) = u4_1) {u12_2 : Int32} (hu12_2 : (((p0.toUInt32 >>> ((3 : Int32) &&& 31).toUInt32).toInt32) &&& (7 : Int32)) = u12_2) {u21_3 : Int32} (hu21_3 : (((p0.toUInt32 >>> ((6 : Int32) &&& 31).toUInt32).toInt32) &&& (7 : Int32)) = u21_3) {u27_4 : Int32} (hu27_4 : (p1 &&& (15 : Int32)) = u27_4) {u33_5 : Int32} (hu33_5 : (p2 &&& (15 : Int32)) = u33_5) {v48_6 : Int32} (hv48_6 : v48_6 = (if u12_2 = u4_1 then (0 : Int32) else (1 : Int32))) {v68_9 : Int32} (hv68_9 : v68_9 = (if u21_3 = u4_1 then (0 : Int32) else (if u21_3 = u12_2 then (0 : Int32) else (1 : Int32)))) {u69_13 : Int32} (hu69_13 : (((1 : Int32) + v48_6) + v68_9) = u69_13) {v82_14 : Int32} (hv82_14 : v82_14 = (if u69_13 < (3 : Int32) then (1 : Int32) else (0 : Int32))) {v149_25 : Int32} (hv149_25 : v149_25 = (if u27_4 = u4_1 then (1 : Int32) else (if u27_4 = u12_2 then (1 : Int32) else (if u27_4 = u21_3 then (1 : Int32) else (0 : Int32))))) {v177_30 : Int32} (hv177_30 : v177_30 = (if u33_5 = u4_1 then (1 : Int32) else (if u33_5 = u12_2 then (1 : Int32) else (if u33_5 = u21_3 then (1 : Int32) else (0 : Int32))))) {v191_35 : Int32} (hv191_35 : v191_35 = (if v149_25 = (0 : Int32) then (0 : Int32) else (1 : Int32))) {u192_38 : Int32} (hu192_38 : (u69_13 - v191_35) = u192_38) {v213_39 : Int32} (hv213_39 : v213_39 = (if v177_30 = (0 : Int32) then (0 : Int32) else (if u33_5 = u27_4 then (0 : Int32) else (1 : Int32)))) {u214_43 : Int32} (hu214_43 : (u192_38 - v213_39) = u214_43) : own_get (own_w3 u4_1 u12_2 u21_3) u27_4 = v149_25 := by
  obtain ⟨ka, ea⟩ := own_fin8 hu4_1
  obtain ⟨kb, eb⟩ := own_fin8 hu12_2
  obtain ⟨kc, ec⟩ := own_fin8 hu21_3
  obtain ⟨kx, ex⟩ := own_fin16 hu27_4
  rw [hv149_25, ea, eb, ec, ex]
  exact own_f2 ka kb kc kx
theorem own_g2 {p0 p1 p2 : Int32} {u4_1 : Int32} (hu4_1 : (p0 &&& (7 : Int32)) = u4_1) {u12_2 : Int32} (hu12_2 : (((p0.toUInt32 >>> ((3 : Int32) &&& 31).toUInt32).toInt32) &&& (7 : Int32)) = u12_2) {u21_3 : Int32} (hu21_3 : (((p0.toUInt32 >>> ((6 : Int32) &&& 31).toUInt32).toInt32) &&& (7 : Int32)) = u21_3) {u27_4 : Int32} (hu27_4 : (p1 &&& (15 : Int32)) = u27_4) {u33_5 : Int32} (hu33_5 : (p2 &&& (15 : Int32)) = u33_5) {v48_6 : Int32} (hv48_6 : v48_6 = (if u12_2 = u4_1 then (0 : Int32) else (1 : Int32))) {v68_9 : Int32} (hv68_9 : v68_9 = (if u21_3 = u4_1 then (0 : Int32) else (if u21_3 = u12_2 then (0 : Int32) else (1 : Int32)))) {u69_13 : Int32} (hu69_13 : (((1 : Int32) + v48_6) + v68_9) = u69_13) {v82_14 : Int32} (hv82_14 : v82_14 = (if u69_13 < (3 : Int32) then (1 : Int32) else (0 : Int32))) {v149_25 : Int32} (hv149_25 : v149_25 = (if u27_4 = u4_1 then (1 : Int32) else (if u27_4 = u12_2 then (1 : Int32) else (if u27_4 = u21_3 then (1 : Int32) else (0 : Int32))))) {v177_30 : Int32} (hv177_30 : v177_30 = (if u33_5 = u4_1 then (1 : Int32) else (if u33_5 = u12_2 then (1 : Int32) else (if u33_5 = u21_3 then (1 : Int32) else (0 : Int32))))) {v191_35 : Int32} (hv191_35 : v191_35 = (if v149_25 = (0 : Int32) then (0 : Int32) else (1 : Int32))) {u192_38 : Int32} (hu192_38 : (u69_13 - v191_35) = u192_38) {v213_39 : Int32} (hv213_39 : v213_39 = (if v177_30 = (0 : Int32) then (0 : Int32) else (if u33_5 = u27_4 then (0 : Int32) else (1 : Int32)))) {u214_43 : Int32} (hu214_43 : (u192_38 - v213_39) = u214_43) : own_get (own_w3 u4_1 u12_2 u21_3) u33_5 = v177_30 := by
  obtain ⟨ka, ea⟩ := own_fin8 hu4_1
  obtain ⟨kb, eb⟩ := own_fin8 hu12_2
  obtain ⟨kc, ec⟩ := own_fin8 hu21_3
  obtain ⟨ky, ey⟩ := own_fin16 hu33_5
  rw [hv177_30, ea, eb, ec, ey]
  exact own_f2 ka kb kc ky
theorem own_p2 {p0 p1 p2 : Int32} {u4_1 : Int32} (hu4_1 : (p0 &&& (7 : Int32)) = u4_1) {u12_2 : Int32} (hu12_2 : (((p0.toUInt32 >>> ((3 : Int32) &&& 31).toUInt32).toInt32) &&& (7 : Int32)) = u12_2) {u21_3 : Int32} (hu21_3 : (((p0.toUInt32 >>> ((6 : Int32) &&& 31).toUInt32).toInt32) &&& (7 : Int32)) = u21_3) {u27_4 : Int32} (hu27_4 : (p1 &&& (15 : Int32)) = u27_4) {u33_5 : Int32} (hu33_5 : (p2 &&& (15 : Int32)) = u33_5) {v48_6 : Int32} (hv48_6 : v48_6 = (if u12_2 = u4_1 then (0 : Int32) else (1 : Int32))) {v68_9 : Int32} (hv68_9 : v68_9 = (if u21_3 = u4_1 then (0 : Int32) else (if u21_3 = u12_2 then (0 : Int32) else (1 : Int32)))) {u69_13 : Int32} (hu69_13 : (((1 : Int32) + v48_6) + v68_9) = u69_13) {v82_14 : Int32} (hv82_14 : v82_14 = (if u69_13 < (3 : Int32) then (1 : Int32) else (0 : Int32))) {v149_25 : Int32} (hv149_25 : v149_25 = (if u27_4 = u4_1 then (1 : Int32) else (if u27_4 = u12_2 then (1 : Int32) else (if u27_4 = u21_3 then (1 : Int32) else (0 : Int32))))) {v177_30 : Int32} (hv177_30 : v177_30 = (if u33_5 = u4_1 then (1 : Int32) else (if u33_5 = u12_2 then (1 : Int32) else (if u33_5 = u21_3 then (1 : Int32) else (0 : Int32))))) {v191_35 : Int32} (hv191_35 : v191_35 = (if v149_25 = (0 : Int32) then (0 : Int32) else (1 : Int32))) {u192_38 : Int32} (hu192_38 : (u69_13 - v191_35) = u192_38) {v213_39 : Int32} (hv213_39 : v213_39 = (if v177_30 = (0 : Int32) then (0 : Int32) else (if u33_5 = u27_4 then (0 : Int32) else (1 : Int32)))) {u214_43 : Int32} (hu214_43 : (u192_38 - v213_39) = u214_43) : (own_cc ((0 : Int32) + own_bc ((((0 : Int64) ||| own_bit u4_1) ||| own_bit u12_2) ||| own_bit u21_3)) ((((0 : Int64) ||| own_bit u4_1) ||| own_bit u12_2) ||| own_bit u21_3) u27_4) = u192_38 := by
  have g := own_g1 hu4_1 hu12_2 hu21_3 hu27_4 hu33_5 hv48_6 hv68_9 hu69_13 hv82_14 hv149_25 hv177_30 hv191_35 hu192_38 hv213_39 hu214_43
  have n := own_p1 hu4_1 hu12_2 hu21_3 hu27_4 hu33_5 hv48_6 hv68_9 hu69_13 hv82_14 hv149_25 hv177_30 hv191_35 hu192_38 hv213_39 hu214_43
  rw [← hu192_38, hv191_35, ← n]
  unfold own_cc
  rw [show own_get _ _ = _ from g]
  by_cases c : v149_25 = (0 : Int32)
  · rw [if_pos c, if_pos c, Int32.sub_zero]
  · rw [if_neg c, if_neg c]
theorem own_g3 {p0 p1 p2 : Int32} {u4_1 : Int32} (hu4_1 : (p0 &&& (7 : Int32)) = u4_1) {u12_2 : Int32} (hu12_2 : (((p0.toUInt32 >>> ((3 : Int32) &&& 31).toUInt32).toInt32) &&& (7 : Int32)) = u12_2) {u21_3 : Int32} (hu21_3 : (((p0.toUInt32 >>> ((6 : Int32) &&& 31).toUInt32).toInt32) &&& (7 : Int32)) = u21_3) {u27_4 : Int32} (hu27_4 : (p1 &&& (15 : Int32)) = u27_4) {u33_5 : Int32} (hu33_5 : (p2 &&& (15 : Int32)) = u33_5) {v48_6 : Int32} (hv48_6 : v48_6 = (if u12_2 = u4_1 then (0 : Int32) else (1 : Int32))) {v68_9 : Int32} (hv68_9 : v68_9 = (if u21_3 = u4_1 then (0 : Int32) else (if u21_3 = u12_2 then (0 : Int32) else (1 : Int32)))) {u69_13 : Int32} (hu69_13 : (((1 : Int32) + v48_6) + v68_9) = u69_13) {v82_14 : Int32} (hv82_14 : v82_14 = (if u69_13 < (3 : Int32) then (1 : Int32) else (0 : Int32))) {v149_25 : Int32} (hv149_25 : v149_25 = (if u27_4 = u4_1 then (1 : Int32) else (if u27_4 = u12_2 then (1 : Int32) else (if u27_4 = u21_3 then (1 : Int32) else (0 : Int32))))) {v177_30 : Int32} (hv177_30 : v177_30 = (if u33_5 = u4_1 then (1 : Int32) else (if u33_5 = u12_2 then (1 : Int32) else (if u33_5 = u21_3 then (1 : Int32) else (0 : Int32))))) {v191_35 : Int32} (hv191_35 : v191_35 = (if v149_25 = (0 : Int32) then (0 : Int32) else (1 : Int32))) {u192_38 : Int32} (hu192_38 : (u69_13 - v191_35) = u192_38) {v213_39 : Int32} (hv213_39 : v213_39 = (if v177_30 = (0 : Int32) then (0 : Int32) else (if u33_5 = u27_4 then (0 : Int32) else (1 : Int32)))) {u214_43 : Int32} (hu214_43 : (u192_38 - v213_39) = u214_43) : own_get (own_W (own_w3 u4_1 u12_2 u21_3) u27_4) u33_5 = v213_39 := by
  have g1 := own_g1 hu4_1 hu12_2 hu21_3 hu27_4 hu33_5 hv48_6 hv68_9 hu69_13 hv82_14 hv149_25 hv177_30 hv191_35 hu192_38 hv213_39 hu214_43
  have g2 := own_g2 hu4_1 hu12_2 hu21_3 hu27_4 hu33_5 hv48_6 hv68_9 hu69_13 hv82_14 hv149_25 hv177_30 hv191_35 hu192_38 hv213_39 hu214_43
  have v01 : ∀ {W : Int64} {d v : Int32}, own_get W d = v → v = 0 ∨ v = 1 := fun {W d v} q => by
    rw [← q]
    unfold own_get
    split
    · exact Or.inl rfl
    · exact Or.inr rfl
  unfold own_W
  rw [hv213_39, show own_get (own_w3 u4_1 u12_2 u21_3) u27_4 = _ from g1]
  by_cases c1 : v149_25 = (0 : Int32)
  · rw [if_pos c1, show own_get _ u33_5 = _ from g2]
    rcases v01 g2 with c2 | c2
    · rw [if_pos c2]; exact c2
    · rw [c2, if_neg (by decide)]
      by_cases c3 : u33_5 = u27_4
      · exfalso
        rw [c3, g1, c1] at g2
        rw [c2] at g2
        exact absurd g2 (by decide)
      · rw [if_neg c3]
  · rw [if_neg c1]
    have bits : own_clr (own_w3 u4_1 u12_2 u21_3) u27_4 &&& own_bit u33_5 = if u33_5 = u27_4 then 0 else own_w3 u4_1 u12_2 u21_3 &&& own_bit u33_5 := by
      obtain ⟨kx, ex⟩ := own_fin16 hu27_4
      obtain ⟨ky, ey⟩ := own_fin16 hu33_5
      unfold own_clr
      rw [Int64.and_assoc, ex, ey, own_f3 kx ky]
      by_cases c : Int32.ofNat ky = Int32.ofNat kx
      · rw [if_pos c, if_pos c, Int64.and_zero]
      · rw [if_neg c, if_neg c]
    rw [own_getE, bits]
    by_cases c3 : u33_5 = u27_4
    · rw [if_pos c3, if_pos rfl]
      by_cases c2 : v177_30 = (0 : Int32)
      · rw [if_pos c2]
      · rw [if_neg c2, if_pos c3]
    · rw [if_neg c3, ← own_getE, show own_get _ u33_5 = _ from g2]
      rcases v01 g2 with c2 | c2
      · rw [if_pos c2]; exact c2
      · rw [c2, if_neg (by decide), if_neg c3]
theorem own_p3 {p0 p1 p2 : Int32} {u4_1 : Int32} (hu4_1 : (p0 &&& (7 : Int32)) = u4_1) {u12_2 : Int32} (hu12_2 : (((p0.toUInt32 >>> ((3 : Int32) &&& 31).toUInt32).toInt32) &&& (7 : Int32)) = u12_2) {u21_3 : Int32} (hu21_3 : (((p0.toUInt32 >>> ((6 : Int32) &&& 31).toUInt32).toInt32) &&& (7 : Int32)) = u21_3) {u27_4 : Int32} (hu27_4 : (p1 &&& (15 : Int32)) = u27_4) {u33_5 : Int32} (hu33_5 : (p2 &&& (15 : Int32)) = u33_5) {v48_6 : Int32} (hv48_6 : v48_6 = (if u12_2 = u4_1 then (0 : Int32) else (1 : Int32))) {v68_9 : Int32} (hv68_9 : v68_9 = (if u21_3 = u4_1 then (0 : Int32) else (if u21_3 = u12_2 then (0 : Int32) else (1 : Int32)))) {u69_13 : Int32} (hu69_13 : (((1 : Int32) + v48_6) + v68_9) = u69_13) {v82_14 : Int32} (hv82_14 : v82_14 = (if u69_13 < (3 : Int32) then (1 : Int32) else (0 : Int32))) {v149_25 : Int32} (hv149_25 : v149_25 = (if u27_4 = u4_1 then (1 : Int32) else (if u27_4 = u12_2 then (1 : Int32) else (if u27_4 = u21_3 then (1 : Int32) else (0 : Int32))))) {v177_30 : Int32} (hv177_30 : v177_30 = (if u33_5 = u4_1 then (1 : Int32) else (if u33_5 = u12_2 then (1 : Int32) else (if u33_5 = u21_3 then (1 : Int32) else (0 : Int32))))) {v191_35 : Int32} (hv191_35 : v191_35 = (if v149_25 = (0 : Int32) then (0 : Int32) else (1 : Int32))) {u192_38 : Int32} (hu192_38 : (u69_13 - v191_35) = u192_38) {v213_39 : Int32} (hv213_39 : v213_39 = (if v177_30 = (0 : Int32) then (0 : Int32) else (if u33_5 = u27_4 then (0 : Int32) else (1 : Int32)))) {u214_43 : Int32} (hu214_43 : (u192_38 - v213_39) = u214_43) : (own_cc (own_cc ((0 : Int32) + own_bc ((((0 : Int64) ||| own_bit u4_1) ||| own_bit u12_2) ||| own_bit u21_3)) ((((0 : Int64) ||| own_bit u4_1) ||| own_bit u12_2) ||| own_bit u21_3) u27_4) (own_W ((((0 : Int64) ||| own_bit u4_1) ||| own_bit u12_2) ||| own_bit u21_3) u27_4) u33_5) = u214_43 := by
  have g := own_g3 hu4_1 hu12_2 hu21_3 hu27_4 hu33_5 hv48_6 hv68_9 hu69_13 hv82_14 hv149_25 hv177_30 hv191_35 hu192_38 hv213_39 hu214_43
  have n := own_p2 hu4_1 hu12_2 hu21_3 hu27_4 hu33_5 hv48_6 hv68_9 hu69_13 hv82_14 hv149_25 hv177_30 hv191_35 hu192_38 hv213_39 hu214_43
  rw [n]
  rw [← hu214_43]
  unfold own_cc
  rw [show own_get _ _ = _ from g]
  by_cases c : v213_39 = (0 : Int32)
  · rw [if_pos c, c, Int32.sub_zero]
  · rw [if_neg c]
    have : v213_39 = 1 := by
      rw [hv213_39] at c ⊢
      repeat' split at c
      all_goals first | exact absurd rfl c | skip
      all_goals simp_all
    rw [this]
theorem own_p4 {p0 p1 p2 : Int32} {u4_1 : Int32} (hu4_1 : (p0 &&& (7 : Int32)) = u4_1) {u12_2 : Int32} (hu12_2 : (((p0.toUInt32 >>> ((3 : Int32) &&& 31).toUInt32).toInt32) &&& (7 : Int32)) = u12_2) {u21_3 : Int32} (hu21_3 : (((p0.toUInt32 >>> ((6 : Int32) &&& 31).toUInt32).toInt32) &&& (7 : Int32)) = u21_3) {u27_4 : Int32} (hu27_4 : (p1 &&& (15 : Int32)) = u27_4) {u33_5 : Int32} (hu33_5 : (p2 &&& (15 : Int32)) = u33_5) {v48_6 : Int32} (hv48_6 : v48_6 = (if u12_2 = u4_1 then (0 : Int32) else (1 : Int32))) {v68_9 : Int32} (hv68_9 : v68_9 = (if u21_3 = u4_1 then (0 : Int32) else (if u21_3 = u12_2 then (0 : Int32) else (1 : Int32)))) {u69_13 : Int32} (hu69_13 : (((1 : Int32) + v48_6) + v68_9) = u69_13) {v82_14 : Int32} (hv82_14 : v82_14 = (if u69_13 < (3 : Int32) then (1 : Int32) else (0 : Int32))) {v149_25 : Int32} (hv149_25 : v149_25 = (if u27_4 = u4_1 then (1 : Int32) else (if u27_4 = u12_2 then (1 : Int32) else (if u27_4 = u21_3 then (1 : Int32) else (0 : Int32))))) {v177_30 : Int32} (hv177_30 : v177_30 = (if u33_5 = u4_1 then (1 : Int32) else (if u33_5 = u12_2 then (1 : Int32) else (if u33_5 = u21_3 then (1 : Int32) else (0 : Int32))))) {v191_35 : Int32} (hv191_35 : v191_35 = (if v149_25 = (0 : Int32) then (0 : Int32) else (1 : Int32))) {u192_38 : Int32} (hu192_38 : (u69_13 - v191_35) = u192_38) {v213_39 : Int32} (hv213_39 : v213_39 = (if v177_30 = (0 : Int32) then (0 : Int32) else (if u33_5 = u27_4 then (0 : Int32) else (1 : Int32)))) {u214_43 : Int32} (hu214_43 : (u192_38 - v213_39) = u214_43) (hz0 : lcmpW (own_W (own_w3 u4_1 u12_2 u21_3) u27_4) (0 : Int64) = (0 : Int32)) : (own_cc ((0 : Int32) + own_bc ((((0 : Int64) ||| own_bit u4_1) ||| own_bit u12_2) ||| own_bit u21_3)) ((((0 : Int64) ||| own_bit u4_1) ||| own_bit u12_2) ||| own_bit u21_3) u27_4) = u214_43 := by
  have g := own_g3 hu4_1 hu12_2 hu21_3 hu27_4 hu33_5 hv48_6 hv68_9 hu69_13 hv82_14 hv149_25 hv177_30 hv191_35 hu192_38 hv213_39 hu214_43
  have n := own_p2 hu4_1 hu12_2 hu21_3 hu27_4 hu33_5 hv48_6 hv68_9 hu69_13 hv82_14 hv149_25 hv177_30 hv191_35 hu192_38 hv213_39 hu214_43
  rw [own_getE, own_l0.mp hz0, Int64.zero_and, if_pos rfl] at g
  rw [n, ← hu214_43, ← g, Int32.sub_zero]
theorem ef0 (m : MethodId) (x0 : Int32) : entryFrame m #[(.int x0)] 1 = mkF m 0 #[.val (.int x0)] [] := by first | (simp [entryFrame, mkF, argsToLocals, Value.category]; done) | rfl
theorem pn0 : plainName "java/util/BitSet" = true := by first | (simp [plainName, overriddenIn]; done) | decide +kernel
theorem d6_0 : decode kQ0 0 = .ok (.iload_n 0, 1) := by decide +kernel
theorem d6_1 : decode kQ0 1 = .ok (.bipush 6, 2) := by decide +kernel
theorem d6_3 : decode kQ0 3 = .ok (.ishr, 1) := by decide +kernel
theorem d6_4 : decode kQ0 4 = .ok (.ireturn, 1) := by decide +kernel
theorem ef1 (m : MethodId) (x0 : Int32) (x1 : Int32) : entryFrame m #[(.int x0), (.int x1)] 4 = mkF m 0 #[.val (.int x0), .val (.int x1), .unset, .unset] [] := by first | (simp [entryFrame, mkF, argsToLocals, Value.category]; done) | rfl
theorem d7_0 : decode kQ1 0 = .ok (.iload_n 0, 1) := by decide +kernel
theorem d7_1 : decode kQ1 1 = .ok (.i2l, 1) := by decide +kernel
theorem d7_2 : decode kQ1 2 = .ok (.iload_n 1, 1) := by decide +kernel
theorem d7_3 : decode kQ1 3 = .ok (.i2l, 1) := by decide +kernel
theorem d7_4 : decode kQ1 4 = .ok (.lmul, 1) := by decide +kernel
theorem d7_5 : decode kQ1 5 = .ok (.lstore_n 2, 1) := by decide +kernel
theorem d7_6 : decode kQ1 6 = .ok (.lload_n 2, 1) := by decide +kernel
theorem d7_7 : decode kQ1 7 = .ok (.l2i, 1) := by decide +kernel
theorem d7_8 : decode kQ1 8 = .ok (.i2l, 1) := by decide +kernel
theorem d7_9 : decode kQ1 9 = .ok (.lload_n 2, 1) := by decide +kernel
theorem d7_10 : decode kQ1 10 = .ok (.lcmp, 1) := by decide +kernel
theorem d7_11 : decode kQ1 11 = .ok (.ifCond .eq 13, 3) := by decide +kernel
theorem d7_24 : decode kQ1 24 = .ok (.lload_n 2, 1) := by decide +kernel
theorem d7_25 : decode kQ1 25 = .ok (.l2i, 1) := by decide +kernel
theorem d7_26 : decode kQ1 26 = .ok (.ireturn, 1) := by decide +kernel
theorem ef2 (m : MethodId) (x0 : Int32) (x1 : Int32) : entryFrame m #[(.int x0), (.int x1)] 2 = mkF m 0 #[.val (.int x0), .val (.int x1)] [] := by first | (simp [entryFrame, mkF, argsToLocals, Value.category]; done) | rfl
theorem d18_0 : decode kQ2 0 = .ok (.iload_n 0, 1) := by decide +kernel
theorem d18_1 : decode kQ2 1 = .ok (.iload_n 1, 1) := by decide +kernel
theorem d18_2 : decode kQ2 2 = .ok (.if_icmp .gt 7, 3) := by decide +kernel
theorem d18_9 : decode kQ2 9 = .ok (.iload_n 1, 1) := by decide +kernel
theorem d18_5 : decode kQ2 5 = .ok (.iload_n 0, 1) := by decide +kernel
theorem d18_6 : decode kQ2 6 = .ok (.goto 4, 3) := by decide +kernel
theorem d18_10 : decode kQ2 10 = .ok (.ireturn, 1) := by decide +kernel
theorem ef3 (m : MethodId) (x0 : Int64) (x1 : Int32) : entryFrame m #[(.long x0), (.int x1)] 3 = mkF m 0 #[.val (.long x0), .second, .val (.int x1)] [] := by first | (simp [entryFrame, mkF, argsToLocals, Value.category]; done) | rfl
theorem pn1 : plainName "com/example/tight_pivot/tightpivot/ValueTree" = true := by first | (simp [plainName, overriddenIn]; done) | decide +kernel
theorem d15_0 : decode kQ3 0 = .ok (.lload_n 0, 1) := by decide +kernel
theorem d15_1 : decode kQ3 1 = .ok (.ldc2_w 139, 3) := by decide +kernel
theorem Wd100 {Z a0} (hw : HW a0 Z) : ((Cond.constantLong zZ0 139 (-9223372036854775808 : Int64))).before a0 Z = true := wAt hw (i := 100) rfl
theorem d15_4 : decode kQ3 4 = .ok (.lxor, 1) := by decide +kernel
theorem d15_5 : decode kQ3 5 = .ok (.iload_n 2, 1) := by decide +kernel
theorem d15_6 : decode kQ3 6 = .ok (.lushr, 1) := by decide +kernel
theorem d15_7 : decode kQ3 7 = .ok (.l2i, 1) := by decide +kernel
theorem d15_8 : decode kQ3 8 = .ok (.sipush 255, 3) := by decide +kernel
theorem d15_11 : decode kQ3 11 = .ok (.iand, 1) := by decide +kernel
theorem d15_12 : decode kQ3 12 = .ok (.ireturn, 1) := by decide +kernel
theorem ef4 (m : MethodId) (x0 : Int64) : entryFrame m #[(.long x0)] 2 = mkF m 0 #[.val (.long x0), .second] [] := by first | (simp [entryFrame, mkF, argsToLocals, Value.category]; done) | rfl
theorem pn2 : plainName "java/lang/Long" = true := by first | (simp [plainName, overriddenIn]; done) | decide +kernel
theorem d13_0 : decode kQ4 0 = .ok (.lload_n 0, 1) := by decide +kernel
theorem d13_1 : decode kQ4 1 = .ok (.lload_n 0, 1) := by decide +kernel
theorem d13_2 : decode kQ4 2 = .ok (.iconst 1, 1) := by decide +kernel
theorem d13_3 : decode kQ4 3 = .ok (.lushr, 1) := by decide +kernel
theorem d13_4 : decode kQ4 4 = .ok (.ldc2_w 314, 3) := by decide +kernel
theorem Wd86 {Z a0} (hw : HW a0 Z) : ((Cond.constantLong "java/lang/Long" 314 (6148914691236517205 : Int64))).before a0 Z = true := wAt hw (i := 86) rfl
theorem d13_7 : decode kQ4 7 = .ok (.land, 1) := by decide +kernel
theorem d13_8 : decode kQ4 8 = .ok (.lsub, 1) := by decide +kernel
theorem d13_9 : decode kQ4 9 = .ok (.lstore_n 0, 1) := by decide +kernel
theorem d13_10 : decode kQ4 10 = .ok (.lload_n 0, 1) := by decide +kernel
theorem d13_11 : decode kQ4 11 = .ok (.ldc2_w 316, 3) := by decide +kernel
theorem Wd87 {Z a0} (hw : HW a0 Z) : ((Cond.constantLong "java/lang/Long" 316 (3689348814741910323 : Int64))).before a0 Z = true := wAt hw (i := 87) rfl
theorem d13_14 : decode kQ4 14 = .ok (.land, 1) := by decide +kernel
theorem d13_15 : decode kQ4 15 = .ok (.lload_n 0, 1) := by decide +kernel
theorem d13_16 : decode kQ4 16 = .ok (.iconst 2, 1) := by decide +kernel
theorem d13_17 : decode kQ4 17 = .ok (.lushr, 1) := by decide +kernel
theorem d13_18 : decode kQ4 18 = .ok (.ldc2_w 316, 3) := by decide +kernel
theorem d13_21 : decode kQ4 21 = .ok (.land, 1) := by decide +kernel
theorem d13_22 : decode kQ4 22 = .ok (.ladd, 1) := by decide +kernel
theorem d13_23 : decode kQ4 23 = .ok (.lstore_n 0, 1) := by decide +kernel
theorem d13_24 : decode kQ4 24 = .ok (.lload_n 0, 1) := by decide +kernel
theorem d13_25 : decode kQ4 25 = .ok (.lload_n 0, 1) := by decide +kernel
theorem d13_26 : decode kQ4 26 = .ok (.iconst 4, 1) := by decide +kernel
theorem d13_27 : decode kQ4 27 = .ok (.lushr, 1) := by decide +kernel
theorem d13_28 : decode kQ4 28 = .ok (.ladd, 1) := by decide +kernel
theorem d13_29 : decode kQ4 29 = .ok (.ldc2_w 318, 3) := by decide +kernel
theorem Wd88 {Z a0} (hw : HW a0 Z) : ((Cond.constantLong "java/lang/Long" 318 (1085102592571150095 : Int64))).before a0 Z = true := wAt hw (i := 88) rfl
theorem d13_32 : decode kQ4 32 = .ok (.land, 1) := by decide +kernel
theorem d13_33 : decode kQ4 33 = .ok (.lstore_n 0, 1) := by decide +kernel
theorem d13_34 : decode kQ4 34 = .ok (.lload_n 0, 1) := by decide +kernel
theorem d13_35 : decode kQ4 35 = .ok (.lload_n 0, 1) := by decide +kernel
theorem d13_36 : decode kQ4 36 = .ok (.bipush 8, 2) := by decide +kernel
theorem d13_38 : decode kQ4 38 = .ok (.lushr, 1) := by decide +kernel
theorem d13_39 : decode kQ4 39 = .ok (.ladd, 1) := by decide +kernel
theorem d13_40 : decode kQ4 40 = .ok (.lstore_n 0, 1) := by decide +kernel
theorem d13_41 : decode kQ4 41 = .ok (.lload_n 0, 1) := by decide +kernel
theorem d13_42 : decode kQ4 42 = .ok (.lload_n 0, 1) := by decide +kernel
theorem d13_43 : decode kQ4 43 = .ok (.bipush 16, 2) := by decide +kernel
theorem d13_45 : decode kQ4 45 = .ok (.lushr, 1) := by decide +kernel
theorem d13_46 : decode kQ4 46 = .ok (.ladd, 1) := by decide +kernel
theorem d13_47 : decode kQ4 47 = .ok (.lstore_n 0, 1) := by decide +kernel
theorem d13_48 : decode kQ4 48 = .ok (.lload_n 0, 1) := by decide +kernel
theorem d13_49 : decode kQ4 49 = .ok (.lload_n 0, 1) := by decide +kernel
theorem d13_50 : decode kQ4 50 = .ok (.bipush 32, 2) := by decide +kernel
theorem d13_52 : decode kQ4 52 = .ok (.lushr, 1) := by decide +kernel
theorem d13_53 : decode kQ4 53 = .ok (.ladd, 1) := by decide +kernel
theorem d13_54 : decode kQ4 54 = .ok (.lstore_n 0, 1) := by decide +kernel
theorem d13_55 : decode kQ4 55 = .ok (.lload_n 0, 1) := by decide +kernel
theorem d13_56 : decode kQ4 56 = .ok (.l2i, 1) := by decide +kernel
theorem d13_57 : decode kQ4 57 = .ok (.bipush 127, 2) := by decide +kernel
theorem d13_59 : decode kQ4 59 = .ok (.iand, 1) := by decide +kernel
theorem d13_60 : decode kQ4 60 = .ok (.ireturn, 1) := by decide +kernel
theorem ef5 (m : MethodId) (x0 : Addr) (x1 : Int32) : entryFrame m #[(.ref x0), (.int x1)] 2 = mkF m 0 #[.val (.ref x0), .val (.int x1)] [] := by first | (simp [entryFrame, mkF, argsToLocals, Value.category]; done) | rfl
theorem d5_0 : decode kQ5 0 = .ok (.aload_n 0, 1) := by decide +kernel
theorem d5_1 : decode kQ5 1 = .ok (.iload_n 1, 1) := by decide +kernel
theorem d5_2 : decode kQ5 2 = .ok (.iconst 1, 1) := by decide +kernel
theorem d5_3 : decode kQ5 3 = .ok (.isub, 1) := by decide +kernel
theorem Wd30 {Z a0} (hw : HW a0 Z) : ((Cond.methodLink "java/util/BitSet" 52 ⟨"java/util/BitSet", "wordIndex", "(I)I"⟩)).before a0 Z = true := wAt hw (i := 30) rfl
theorem Wd32 {Z a0} (hw : HW a0 Z) : ((Cond.code ⟨"java/util/BitSet", "wordIndex", "(I)I"⟩ kQ0 1 (Option.some FieldType.int))).before a0 Z = true := wAt hw (i := 32) rfl
theorem Wd16 {Z a0} (hw : HW a0 Z) : ((Cond.initialized "java/util/BitSet")).before a0 Z = true := wAt hw (i := 16) rfl
theorem pd0 : parseMethodDescriptor "(I)I" = some ⟨[.int], some .int⟩ := by decide +kernel
theorem d5_4 : decode kQ5 4 = .ok (.invokestatic 52, 3) := by decide +kernel
theorem Wd31 {Z a0} (hw : HW a0 Z) : ((Cond.static ⟨"java/util/BitSet", "wordIndex", "(I)I"⟩)).before a0 Z = true := wAt hw (i := 31) rfl
theorem d5_7 : decode kQ5 7 = .ok (.iconst 1, 1) := by decide +kernel
theorem d5_8 : decode kQ5 8 = .ok (.iadd, 1) := by decide +kernel
theorem d5_9 : decode kQ5 9 = .ok (.newarray .long, 2) := by decide +kernel
theorem Wd1 {Z a0} (hw : HW a0 Z) : ((Cond.arrayClass FieldType.long)).before a0 Z = true := wAt hw (i := 1) rfl
theorem d5_11 : decode kQ5 11 = .ok (.putfield 11, 3) := by decide +kernel
theorem Wd33 {Z a0} (hw : HW a0 Z) : ((Cond.fieldLink "java/util/BitSet" 11 "java/util/BitSet" "words" "[J")).before a0 Z = true := wAt hw (i := 33) rfl
theorem Wd34 {Z a0} (hw : HW a0 Z) : ((Cond.lays "java/util/BitSet" "java/util/BitSet" "words" "[J")).before a0 Z = true := wAt hw (i := 34) rfl
theorem Wd15 {Z a0} (hw : HW a0 Z) : ((Cond.instantiable "java/util/BitSet" 3)).before a0 Z = true := wAt hw (i := 15) rfl
theorem Wd22 {Z a0} (hw : HW a0 Z) : ((Cond.lays "java/util/BitSet" "java/util/BitSet" "wordsInUse" "I")).before a0 Z = true := wAt hw (i := 22) rfl
theorem Wd24 {Z a0} (hw : HW a0 Z) : ((Cond.lays "java/util/BitSet" "java/util/BitSet" "sizeIsSticky" "Z")).before a0 Z = true := wAt hw (i := 24) rfl
theorem d5_14 : decode kQ5 14 = .ok (.return_, 1) := by decide +kernel
theorem ef6 (m : MethodId) (x0 : Addr) : entryFrame m #[(.ref x0)] 1 = mkF m 0 #[.val (.ref x0)] [] := by first | (simp [entryFrame, mkF, argsToLocals, Value.category]; done) | rfl
theorem d4_0 : decode kQ6 0 = .ok (.aload_n 0, 1) := by decide +kernel
theorem Wd20 {Z a0} (hw : HW a0 Z) : ((Cond.methodLink "java/util/BitSet" 21 ⟨"java/lang/Object", "<init>", "()V"⟩)).before a0 Z = true := wAt hw (i := 20) rfl
theorem Wd12 {Z a0} (hw : HW a0 Z) : ((Cond.instanceMethod ⟨"java/lang/Object", "<init>", "()V"⟩)).before a0 Z = true := wAt hw (i := 12) rfl
theorem Wd13 {Z a0} (hw : HW a0 Z) : ((Cond.code ⟨"java/lang/Object", "<init>", "()V"⟩ object_method_1_code 1 (Option.none : Option Jvm.ClassFile.FieldType))).before a0 Z = true := wAt hw (i := 13) rfl
theorem d4_1 : decode kQ6 1 = .ok (.invokespecial 21, 3) := by decide +kernel
theorem d4_4 : decode kQ6 4 = .ok (.aload_n 0, 1) := by decide +kernel
theorem d4_5 : decode kQ6 5 = .ok (.iconst 0, 1) := by decide +kernel
theorem d4_6 : decode kQ6 6 = .ok (.putfield 7, 3) := by decide +kernel
theorem Wd21 {Z a0} (hw : HW a0 Z) : ((Cond.fieldLink "java/util/BitSet" 7 "java/util/BitSet" "wordsInUse" "I")).before a0 Z = true := wAt hw (i := 21) rfl
theorem d4_9 : decode kQ6 9 = .ok (.aload_n 0, 1) := by decide +kernel
theorem d4_10 : decode kQ6 10 = .ok (.iconst 0, 1) := by decide +kernel
theorem d4_11 : decode kQ6 11 = .ok (.putfield 24, 3) := by decide +kernel
theorem Wd23 {Z a0} (hw : HW a0 Z) : ((Cond.fieldLink "java/util/BitSet" 24 "java/util/BitSet" "sizeIsSticky" "Z")).before a0 Z = true := wAt hw (i := 23) rfl
theorem d4_14 : decode kQ6 14 = .ok (.aload_n 0, 1) := by decide +kernel
theorem d4_15 : decode kQ6 15 = .ok (.bipush 64, 2) := by decide +kernel
theorem Wd25 {Z a0} (hw : HW a0 Z) : ((Cond.methodLink "java/util/BitSet" 27 ⟨"java/util/BitSet", "initWords", "(I)V"⟩)).before a0 Z = true := wAt hw (i := 25) rfl
theorem Wd29 {Z a0} (hw : HW a0 Z) : ((Cond.code ⟨"java/util/BitSet", "initWords", "(I)V"⟩ kQ5 2 (Option.none : Option Jvm.ClassFile.FieldType))).before a0 Z = true := wAt hw (i := 29) rfl
theorem pd1 : parseMethodDescriptor "(I)V" = some ⟨[.int], none⟩ := by decide +kernel
theorem d4_17 : decode kQ6 17 = .ok (.invokevirtual 27, 3) := by decide +kernel
theorem Wd26 {Z a0} (hw : HW a0 Z) : ((Cond.instanceMethod ⟨"java/util/BitSet", "initWords", "(I)V"⟩)).before a0 Z = true := wAt hw (i := 26) rfl
theorem Wd28 {Z a0} (hw : HW a0 Z) : ((Cond.selects "java/util/BitSet" ⟨"java/util/BitSet", "initWords", "(I)V"⟩ ⟨"java/util/BitSet", "initWords", "(I)V"⟩)).before a0 Z = true := wAt hw (i := 28) rfl
theorem Wd27 {Z a0} (hw : HW a0 Z) : ((Cond.privateMethod ⟨"java/util/BitSet", "initWords", "(I)V"⟩)).before a0 Z = true := wAt hw (i := 27) rfl
theorem d4_20 : decode kQ6 20 = .ok (.aload_n 0, 1) := by decide +kernel
theorem d4_21 : decode kQ6 21 = .ok (.iconst 0, 1) := by decide +kernel
theorem d4_22 : decode kQ6 22 = .ok (.putfield 24, 3) := by decide +kernel
theorem d4_25 : decode kQ6 25 = .ok (.return_, 1) := by decide +kernel
theorem d11_0 : decode kQ7 0 = .ok (.getstatic 3, 3) := by decide +kernel
theorem Wd76 {Z a0} (hw : HW a0 Z) : ((Cond.fieldLink "java/util/BitSet" 3 "java/util/BitSet" "$assertionsDisabled" "Z")).before a0 Z = true := wAt hw (i := 76) rfl
theorem d11_3 : decode kQ7 3 = .ok (.ifCond .ne 34, 3) := by decide +kernel
theorem d11_37 : decode kQ7 37 = .ok (.getstatic 3, 3) := by decide +kernel
theorem d11_40 : decode kQ7 40 = .ok (.ifCond .ne 30, 3) := by decide +kernel
theorem d11_70 : decode kQ7 70 = .ok (.getstatic 3, 3) := by decide +kernel
theorem d11_73 : decode kQ7 73 = .ok (.ifCond .ne 37, 3) := by decide +kernel
theorem d11_110 : decode kQ7 110 = .ok (.return_, 1) := by decide +kernel
theorem ef7 (m : MethodId) (x0 : Addr) (x1 : Int32) : entryFrame m #[(.ref x0), (.int x1)] 3 = mkF m 0 #[.val (.ref x0), .val (.int x1), .unset] [] := by first | (simp [entryFrame, mkF, argsToLocals, Value.category]; done) | rfl
theorem d10_0 : decode kQ8 0 = .ok (.aload_n 0, 1) := by decide +kernel
theorem d10_1 : decode kQ8 1 = .ok (.getfield 11, 3) := by decide +kernel
theorem d10_4 : decode kQ8 4 = .ok (.arraylength, 1) := by decide +kernel
theorem d10_5 : decode kQ8 5 = .ok (.iload_n 1, 1) := by decide +kernel
theorem d10_6 : decode kQ8 6 = .ok (.if_icmp .ge 32, 3) := by decide +kernel
theorem d10_38 : decode kQ8 38 = .ok (.return_, 1) := by decide +kernel
theorem d9_0 : decode kQ9 0 = .ok (.iload_n 1, 1) := by decide +kernel
theorem d9_1 : decode kQ9 1 = .ok (.iconst 1, 1) := by decide +kernel
theorem d9_2 : decode kQ9 2 = .ok (.iadd, 1) := by decide +kernel
theorem d9_3 : decode kQ9 3 = .ok (.istore_n 2, 1) := by decide +kernel
theorem d9_4 : decode kQ9 4 = .ok (.aload_n 0, 1) := by decide +kernel
theorem d9_5 : decode kQ9 5 = .ok (.getfield 7, 3) := by decide +kernel
theorem d9_8 : decode kQ9 8 = .ok (.iload_n 2, 1) := by decide +kernel
theorem d9_9 : decode kQ9 9 = .ok (.if_icmp .ge 13, 3) := by decide +kernel
theorem d9_12 : decode kQ9 12 = .ok (.aload_n 0, 1) := by decide +kernel
theorem d9_13 : decode kQ9 13 = .ok (.iload_n 2, 1) := by decide +kernel
theorem Wd66 {Z a0} (hw : HW a0 Z) : ((Cond.methodLink "java/util/BitSet" 139 ⟨"java/util/BitSet", "ensureCapacity", "(I)V"⟩)).before a0 Z = true := wAt hw (i := 66) rfl
theorem Wd70 {Z a0} (hw : HW a0 Z) : ((Cond.code ⟨"java/util/BitSet", "ensureCapacity", "(I)V"⟩ kQ8 3 (Option.none : Option Jvm.ClassFile.FieldType))).before a0 Z = true := wAt hw (i := 70) rfl
theorem d9_14 : decode kQ9 14 = .ok (.invokevirtual 139, 3) := by decide +kernel
theorem Wd67 {Z a0} (hw : HW a0 Z) : ((Cond.instanceMethod ⟨"java/util/BitSet", "ensureCapacity", "(I)V"⟩)).before a0 Z = true := wAt hw (i := 67) rfl
theorem Wd69 {Z a0} (hw : HW a0 Z) : ((Cond.selects "java/util/BitSet" ⟨"java/util/BitSet", "ensureCapacity", "(I)V"⟩ ⟨"java/util/BitSet", "ensureCapacity", "(I)V"⟩)).before a0 Z = true := wAt hw (i := 69) rfl
theorem Wd68 {Z a0} (hw : HW a0 Z) : ((Cond.privateMethod ⟨"java/util/BitSet", "ensureCapacity", "(I)V"⟩)).before a0 Z = true := wAt hw (i := 68) rfl
theorem d9_17 : decode kQ9 17 = .ok (.aload_n 0, 1) := by decide +kernel
theorem d9_18 : decode kQ9 18 = .ok (.iload_n 2, 1) := by decide +kernel
theorem d9_19 : decode kQ9 19 = .ok (.putfield 7, 3) := by decide +kernel
theorem d9_22 : decode kQ9 22 = .ok (.return_, 1) := by decide +kernel
theorem d8_0 : decode kQ10 0 = .ok (.iload_n 1, 1) := by decide +kernel
theorem d8_1 : decode kQ10 1 = .ok (.ifCond .ge 30, 3) := by decide +kernel
theorem d8_31 : decode kQ10 31 = .ok (.iload_n 1, 1) := by decide +kernel
theorem d8_32 : decode kQ10 32 = .ok (.invokestatic 52, 3) := by decide +kernel
theorem d8_35 : decode kQ10 35 = .ok (.istore_n 2, 1) := by decide +kernel
theorem d8_36 : decode kQ10 36 = .ok (.aload_n 0, 1) := by decide +kernel
theorem d8_37 : decode kQ10 37 = .ok (.iload_n 2, 1) := by decide +kernel
theorem Wd61 {Z a0} (hw : HW a0 Z) : ((Cond.methodLink "java/util/BitSet" 155 ⟨"java/util/BitSet", "expandTo", "(I)V"⟩)).before a0 Z = true := wAt hw (i := 61) rfl
theorem Wd65 {Z a0} (hw : HW a0 Z) : ((Cond.code ⟨"java/util/BitSet", "expandTo", "(I)V"⟩ kQ9 3 (Option.none : Option Jvm.ClassFile.FieldType))).before a0 Z = true := wAt hw (i := 65) rfl
theorem d8_38 : decode kQ10 38 = .ok (.invokevirtual 155, 3) := by decide +kernel
theorem Wd62 {Z a0} (hw : HW a0 Z) : ((Cond.instanceMethod ⟨"java/util/BitSet", "expandTo", "(I)V"⟩)).before a0 Z = true := wAt hw (i := 62) rfl
theorem Wd64 {Z a0} (hw : HW a0 Z) : ((Cond.selects "java/util/BitSet" ⟨"java/util/BitSet", "expandTo", "(I)V"⟩ ⟨"java/util/BitSet", "expandTo", "(I)V"⟩)).before a0 Z = true := wAt hw (i := 64) rfl
theorem Wd63 {Z a0} (hw : HW a0 Z) : ((Cond.privateMethod ⟨"java/util/BitSet", "expandTo", "(I)V"⟩)).before a0 Z = true := wAt hw (i := 63) rfl
theorem d8_41 : decode kQ10 41 = .ok (.aload_n 0, 1) := by decide +kernel
theorem d8_42 : decode kQ10 42 = .ok (.getfield 11, 3) := by decide +kernel
theorem d8_45 : decode kQ10 45 = .ok (.iload_n 2, 1) := by decide +kernel
theorem d8_46 : decode kQ10 46 = .ok (.dup2, 1) := by decide +kernel
theorem d8_47 : decode kQ10 47 = .ok (.laload, 1) := by decide +kernel
theorem d8_48 : decode kQ10 48 = .ok (.lconst 1, 1) := by decide +kernel
theorem d8_49 : decode kQ10 49 = .ok (.iload_n 1, 1) := by decide +kernel
theorem d8_50 : decode kQ10 50 = .ok (.lshl, 1) := by decide +kernel
theorem d8_51 : decode kQ10 51 = .ok (.lor, 1) := by decide +kernel
theorem d8_52 : decode kQ10 52 = .ok (.lastore, 1) := by decide +kernel
theorem d8_53 : decode kQ10 53 = .ok (.aload_n 0, 1) := by decide +kernel
theorem Wd71 {Z a0} (hw : HW a0 Z) : ((Cond.methodLink "java/util/BitSet" 56 ⟨"java/util/BitSet", "checkInvariants", "()V"⟩)).before a0 Z = true := wAt hw (i := 71) rfl
theorem Wd75 {Z a0} (hw : HW a0 Z) : ((Cond.code ⟨"java/util/BitSet", "checkInvariants", "()V"⟩ kQ7 1 (Option.none : Option Jvm.ClassFile.FieldType))).before a0 Z = true := wAt hw (i := 75) rfl
theorem pd2 : parseMethodDescriptor "()V" = some ⟨[], none⟩ := by decide +kernel
theorem d8_54 : decode kQ10 54 = .ok (.invokevirtual 56, 3) := by decide +kernel
theorem Wd72 {Z a0} (hw : HW a0 Z) : ((Cond.instanceMethod ⟨"java/util/BitSet", "checkInvariants", "()V"⟩)).before a0 Z = true := wAt hw (i := 72) rfl
theorem Wd74 {Z a0} (hw : HW a0 Z) : ((Cond.selects "java/util/BitSet" ⟨"java/util/BitSet", "checkInvariants", "()V"⟩ ⟨"java/util/BitSet", "checkInvariants", "()V"⟩)).before a0 Z = true := wAt hw (i := 74) rfl
theorem Wd73 {Z a0} (hw : HW a0 Z) : ((Cond.privateMethod ⟨"java/util/BitSet", "checkInvariants", "()V"⟩)).before a0 Z = true := wAt hw (i := 73) rfl
theorem d8_57 : decode kQ10 57 = .ok (.return_, 1) := by decide +kernel
theorem ef8 (m : MethodId) (x0 : Addr) : entryFrame m #[(.ref x0)] 3 = mkF m 0 #[.val (.ref x0), .unset, .unset] [] := by first | (simp [entryFrame, mkF, argsToLocals, Value.category]; done) | rfl
theorem d12_0 : decode kQ11 0 = .ok (.iconst 0, 1) := by decide +kernel
theorem d12_1 : decode kQ11 1 = .ok (.istore_n 1, 1) := by decide +kernel
theorem d12_2 : decode kQ11 2 = .ok (.iconst 0, 1) := by decide +kernel
theorem d12_3 : decode kQ11 3 = .ok (.istore_n 2, 1) := by decide +kernel
theorem d12_4 : decode kQ11 4 = .ok (.iload_n 2, 1) := by decide +kernel
theorem d12_5 : decode kQ11 5 = .ok (.aload_n 0, 1) := by decide +kernel
theorem d12_6 : decode kQ11 6 = .ok (.getfield 7, 3) := by decide +kernel
theorem d12_9 : decode kQ11 9 = .ok (.if_icmp .ge 21, 3) := by decide +kernel
theorem d12_12 : decode kQ11 12 = .ok (.iload_n 1, 1) := by decide +kernel
theorem d12_13 : decode kQ11 13 = .ok (.aload_n 0, 1) := by decide +kernel
theorem d12_14 : decode kQ11 14 = .ok (.getfield 11, 3) := by decide +kernel
theorem d12_17 : decode kQ11 17 = .ok (.iload_n 2, 1) := by decide +kernel
theorem d12_18 : decode kQ11 18 = .ok (.laload, 1) := by decide +kernel
theorem Wd82 {Z a0} (hw : HW a0 Z) : ((Cond.methodLink "java/util/BitSet" 196 ⟨"java/lang/Long", "bitCount", "(J)I"⟩)).before a0 Z = true := wAt hw (i := 82) rfl
theorem Wd85 {Z a0} (hw : HW a0 Z) : ((Cond.code ⟨"java/lang/Long", "bitCount", "(J)I"⟩ kQ4 2 (Option.some FieldType.int))).before a0 Z = true := wAt hw (i := 85) rfl
theorem Wd84 {Z a0} (hw : HW a0 Z) : ((Cond.initialized "java/lang/Long")).before a0 Z = true := wAt hw (i := 84) rfl
theorem pd3 : parseMethodDescriptor "(J)I" = some ⟨[.long], some .int⟩ := by decide +kernel
theorem d12_19 : decode kQ11 19 = .ok (.invokestatic 196, 3) := by decide +kernel
theorem Wd83 {Z a0} (hw : HW a0 Z) : ((Cond.static ⟨"java/lang/Long", "bitCount", "(J)I"⟩)).before a0 Z = true := wAt hw (i := 83) rfl
theorem d12_22 : decode kQ11 22 = .ok (.iadd, 1) := by decide +kernel
theorem d12_23 : decode kQ11 23 = .ok (.istore_n 1, 1) := by decide +kernel
theorem d12_24 : decode kQ11 24 = .ok (.iinc 2 1, 3) := by decide +kernel
theorem d12_27 : decode kQ11 27 = .ok (.goto (-23), 3) := by decide +kernel
theorem d12_30 : decode kQ11 30 = .ok (.iload_n 1, 1) := by decide +kernel
theorem d12_31 : decode kQ11 31 = .ok (.ireturn, 1) := by decide +kernel
theorem d22_0 : decode kQ12 0 = .ok (.iload_n 1, 1) := by decide +kernel
theorem d22_1 : decode kQ12 1 = .ok (.ifCond .ge 30, 3) := by decide +kernel
theorem d22_31 : decode kQ12 31 = .ok (.aload_n 0, 1) := by decide +kernel
theorem d22_32 : decode kQ12 32 = .ok (.invokevirtual 56, 3) := by decide +kernel
theorem d22_35 : decode kQ12 35 = .ok (.iload_n 1, 1) := by decide +kernel
theorem d22_36 : decode kQ12 36 = .ok (.invokestatic 52, 3) := by decide +kernel
theorem d22_39 : decode kQ12 39 = .ok (.istore_n 2, 1) := by decide +kernel
theorem d22_40 : decode kQ12 40 = .ok (.iload_n 2, 1) := by decide +kernel
theorem d22_41 : decode kQ12 41 = .ok (.aload_n 0, 1) := by decide +kernel
theorem d22_42 : decode kQ12 42 = .ok (.getfield 7, 3) := by decide +kernel
theorem d22_45 : decode kQ12 45 = .ok (.if_icmp .ge 22, 3) := by decide +kernel
theorem d22_67 : decode kQ12 67 = .ok (.iconst 0, 1) := by decide +kernel
theorem d22_68 : decode kQ12 68 = .ok (.ireturn, 1) := by decide +kernel
theorem d22_48 : decode kQ12 48 = .ok (.aload_n 0, 1) := by decide +kernel
theorem d22_49 : decode kQ12 49 = .ok (.getfield 11, 3) := by decide +kernel
theorem d22_52 : decode kQ12 52 = .ok (.iload_n 2, 1) := by decide +kernel
theorem d22_53 : decode kQ12 53 = .ok (.laload, 1) := by decide +kernel
theorem d22_54 : decode kQ12 54 = .ok (.lconst 1, 1) := by decide +kernel
theorem d22_55 : decode kQ12 55 = .ok (.iload_n 1, 1) := by decide +kernel
theorem d22_56 : decode kQ12 56 = .ok (.lshl, 1) := by decide +kernel
theorem d22_57 : decode kQ12 57 = .ok (.land, 1) := by decide +kernel
theorem d22_58 : decode kQ12 58 = .ok (.lconst 0, 1) := by decide +kernel
theorem d22_59 : decode kQ12 59 = .ok (.lcmp, 1) := by decide +kernel
theorem d22_60 : decode kQ12 60 = .ok (.ifCond .eq 7, 3) := by decide +kernel
theorem d22_63 : decode kQ12 63 = .ok (.iconst 1, 1) := by decide +kernel
theorem d22_64 : decode kQ12 64 = .ok (.goto 4, 3) := by decide +kernel
theorem ef9 (m : MethodId) (x0 : Addr) : entryFrame m #[(.ref x0)] 2 = mkF m 0 #[.val (.ref x0), .unset] [] := by first | (simp [entryFrame, mkF, argsToLocals, Value.category]; done) | rfl
theorem d24_0 : decode kQ13 0 = .ok (.aload_n 0, 1) := by decide +kernel
theorem d24_1 : decode kQ13 1 = .ok (.getfield 7, 3) := by decide +kernel
theorem d24_4 : decode kQ13 4 = .ok (.iconst 1, 1) := by decide +kernel
theorem d24_5 : decode kQ13 5 = .ok (.isub, 1) := by decide +kernel
theorem d24_6 : decode kQ13 6 = .ok (.istore_n 1, 1) := by decide +kernel
theorem d24_7 : decode kQ13 7 = .ok (.iload_n 1, 1) := by decide +kernel
theorem d24_8 : decode kQ13 8 = .ok (.ifCond .lt 23, 3) := by decide +kernel
theorem d24_11 : decode kQ13 11 = .ok (.aload_n 0, 1) := by decide +kernel
theorem d24_12 : decode kQ13 12 = .ok (.getfield 11, 3) := by decide +kernel
theorem d24_15 : decode kQ13 15 = .ok (.iload_n 1, 1) := by decide +kernel
theorem d24_16 : decode kQ13 16 = .ok (.laload, 1) := by decide +kernel
theorem d24_17 : decode kQ13 17 = .ok (.lconst 0, 1) := by decide +kernel
theorem d24_18 : decode kQ13 18 = .ok (.lcmp, 1) := by decide +kernel
theorem d24_19 : decode kQ13 19 = .ok (.ifCond .eq 6, 3) := by decide +kernel
theorem d24_25 : decode kQ13 25 = .ok (.iinc 1 (-1), 3) := by decide +kernel
theorem d24_28 : decode kQ13 28 = .ok (.goto (-21), 3) := by decide +kernel
theorem d24_31 : decode kQ13 31 = .ok (.aload_n 0, 1) := by decide +kernel
theorem d24_32 : decode kQ13 32 = .ok (.iload_n 1, 1) := by decide +kernel
theorem d24_33 : decode kQ13 33 = .ok (.iconst 1, 1) := by decide +kernel
theorem d24_34 : decode kQ13 34 = .ok (.iadd, 1) := by decide +kernel
theorem d24_35 : decode kQ13 35 = .ok (.putfield 7, 3) := by decide +kernel
theorem d24_38 : decode kQ13 38 = .ok (.return_, 1) := by decide +kernel
theorem d24_22 : decode kQ13 22 = .ok (.goto 9, 3) := by decide +kernel
theorem d23_0 : decode kQ14 0 = .ok (.iload_n 1, 1) := by decide +kernel
theorem d23_1 : decode kQ14 1 = .ok (.ifCond .ge 30, 3) := by decide +kernel
theorem d23_31 : decode kQ14 31 = .ok (.iload_n 1, 1) := by decide +kernel
theorem d23_32 : decode kQ14 32 = .ok (.invokestatic 52, 3) := by decide +kernel
theorem d23_35 : decode kQ14 35 = .ok (.istore_n 2, 1) := by decide +kernel
theorem d23_36 : decode kQ14 36 = .ok (.iload_n 2, 1) := by decide +kernel
theorem d23_37 : decode kQ14 37 = .ok (.aload_n 0, 1) := by decide +kernel
theorem d23_38 : decode kQ14 38 = .ok (.getfield 7, 3) := by decide +kernel
theorem d23_41 : decode kQ14 41 = .ok (.if_icmp .lt 4, 3) := by decide +kernel
theorem d23_45 : decode kQ14 45 = .ok (.aload_n 0, 1) := by decide +kernel
theorem d23_46 : decode kQ14 46 = .ok (.getfield 11, 3) := by decide +kernel
theorem d23_49 : decode kQ14 49 = .ok (.iload_n 2, 1) := by decide +kernel
theorem d23_50 : decode kQ14 50 = .ok (.dup2, 1) := by decide +kernel
theorem d23_51 : decode kQ14 51 = .ok (.laload, 1) := by decide +kernel
theorem d23_52 : decode kQ14 52 = .ok (.lconst 1, 1) := by decide +kernel
theorem d23_53 : decode kQ14 53 = .ok (.iload_n 1, 1) := by decide +kernel
theorem d23_54 : decode kQ14 54 = .ok (.lshl, 1) := by decide +kernel
theorem d23_55 : decode kQ14 55 = .ok (.ldc2_w 165, 3) := by decide +kernel
theorem Wd138 {Z a0} (hw : HW a0 Z) : ((Cond.constantLong "java/util/BitSet" 165 (-1 : Int64))).before a0 Z = true := wAt hw (i := 138) rfl
theorem d23_58 : decode kQ14 58 = .ok (.lxor, 1) := by decide +kernel
theorem d23_59 : decode kQ14 59 = .ok (.land, 1) := by decide +kernel
theorem d23_60 : decode kQ14 60 = .ok (.lastore, 1) := by decide +kernel
theorem d23_61 : decode kQ14 61 = .ok (.aload_n 0, 1) := by decide +kernel
theorem Wd139 {Z a0} (hw : HW a0 Z) : ((Cond.methodLink "java/util/BitSet" 158 ⟨"java/util/BitSet", "recalculateWordsInUse", "()V"⟩)).before a0 Z = true := wAt hw (i := 139) rfl
theorem Wd143 {Z a0} (hw : HW a0 Z) : ((Cond.code ⟨"java/util/BitSet", "recalculateWordsInUse", "()V"⟩ kQ13 2 (Option.none : Option Jvm.ClassFile.FieldType))).before a0 Z = true := wAt hw (i := 143) rfl
theorem d23_62 : decode kQ14 62 = .ok (.invokevirtual 158, 3) := by decide +kernel
theorem Wd140 {Z a0} (hw : HW a0 Z) : ((Cond.instanceMethod ⟨"java/util/BitSet", "recalculateWordsInUse", "()V"⟩)).before a0 Z = true := wAt hw (i := 140) rfl
theorem Wd142 {Z a0} (hw : HW a0 Z) : ((Cond.selects "java/util/BitSet" ⟨"java/util/BitSet", "recalculateWordsInUse", "()V"⟩ ⟨"java/util/BitSet", "recalculateWordsInUse", "()V"⟩)).before a0 Z = true := wAt hw (i := 142) rfl
theorem Wd141 {Z a0} (hw : HW a0 Z) : ((Cond.privateMethod ⟨"java/util/BitSet", "recalculateWordsInUse", "()V"⟩)).before a0 Z = true := wAt hw (i := 141) rfl
theorem d23_65 : decode kQ14 65 = .ok (.aload_n 0, 1) := by decide +kernel
theorem d23_66 : decode kQ14 66 = .ok (.invokevirtual 56, 3) := by decide +kernel
theorem d23_69 : decode kQ14 69 = .ok (.return_, 1) := by decide +kernel
theorem ef10 (m : MethodId) (x0 : Addr) : entryFrame m #[(.ref x0)] 12 = mkF m 0 #[.val (.ref x0), .unset, .unset, .unset, .unset, .unset, .unset, .unset, .unset, .unset, .unset, .unset] [] := by first | (simp [entryFrame, mkF, argsToLocals, Value.category]; done) | rfl
theorem d14_0 : decode kQ15 0 = .ok (.aload_n 0, 1) := by decide +kernel
theorem d14_1 : decode kQ15 1 = .ok (.getfield 27, 3) := by decide +kernel
theorem Wd41 {Z a0} (hw : HW a0 Z) : ((Cond.fieldLink zZ0 27 zZ0 "coordinates" "[J")).before a0 Z = true := wAt hw (i := 41) rfl
theorem d14_4 : decode kQ15 4 = .ok (.astore_n 1, 1) := by decide +kernel
theorem d14_5 : decode kQ15 5 = .ok (.aload_n 0, 1) := by decide +kernel
theorem d14_6 : decode kQ15 6 = .ok (.getfield 23, 3) := by decide +kernel
theorem Wd39 {Z a0} (hw : HW a0 Z) : ((Cond.fieldLink zZ0 23 zZ0 "docs" "[I")).before a0 Z = true := wAt hw (i := 39) rfl
theorem d14_9 : decode kQ15 9 = .ok (.astore_n 2, 1) := by decide +kernel
theorem d14_10 : decode kQ15 10 = .ok (.aload_n 0, 1) := by decide +kernel
theorem d14_11 : decode kQ15 11 = .ok (.getfield 23, 3) := by decide +kernel
theorem d14_14 : decode kQ15 14 = .ok (.arraylength, 1) := by decide +kernel
theorem d14_15 : decode kQ15 15 = .ok (.newarray .long, 2) := by decide +kernel
theorem d14_17 : decode kQ15 17 = .ok (.astore_n 3, 1) := by decide +kernel
theorem d14_18 : decode kQ15 18 = .ok (.aload_n 0, 1) := by decide +kernel
theorem d14_19 : decode kQ15 19 = .ok (.getfield 23, 3) := by decide +kernel
theorem d14_22 : decode kQ15 22 = .ok (.arraylength, 1) := by decide +kernel
theorem d14_23 : decode kQ15 23 = .ok (.newarray .int, 2) := by decide +kernel
theorem Wd0 {Z a0} (hw : HW a0 Z) : ((Cond.arrayClass FieldType.int)).before a0 Z = true := wAt hw (i := 0) rfl
theorem d14_25 : decode kQ15 25 = .ok (.astore 4, 2) := by decide +kernel
theorem d14_27 : decode kQ15 27 = .ok (.iconst 0, 1) := by decide +kernel
theorem d14_28 : decode kQ15 28 = .ok (.istore 5, 2) := by decide +kernel
theorem d14_30 : decode kQ15 30 = .ok (.iload 5, 2) := by decide +kernel
theorem d14_32 : decode kQ15 32 = .ok (.bipush 64, 2) := by decide +kernel
theorem d14_34 : decode kQ15 34 = .ok (.if_icmp .ge 200, 3) := by decide +kernel
theorem d14_234 : decode kQ15 234 = .ok (.aload_n 2, 1) := by decide +kernel
theorem d14_235 : decode kQ15 235 = .ok (.aload_n 0, 1) := by decide +kernel
theorem d14_236 : decode kQ15 236 = .ok (.getfield 23, 3) := by decide +kernel
theorem d14_239 : decode kQ15 239 = .ok (.if_acmp .eq 33, 3) := by decide +kernel
theorem d14_272 : decode kQ15 272 = .ok (.return_, 1) := by decide +kernel
theorem d14_242 : decode kQ15 242 = .ok (.aload_n 1, 1) := by decide +kernel
theorem d14_243 : decode kQ15 243 = .ok (.iconst 0, 1) := by decide +kernel
theorem d14_244 : decode kQ15 244 = .ok (.aload_n 0, 1) := by decide +kernel
theorem d14_245 : decode kQ15 245 = .ok (.getfield 27, 3) := by decide +kernel
theorem d14_248 : decode kQ15 248 = .ok (.iconst 0, 1) := by decide +kernel
theorem d14_249 : decode kQ15 249 = .ok (.aload_n 0, 1) := by decide +kernel
theorem d14_250 : decode kQ15 250 = .ok (.getfield 23, 3) := by decide +kernel
theorem d14_253 : decode kQ15 253 = .ok (.arraylength, 1) := by decide +kernel
theorem Wd144 {Z a0} (hw : HW a0 Z) : ((Cond.methodLink zZ0 100 ⟨"java/lang/System", "arraycopy", zZ2⟩)).before a0 Z = true := wAt hw (i := 144) rfl
theorem Wd147 {Z a0} (hw : HW a0 Z) : ((Cond.native ⟨"java/lang/System", "arraycopy", zZ2⟩)).before a0 Z = true := wAt hw (i := 147) rfl
theorem Wd145 {Z a0} (hw : HW a0 Z) : ((Cond.static ⟨"java/lang/System", "arraycopy", zZ2⟩)).before a0 Z = true := wAt hw (i := 145) rfl
theorem Wd146 {Z a0} (hw : HW a0 Z) : ((Cond.initialized "java/lang/System")).before a0 Z = true := wAt hw (i := 146) rfl
theorem d14_254 : decode kQ15 254 = .ok (.invokestatic 100, 3) := by decide +kernel
theorem d14_257 : decode kQ15 257 = .ok (.aload_n 2, 1) := by decide +kernel
theorem d14_258 : decode kQ15 258 = .ok (.iconst 0, 1) := by decide +kernel
theorem d14_259 : decode kQ15 259 = .ok (.aload_n 0, 1) := by decide +kernel
theorem d14_260 : decode kQ15 260 = .ok (.getfield 23, 3) := by decide +kernel
theorem d14_263 : decode kQ15 263 = .ok (.iconst 0, 1) := by decide +kernel
theorem d14_264 : decode kQ15 264 = .ok (.aload_n 0, 1) := by decide +kernel
theorem d14_265 : decode kQ15 265 = .ok (.getfield 23, 3) := by decide +kernel
theorem d14_268 : decode kQ15 268 = .ok (.arraylength, 1) := by decide +kernel
theorem d14_269 : decode kQ15 269 = .ok (.invokestatic 100, 3) := by decide +kernel
theorem d14_77 : decode kQ15 77 = .ok (.aload 6, 2) := by decide +kernel
theorem d14_79 : decode kQ15 79 = .ok (.lload 10, 2) := by decide +kernel
theorem d14_81 : decode kQ15 81 = .ok (.iload 5, 2) := by decide +kernel
theorem Wd97 {Z a0} (hw : HW a0 Z) : ((Cond.methodLink zZ0 147 ⟨zZ0, "sortingByte", "(JI)I"⟩)).before a0 Z = true := wAt hw (i := 97) rfl
theorem Wd99 {Z a0} (hw : HW a0 Z) : ((Cond.code ⟨zZ0, "sortingByte", "(JI)I"⟩ kQ3 3 (Option.some FieldType.int))).before a0 Z = true := wAt hw (i := 99) rfl
theorem Wd4 {Z a0} (hw : HW a0 Z) : ((Cond.initialized zZ0)).before a0 Z = true := wAt hw (i := 4) rfl
theorem pd4 : parseMethodDescriptor "(JI)I" = some ⟨[.long, .int], some .int⟩ := by decide +kernel
theorem d14_83 : decode kQ15 83 = .ok (.invokestatic 147, 3) := by decide +kernel
theorem Wd98 {Z a0} (hw : HW a0 Z) : ((Cond.static ⟨zZ0, "sortingByte", "(JI)I"⟩)).before a0 Z = true := wAt hw (i := 98) rfl
theorem d14_86 : decode kQ15 86 = .ok (.iconst 1, 1) := by decide +kernel
theorem d14_87 : decode kQ15 87 = .ok (.iadd, 1) := by decide +kernel
theorem d14_88 : decode kQ15 88 = .ok (.dup2, 1) := by decide +kernel
theorem d14_89 : decode kQ15 89 = .ok (.iaload, 1) := by decide +kernel
theorem d14_90 : decode kQ15 90 = .ok (.iconst 1, 1) := by decide +kernel
theorem d14_91 : decode kQ15 91 = .ok (.iadd, 1) := by decide +kernel
theorem d14_92 : decode kQ15 92 = .ok (.iastore, 1) := by decide +kernel
theorem d14_93 : decode kQ15 93 = .ok (.iinc 9 1, 3) := by decide +kernel
theorem d14_96 : decode kQ15 96 = .ok (.goto (-33), 3) := by decide +kernel
theorem d14_63 : decode kQ15 63 = .ok (.iload 9, 2) := by decide +kernel
theorem d14_65 : decode kQ15 65 = .ok (.iload 8, 2) := by decide +kernel
theorem d14_67 : decode kQ15 67 = .ok (.if_icmp .ge 32, 3) := by decide +kernel
theorem d14_70 : decode kQ15 70 = .ok (.aload 7, 2) := by decide +kernel
theorem d14_72 : decode kQ15 72 = .ok (.iload 9, 2) := by decide +kernel
theorem d14_74 : decode kQ15 74 = .ok (.laload, 1) := by decide +kernel
theorem d14_75 : decode kQ15 75 = .ok (.lstore 10, 2) := by decide +kernel
theorem d14_99 : decode kQ15 99 = .ok (.aload 6, 2) := by decide +kernel
theorem d14_101 : decode kQ15 101 = .ok (.aload_n 1, 1) := by decide +kernel
theorem d14_102 : decode kQ15 102 = .ok (.iconst 0, 1) := by decide +kernel
theorem d14_103 : decode kQ15 103 = .ok (.laload, 1) := by decide +kernel
theorem d14_104 : decode kQ15 104 = .ok (.iload 5, 2) := by decide +kernel
theorem d14_106 : decode kQ15 106 = .ok (.invokestatic 147, 3) := by decide +kernel
theorem d14_109 : decode kQ15 109 = .ok (.iconst 1, 1) := by decide +kernel
theorem d14_110 : decode kQ15 110 = .ok (.iadd, 1) := by decide +kernel
theorem d14_111 : decode kQ15 111 = .ok (.iaload, 1) := by decide +kernel
theorem d14_112 : decode kQ15 112 = .ok (.aload_n 0, 1) := by decide +kernel
theorem d14_113 : decode kQ15 113 = .ok (.getfield 23, 3) := by decide +kernel
theorem d14_116 : decode kQ15 116 = .ok (.arraylength, 1) := by decide +kernel
theorem d14_117 : decode kQ15 117 = .ok (.if_icmp .ne 6, 3) := by decide +kernel
theorem d14_120 : decode kQ15 120 = .ok (.goto 108, 3) := by decide +kernel
theorem d14_228 : decode kQ15 228 = .ok (.iinc 5 8, 3) := by decide +kernel
theorem d14_231 : decode kQ15 231 = .ok (.goto (-201), 3) := by decide +kernel
theorem d14_123 : decode kQ15 123 = .ok (.iconst 0, 1) := by decide +kernel
theorem d14_124 : decode kQ15 124 = .ok (.istore 7, 2) := by decide +kernel
theorem d14_126 : decode kQ15 126 = .ok (.iload 7, 2) := by decide +kernel
theorem d14_128 : decode kQ15 128 = .ok (.sipush 256, 3) := by decide +kernel
theorem d14_131 : decode kQ15 131 = .ok (.if_icmp .ge 24, 3) := by decide +kernel
theorem d14_155 : decode kQ15 155 = .ok (.iconst 0, 1) := by decide +kernel
theorem d14_156 : decode kQ15 156 = .ok (.istore 7, 2) := by decide +kernel
theorem d14_158 : decode kQ15 158 = .ok (.iload 7, 2) := by decide +kernel
theorem d14_160 : decode kQ15 160 = .ok (.aload_n 0, 1) := by decide +kernel
theorem d14_161 : decode kQ15 161 = .ok (.getfield 23, 3) := by decide +kernel
theorem d14_164 : decode kQ15 164 = .ok (.arraylength, 1) := by decide +kernel
theorem d14_165 : decode kQ15 165 = .ok (.if_icmp .ge 45, 3) := by decide +kernel
theorem d14_168 : decode kQ15 168 = .ok (.aload 6, 2) := by decide +kernel
theorem d14_170 : decode kQ15 170 = .ok (.aload_n 1, 1) := by decide +kernel
theorem d14_171 : decode kQ15 171 = .ok (.iload 7, 2) := by decide +kernel
theorem d14_173 : decode kQ15 173 = .ok (.laload, 1) := by decide +kernel
theorem d14_174 : decode kQ15 174 = .ok (.iload 5, 2) := by decide +kernel
theorem d14_176 : decode kQ15 176 = .ok (.invokestatic 147, 3) := by decide +kernel
theorem d14_179 : decode kQ15 179 = .ok (.dup2, 1) := by decide +kernel
theorem d14_180 : decode kQ15 180 = .ok (.iaload, 1) := by decide +kernel
theorem d14_181 : decode kQ15 181 = .ok (.dup_x2, 1) := by decide +kernel
theorem d14_182 : decode kQ15 182 = .ok (.iconst 1, 1) := by decide +kernel
theorem d14_183 : decode kQ15 183 = .ok (.iadd, 1) := by decide +kernel
theorem d14_184 : decode kQ15 184 = .ok (.iastore, 1) := by decide +kernel
theorem d14_185 : decode kQ15 185 = .ok (.istore 8, 2) := by decide +kernel
theorem d14_187 : decode kQ15 187 = .ok (.aload_n 3, 1) := by decide +kernel
theorem d14_188 : decode kQ15 188 = .ok (.iload 8, 2) := by decide +kernel
theorem d14_190 : decode kQ15 190 = .ok (.aload_n 1, 1) := by decide +kernel
theorem d14_191 : decode kQ15 191 = .ok (.iload 7, 2) := by decide +kernel
theorem d14_193 : decode kQ15 193 = .ok (.laload, 1) := by decide +kernel
theorem d14_194 : decode kQ15 194 = .ok (.lastore, 1) := by decide +kernel
theorem d14_195 : decode kQ15 195 = .ok (.aload 4, 2) := by decide +kernel
theorem d14_197 : decode kQ15 197 = .ok (.iload 8, 2) := by decide +kernel
theorem d14_199 : decode kQ15 199 = .ok (.aload_n 2, 1) := by decide +kernel
theorem d14_200 : decode kQ15 200 = .ok (.iload 7, 2) := by decide +kernel
theorem d14_202 : decode kQ15 202 = .ok (.iaload, 1) := by decide +kernel
theorem d14_203 : decode kQ15 203 = .ok (.iastore, 1) := by decide +kernel
theorem d14_204 : decode kQ15 204 = .ok (.iinc 7 1, 3) := by decide +kernel
theorem d14_207 : decode kQ15 207 = .ok (.goto (-49), 3) := by decide +kernel
theorem d14_210 : decode kQ15 210 = .ok (.aload_n 3, 1) := by decide +kernel
theorem d14_211 : decode kQ15 211 = .ok (.astore 7, 2) := by decide +kernel
theorem d14_213 : decode kQ15 213 = .ok (.aload 4, 2) := by decide +kernel
theorem d14_215 : decode kQ15 215 = .ok (.astore 8, 2) := by decide +kernel
theorem d14_217 : decode kQ15 217 = .ok (.aload_n 1, 1) := by decide +kernel
theorem d14_218 : decode kQ15 218 = .ok (.astore_n 3, 1) := by decide +kernel
theorem d14_219 : decode kQ15 219 = .ok (.aload_n 2, 1) := by decide +kernel
theorem d14_220 : decode kQ15 220 = .ok (.astore 4, 2) := by decide +kernel
theorem d14_222 : decode kQ15 222 = .ok (.aload 7, 2) := by decide +kernel
theorem d14_224 : decode kQ15 224 = .ok (.astore_n 1, 1) := by decide +kernel
theorem d14_225 : decode kQ15 225 = .ok (.aload 8, 2) := by decide +kernel
theorem d14_227 : decode kQ15 227 = .ok (.astore_n 2, 1) := by decide +kernel
theorem d14_134 : decode kQ15 134 = .ok (.aload 6, 2) := by decide +kernel
theorem d14_136 : decode kQ15 136 = .ok (.iload 7, 2) := by decide +kernel
theorem d14_138 : decode kQ15 138 = .ok (.iconst 1, 1) := by decide +kernel
theorem d14_139 : decode kQ15 139 = .ok (.iadd, 1) := by decide +kernel
theorem d14_140 : decode kQ15 140 = .ok (.dup2, 1) := by decide +kernel
theorem d14_141 : decode kQ15 141 = .ok (.iaload, 1) := by decide +kernel
theorem d14_142 : decode kQ15 142 = .ok (.aload 6, 2) := by decide +kernel
theorem d14_144 : decode kQ15 144 = .ok (.iload 7, 2) := by decide +kernel
theorem d14_146 : decode kQ15 146 = .ok (.iaload, 1) := by decide +kernel
theorem d14_147 : decode kQ15 147 = .ok (.iadd, 1) := by decide +kernel
theorem d14_148 : decode kQ15 148 = .ok (.iastore, 1) := by decide +kernel
theorem d14_149 : decode kQ15 149 = .ok (.iinc 7 1, 3) := by decide +kernel
theorem d14_152 : decode kQ15 152 = .ok (.goto (-26), 3) := by decide +kernel
theorem d14_37 : decode kQ15 37 = .ok (.aload_n 0, 1) := by decide +kernel
theorem d14_38 : decode kQ15 38 = .ok (.getfield 23, 3) := by decide +kernel
theorem d14_41 : decode kQ15 41 = .ok (.arraylength, 1) := by decide +kernel
theorem d14_42 : decode kQ15 42 = .ok (.ifCond .le 192, 3) := by decide +kernel
theorem d14_45 : decode kQ15 45 = .ok (.sipush 257, 3) := by decide +kernel
theorem d14_48 : decode kQ15 48 = .ok (.newarray .int, 2) := by decide +kernel
theorem d14_50 : decode kQ15 50 = .ok (.astore 6, 2) := by decide +kernel
theorem d14_52 : decode kQ15 52 = .ok (.aload_n 1, 1) := by decide +kernel
theorem d14_53 : decode kQ15 53 = .ok (.astore 7, 2) := by decide +kernel
theorem d14_55 : decode kQ15 55 = .ok (.aload 7, 2) := by decide +kernel
theorem d14_57 : decode kQ15 57 = .ok (.arraylength, 1) := by decide +kernel
theorem d14_58 : decode kQ15 58 = .ok (.istore 8, 2) := by decide +kernel
theorem d14_60 : decode kQ15 60 = .ok (.iconst 0, 1) := by decide +kernel
theorem d14_61 : decode kQ15 61 = .ok (.istore 9, 2) := by decide +kernel
theorem ef11 (m : MethodId) (x0 : Addr) (x1 : Int32) (x2 : Int32) (x3 : Int32) : entryFrame m #[(.ref x0), (.int x1), (.int x2), (.int x3)] 12 = mkF m 0 #[.val (.ref x0), .val (.int x1), .val (.int x2), .val (.int x3), .unset, .unset, .unset, .unset, .unset, .unset, .unset, .unset] [] := by first | (simp [entryFrame, mkF, argsToLocals, Value.category]; done) | rfl
theorem d17_0 : decode kQ16 0 = .ok (.aload_n 0, 1) := by decide +kernel
theorem d17_1 : decode kQ16 1 = .ok (.getfield 19, 3) := by decide +kernel
theorem Wd37 {Z a0} (hw : HW a0 Z) : ((Cond.fieldLink zZ0 19 zZ0 "dimensions" "I")).before a0 Z = true := wAt hw (i := 37) rfl
theorem d17_4 : decode kQ16 4 = .ok (.iconst 1, 1) := by decide +kernel
theorem d17_5 : decode kQ16 5 = .ok (.if_icmp .ne 36, 3) := by decide +kernel
theorem d17_8 : decode kQ16 8 = .ok (.aload_n 0, 1) := by decide +kernel
theorem d17_9 : decode kQ16 9 = .ok (.getfield 46, 3) := by decide +kernel
theorem Wd52 {Z a0} (hw : HW a0 Z) : ((Cond.fieldLink zZ0 46 zZ0 "bounds" "[J")).before a0 Z = true := wAt hw (i := 52) rfl
theorem d17_12 : decode kQ16 12 = .ok (.iconst 2, 1) := by decide +kernel
theorem d17_13 : decode kQ16 13 = .ok (.iload_n 1, 1) := by decide +kernel
theorem d17_14 : decode kQ16 14 = .ok (.imul, 1) := by decide +kernel
theorem d17_15 : decode kQ16 15 = .ok (.aload_n 0, 1) := by decide +kernel
theorem d17_16 : decode kQ16 16 = .ok (.getfield 27, 3) := by decide +kernel
theorem d17_19 : decode kQ16 19 = .ok (.iload_n 2, 1) := by decide +kernel
theorem d17_20 : decode kQ16 20 = .ok (.laload, 1) := by decide +kernel
theorem d17_21 : decode kQ16 21 = .ok (.lastore, 1) := by decide +kernel
theorem d17_22 : decode kQ16 22 = .ok (.aload_n 0, 1) := by decide +kernel
theorem d17_23 : decode kQ16 23 = .ok (.getfield 46, 3) := by decide +kernel
theorem d17_26 : decode kQ16 26 = .ok (.iconst 2, 1) := by decide +kernel
theorem d17_27 : decode kQ16 27 = .ok (.iload_n 1, 1) := by decide +kernel
theorem d17_28 : decode kQ16 28 = .ok (.imul, 1) := by decide +kernel
theorem d17_29 : decode kQ16 29 = .ok (.iconst 1, 1) := by decide +kernel
theorem d17_30 : decode kQ16 30 = .ok (.iadd, 1) := by decide +kernel
theorem d17_31 : decode kQ16 31 = .ok (.aload_n 0, 1) := by decide +kernel
theorem d17_32 : decode kQ16 32 = .ok (.getfield 27, 3) := by decide +kernel
theorem d17_35 : decode kQ16 35 = .ok (.iload_n 3, 1) := by decide +kernel
theorem d17_36 : decode kQ16 36 = .ok (.iconst 1, 1) := by decide +kernel
theorem d17_37 : decode kQ16 37 = .ok (.isub, 1) := by decide +kernel
theorem d17_38 : decode kQ16 38 = .ok (.laload, 1) := by decide +kernel
theorem d17_39 : decode kQ16 39 = .ok (.lastore, 1) := by decide +kernel
theorem d17_40 : decode kQ16 40 = .ok (.return_, 1) := by decide +kernel
theorem ef12 (m : MethodId) (x0 : Addr) (x1 : Int32) (x2 : Int32) (x3 : Int32) (x4 : Int32) : entryFrame m #[(.ref x0), (.int x1), (.int x2), (.int x3), (.int x4)] 7 = mkF m 0 #[.val (.ref x0), .val (.int x1), .val (.int x2), .val (.int x3), .val (.int x4), .unset, .unset] [] := by first | (simp [entryFrame, mkF, argsToLocals, Value.category]; done) | rfl
theorem d16_0 : decode kQ17 0 = .ok (.aload_n 0, 1) := by decide +kernel
theorem d16_1 : decode kQ17 1 = .ok (.iload_n 1, 1) := by decide +kernel
theorem d16_2 : decode kQ17 2 = .ok (.iload_n 2, 1) := by decide +kernel
theorem d16_3 : decode kQ17 3 = .ok (.iload_n 3, 1) := by decide +kernel
theorem Wd105 {Z a0} (hw : HW a0 Z) : ((Cond.methodLink zZ0 117 ⟨zZ0, "bound", "(III)V"⟩)).before a0 Z = true := wAt hw (i := 105) rfl
theorem Wd108 {Z a0} (hw : HW a0 Z) : ((Cond.code ⟨zZ0, "bound", "(III)V"⟩ kQ16 12 (Option.none : Option Jvm.ClassFile.FieldType))).before a0 Z = true := wAt hw (i := 108) rfl
theorem pd5 : parseMethodDescriptor "(III)V" = some ⟨[.int, .int, .int], none⟩ := by decide +kernel
theorem d16_4 : decode kQ17 4 = .ok (.invokevirtual 117, 3) := by decide +kernel
theorem Wd106 {Z a0} (hw : HW a0 Z) : ((Cond.instanceMethod ⟨zZ0, "bound", "(III)V"⟩)).before a0 Z = true := wAt hw (i := 106) rfl
theorem Wd3 {Z a0} (hw : HW a0 Z) : ((Cond.instantiable zZ0 10)).before a0 Z = true := wAt hw (i := 3) rfl
theorem Wd107 {Z a0} (hw : HW a0 Z) : ((Cond.privateMethod ⟨zZ0, "bound", "(III)V"⟩)).before a0 Z = true := wAt hw (i := 107) rfl
theorem d16_7 : decode kQ17 7 = .ok (.iload 4, 2) := by decide +kernel
theorem d16_9 : decode kQ17 9 = .ok (.aload_n 0, 1) := by decide +kernel
theorem d16_10 : decode kQ17 10 = .ok (.getfield 37, 3) := by decide +kernel
theorem Wd46 {Z a0} (hw : HW a0 Z) : ((Cond.fieldLink zZ0 37 zZ0 "leafLevel" "I")).before a0 Z = true := wAt hw (i := 46) rfl
theorem d16_13 : decode kQ17 13 = .ok (.if_icmp .ne 47, 3) := by decide +kernel
theorem d16_16 : decode kQ17 16 = .ok (.ldc 123, 2) := by decide +kernel
theorem Wd109 {Z a0} (hw : HW a0 Z) : ((Cond.constant zZ0 123 (2147483647 : Int32))).before a0 Z = true := wAt hw (i := 109) rfl
theorem d16_18 : decode kQ17 18 = .ok (.istore 5, 2) := by decide +kernel
theorem d16_20 : decode kQ17 20 = .ok (.iload_n 2, 1) := by decide +kernel
theorem d16_21 : decode kQ17 21 = .ok (.istore 6, 2) := by decide +kernel
theorem d16_23 : decode kQ17 23 = .ok (.iload 6, 2) := by decide +kernel
theorem d16_25 : decode kQ17 25 = .ok (.iload_n 3, 1) := by decide +kernel
theorem d16_26 : decode kQ17 26 = .ok (.if_icmp .ge 23, 3) := by decide +kernel
theorem d16_29 : decode kQ17 29 = .ok (.iload 5, 2) := by decide +kernel
theorem d16_31 : decode kQ17 31 = .ok (.aload_n 0, 1) := by decide +kernel
theorem d16_32 : decode kQ17 32 = .ok (.getfield 23, 3) := by decide +kernel
theorem d16_35 : decode kQ17 35 = .ok (.iload 6, 2) := by decide +kernel
theorem d16_37 : decode kQ17 37 = .ok (.iaload, 1) := by decide +kernel
theorem Wd110 {Z a0} (hw : HW a0 Z) : ((Cond.methodLink zZ0 124 ⟨"java/lang/Math", "min", "(II)I"⟩)).before a0 Z = true := wAt hw (i := 110) rfl
theorem Wd112 {Z a0} (hw : HW a0 Z) : ((Cond.code ⟨"java/lang/Math", "min", "(II)I"⟩ kQ2 2 (Option.some FieldType.int))).before a0 Z = true := wAt hw (i := 112) rfl
theorem Wd50 {Z a0} (hw : HW a0 Z) : ((Cond.initialized "java/lang/Math")).before a0 Z = true := wAt hw (i := 50) rfl
theorem pd6 : parseMethodDescriptor "(II)I" = some ⟨[.int, .int], some .int⟩ := by decide +kernel
theorem d16_38 : decode kQ17 38 = .ok (.invokestatic 124, 3) := by decide +kernel
theorem Wd111 {Z a0} (hw : HW a0 Z) : ((Cond.static ⟨"java/lang/Math", "min", "(II)I"⟩)).before a0 Z = true := wAt hw (i := 111) rfl
theorem d16_41 : decode kQ17 41 = .ok (.istore 5, 2) := by decide +kernel
theorem d16_43 : decode kQ17 43 = .ok (.iinc 6 1, 3) := by decide +kernel
theorem d16_46 : decode kQ17 46 = .ok (.goto (-23), 3) := by decide +kernel
theorem d16_49 : decode kQ17 49 = .ok (.aload_n 0, 1) := by decide +kernel
theorem d16_50 : decode kQ17 50 = .ok (.getfield 49, 3) := by decide +kernel
theorem Wd54 {Z a0} (hw : HW a0 Z) : ((Cond.fieldLink zZ0 49 zZ0 "leastDocs" "[I")).before a0 Z = true := wAt hw (i := 54) rfl
theorem d16_53 : decode kQ17 53 = .ok (.iload_n 1, 1) := by decide +kernel
theorem d16_54 : decode kQ17 54 = .ok (.iload 5, 2) := by decide +kernel
theorem d16_56 : decode kQ17 56 = .ok (.iastore, 1) := by decide +kernel
theorem d16_57 : decode kQ17 57 = .ok (.iload 5, 2) := by decide +kernel
theorem d16_59 : decode kQ17 59 = .ok (.ireturn, 1) := by decide +kernel
theorem ef13 (m : MethodId) (x0 : Addr) (x1 : Int32) (x2 : Addr) (x3 : Addr) (x4 : Int32) (x5 : Int32) : entryFrame m #[(.ref x0), (.int x1), (.ref x2), (.ref x3), (.int x4), (.int x5)] 12 = mkF m 0 #[.val (.ref x0), .val (.int x1), .val (.ref x2), .val (.ref x3), .val (.int x4), .val (.int x5), .unset, .unset, .unset, .unset, .unset, .unset] [] := by first | (simp [entryFrame, mkF, argsToLocals, Value.category]; done) | rfl
theorem d2_0 : decode kQ18 0 = .ok (.aload_n 0, 1) := by decide +kernel
theorem Wd11 {Z a0} (hw : HW a0 Z) : ((Cond.methodLink zZ0 7 ⟨"java/lang/Object", "<init>", "()V"⟩)).before a0 Z = true := wAt hw (i := 11) rfl
theorem d2_1 : decode kQ18 1 = .ok (.invokespecial 7, 3) := by decide +kernel
theorem d2_4 : decode kQ18 4 = .ok (.aload_n 0, 1) := by decide +kernel
theorem d2_5 : decode kQ18 5 = .ok (.new 12, 3) := by decide +kernel
theorem Wd14 {Z a0} (hw : HW a0 Z) : ((Cond.classLink zZ0 12 "java/util/BitSet")).before a0 Z = true := wAt hw (i := 14) rfl
theorem d2_8 : decode kQ18 8 = .ok (.dup, 1) := by decide +kernel
theorem Wd17 {Z a0} (hw : HW a0 Z) : ((Cond.methodLink zZ0 14 ⟨"java/util/BitSet", "<init>", "()V"⟩)).before a0 Z = true := wAt hw (i := 17) rfl
theorem Wd19 {Z a0} (hw : HW a0 Z) : ((Cond.code ⟨"java/util/BitSet", "<init>", "()V"⟩ kQ6 1 (Option.none : Option Jvm.ClassFile.FieldType))).before a0 Z = true := wAt hw (i := 19) rfl
theorem d2_9 : decode kQ18 9 = .ok (.invokespecial 14, 3) := by decide +kernel
theorem Wd18 {Z a0} (hw : HW a0 Z) : ((Cond.instanceMethod ⟨"java/util/BitSet", "<init>", "()V"⟩)).before a0 Z = true := wAt hw (i := 18) rfl
theorem d2_12 : decode kQ18 12 = .ok (.putfield 15, 3) := by decide +kernel
theorem Wd35 {Z a0} (hw : HW a0 Z) : ((Cond.fieldLink zZ0 15 zZ0 "current" "Ljava/util/BitSet;")).before a0 Z = true := wAt hw (i := 35) rfl
theorem Wd36 {Z a0} (hw : HW a0 Z) : ((Cond.laysFinal zZ0 zZ0 "current" "Ljava/util/BitSet;")).before a0 Z = true := wAt hw (i := 36) rfl
theorem d2_15 : decode kQ18 15 = .ok (.aload_n 0, 1) := by decide +kernel
theorem d2_16 : decode kQ18 16 = .ok (.iload_n 1, 1) := by decide +kernel
theorem d2_17 : decode kQ18 17 = .ok (.putfield 19, 3) := by decide +kernel
theorem Wd38 {Z a0} (hw : HW a0 Z) : ((Cond.laysFinal zZ0 zZ0 "dimensions" "I")).before a0 Z = true := wAt hw (i := 38) rfl
theorem d2_20 : decode kQ18 20 = .ok (.aload_n 0, 1) := by decide +kernel
theorem d2_21 : decode kQ18 21 = .ok (.aload_n 2, 1) := by decide +kernel
theorem d2_22 : decode kQ18 22 = .ok (.putfield 23, 3) := by decide +kernel
theorem Wd40 {Z a0} (hw : HW a0 Z) : ((Cond.laysFinal zZ0 zZ0 "docs" "[I")).before a0 Z = true := wAt hw (i := 40) rfl
theorem d2_25 : decode kQ18 25 = .ok (.aload_n 0, 1) := by decide +kernel
theorem d2_26 : decode kQ18 26 = .ok (.aload_n 3, 1) := by decide +kernel
theorem d2_27 : decode kQ18 27 = .ok (.putfield 27, 3) := by decide +kernel
theorem Wd42 {Z a0} (hw : HW a0 Z) : ((Cond.laysFinal zZ0 zZ0 "coordinates" "[J")).before a0 Z = true := wAt hw (i := 42) rfl
theorem d2_30 : decode kQ18 30 = .ok (.aload_n 0, 1) := by decide +kernel
theorem d2_31 : decode kQ18 31 = .ok (.iload 4, 2) := by decide +kernel
theorem d2_33 : decode kQ18 33 = .ok (.putfield 31, 3) := by decide +kernel
theorem Wd43 {Z a0} (hw : HW a0 Z) : ((Cond.fieldLink zZ0 31 zZ0 "repeatsDocs" "Z")).before a0 Z = true := wAt hw (i := 43) rfl
theorem Wd44 {Z a0} (hw : HW a0 Z) : ((Cond.laysFinal zZ0 zZ0 "repeatsDocs" "Z")).before a0 Z = true := wAt hw (i := 44) rfl
theorem d2_36 : decode kQ18 36 = .ok (.iconst 0, 1) := by decide +kernel
theorem d2_37 : decode kQ18 37 = .ok (.istore 6, 2) := by decide +kernel
theorem d2_39 : decode kQ18 39 = .ok (.aload_n 2, 1) := by decide +kernel
theorem d2_40 : decode kQ18 40 = .ok (.arraylength, 1) := by decide +kernel
theorem d2_41 : decode kQ18 41 = .ok (.i2l, 1) := by decide +kernel
theorem d2_42 : decode kQ18 42 = .ok (.ldc2_w 35, 3) := by decide +kernel
theorem Wd45 {Z a0} (hw : HW a0 Z) : ((Cond.constantLong zZ0 35 (8 : Int64))).before a0 Z = true := wAt hw (i := 45) rfl
theorem d2_45 : decode kQ18 45 = .ok (.iload 6, 2) := by decide +kernel
theorem d2_47 : decode kQ18 47 = .ok (.lshl, 1) := by decide +kernel
theorem d2_48 : decode kQ18 48 = .ok (.lcmp, 1) := by decide +kernel
theorem d2_49 : decode kQ18 49 = .ok (.ifCond .le 9, 3) := by decide +kernel
theorem d2_58 : decode kQ18 58 = .ok (.aload_n 0, 1) := by decide +kernel
theorem d2_59 : decode kQ18 59 = .ok (.iload 6, 2) := by decide +kernel
theorem d2_61 : decode kQ18 61 = .ok (.putfield 37, 3) := by decide +kernel
theorem Wd47 {Z a0} (hw : HW a0 Z) : ((Cond.laysFinal zZ0 zZ0 "leafLevel" "I")).before a0 Z = true := wAt hw (i := 47) rfl
theorem d2_64 : decode kQ18 64 = .ok (.iconst 2, 1) := by decide +kernel
theorem d2_65 : decode kQ18 65 = .ok (.iload 6, 2) := by decide +kernel
theorem d2_67 : decode kQ18 67 = .ok (.ishl, 1) := by decide +kernel
theorem d2_68 : decode kQ18 68 = .ok (.istore 7, 2) := by decide +kernel
theorem d2_70 : decode kQ18 70 = .ok (.aload_n 0, 1) := by decide +kernel
theorem d2_71 : decode kQ18 71 = .ok (.iconst 2, 1) := by decide +kernel
theorem d2_72 : decode kQ18 72 = .ok (.iload_n 1, 1) := by decide +kernel
theorem d2_73 : decode kQ18 73 = .ok (.imul, 1) := by decide +kernel
theorem d2_74 : decode kQ18 74 = .ok (.iload 7, 2) := by decide +kernel
theorem Wd48 {Z a0} (hw : HW a0 Z) : ((Cond.methodLink zZ0 40 ⟨"java/lang/Math", "multiplyExact", "(II)I"⟩)).before a0 Z = true := wAt hw (i := 48) rfl
theorem Wd51 {Z a0} (hw : HW a0 Z) : ((Cond.code ⟨"java/lang/Math", "multiplyExact", "(II)I"⟩ kQ1 4 (Option.some FieldType.int))).before a0 Z = true := wAt hw (i := 51) rfl
theorem d2_76 : decode kQ18 76 = .ok (.invokestatic 40, 3) := by decide +kernel
theorem Wd49 {Z a0} (hw : HW a0 Z) : ((Cond.static ⟨"java/lang/Math", "multiplyExact", "(II)I"⟩)).before a0 Z = true := wAt hw (i := 49) rfl
theorem d2_79 : decode kQ18 79 = .ok (.newarray .long, 2) := by decide +kernel
theorem d2_81 : decode kQ18 81 = .ok (.putfield 46, 3) := by decide +kernel
theorem Wd53 {Z a0} (hw : HW a0 Z) : ((Cond.laysFinal zZ0 zZ0 "bounds" "[J")).before a0 Z = true := wAt hw (i := 53) rfl
theorem d2_84 : decode kQ18 84 = .ok (.aload_n 0, 1) := by decide +kernel
theorem d2_85 : decode kQ18 85 = .ok (.iload 7, 2) := by decide +kernel
theorem d2_87 : decode kQ18 87 = .ok (.newarray .int, 2) := by decide +kernel
theorem d2_89 : decode kQ18 89 = .ok (.putfield 49, 3) := by decide +kernel
theorem Wd55 {Z a0} (hw : HW a0 Z) : ((Cond.laysFinal zZ0 zZ0 "leastDocs" "[I")).before a0 Z = true := wAt hw (i := 55) rfl
theorem d2_92 : decode kQ18 92 = .ok (.aload_n 2, 1) := by decide +kernel
theorem d2_93 : decode kQ18 93 = .ok (.astore 8, 2) := by decide +kernel
theorem d2_95 : decode kQ18 95 = .ok (.aload 8, 2) := by decide +kernel
theorem d2_97 : decode kQ18 97 = .ok (.arraylength, 1) := by decide +kernel
theorem d2_98 : decode kQ18 98 = .ok (.istore 9, 2) := by decide +kernel
theorem d2_100 : decode kQ18 100 = .ok (.iconst 0, 1) := by decide +kernel
theorem d2_101 : decode kQ18 101 = .ok (.istore 10, 2) := by decide +kernel
theorem d2_103 : decode kQ18 103 = .ok (.iload 10, 2) := by decide +kernel
theorem d2_105 : decode kQ18 105 = .ok (.iload 9, 2) := by decide +kernel
theorem d2_107 : decode kQ18 107 = .ok (.if_icmp .ge 25, 3) := by decide +kernel
theorem d2_110 : decode kQ18 110 = .ok (.aload 8, 2) := by decide +kernel
theorem d2_112 : decode kQ18 112 = .ok (.iload 10, 2) := by decide +kernel
theorem d2_114 : decode kQ18 114 = .ok (.iaload, 1) := by decide +kernel
theorem d2_115 : decode kQ18 115 = .ok (.istore 11, 2) := by decide +kernel
theorem d2_117 : decode kQ18 117 = .ok (.aload_n 0, 1) := by decide +kernel
theorem d2_118 : decode kQ18 118 = .ok (.getfield 15, 3) := by decide +kernel
theorem d2_121 : decode kQ18 121 = .ok (.iload 11, 2) := by decide +kernel
theorem Wd56 {Z a0} (hw : HW a0 Z) : ((Cond.methodLink zZ0 52 ⟨"java/util/BitSet", "set", "(I)V"⟩)).before a0 Z = true := wAt hw (i := 56) rfl
theorem Wd59 {Z a0} (hw : HW a0 Z) : ((Cond.selects "java/util/BitSet" ⟨"java/util/BitSet", "set", "(I)V"⟩ ⟨"java/util/BitSet", "set", "(I)V"⟩)).before a0 Z = true := wAt hw (i := 59) rfl
theorem Wd60 {Z a0} (hw : HW a0 Z) : ((Cond.code ⟨"java/util/BitSet", "set", "(I)V"⟩ kQ10 3 (Option.none : Option Jvm.ClassFile.FieldType))).before a0 Z = true := wAt hw (i := 60) rfl
theorem d2_123 : decode kQ18 123 = .ok (.invokevirtual 52, 3) := by decide +kernel
theorem Wd57 {Z a0} (hw : HW a0 Z) : ((Cond.declares ⟨"java/util/BitSet", "set", "(I)V"⟩)).before a0 Z = true := wAt hw (i := 57) rfl
theorem Wd58 {Z a0} (hw : HW a0 Z) : ((Cond.instanceMethod ⟨"java/util/BitSet", "set", "(I)V"⟩)).before a0 Z = true := wAt hw (i := 58) rfl
theorem d2_126 : decode kQ18 126 = .ok (.iinc 10 1, 3) := by decide +kernel
theorem d2_129 : decode kQ18 129 = .ok (.goto (-26), 3) := by decide +kernel
theorem d2_132 : decode kQ18 132 = .ok (.aload_n 0, 1) := by decide +kernel
theorem d2_133 : decode kQ18 133 = .ok (.aload_n 0, 1) := by decide +kernel
theorem d2_134 : decode kQ18 134 = .ok (.getfield 15, 3) := by decide +kernel
theorem Wd77 {Z a0} (hw : HW a0 Z) : ((Cond.methodLink zZ0 56 ⟨"java/util/BitSet", "cardinality", "()I"⟩)).before a0 Z = true := wAt hw (i := 77) rfl
theorem Wd80 {Z a0} (hw : HW a0 Z) : ((Cond.selects "java/util/BitSet" ⟨"java/util/BitSet", "cardinality", "()I"⟩ ⟨"java/util/BitSet", "cardinality", "()I"⟩)).before a0 Z = true := wAt hw (i := 80) rfl
theorem Wd81 {Z a0} (hw : HW a0 Z) : ((Cond.code ⟨"java/util/BitSet", "cardinality", "()I"⟩ kQ11 3 (Option.some FieldType.int))).before a0 Z = true := wAt hw (i := 81) rfl
theorem pd7 : parseMethodDescriptor "()I" = some ⟨[], some .int⟩ := by decide +kernel
theorem d2_137 : decode kQ18 137 = .ok (.invokevirtual 56, 3) := by decide +kernel
theorem Wd78 {Z a0} (hw : HW a0 Z) : ((Cond.declares ⟨"java/util/BitSet", "cardinality", "()I"⟩)).before a0 Z = true := wAt hw (i := 78) rfl
theorem Wd79 {Z a0} (hw : HW a0 Z) : ((Cond.instanceMethod ⟨"java/util/BitSet", "cardinality", "()I"⟩)).before a0 Z = true := wAt hw (i := 79) rfl
theorem d2_140 : decode kQ18 140 = .ok (.putfield 60, 3) := by decide +kernel
theorem Wd89 {Z a0} (hw : HW a0 Z) : ((Cond.fieldLink zZ0 60 zZ0 "documentCount" "I")).before a0 Z = true := wAt hw (i := 89) rfl
theorem Wd90 {Z a0} (hw : HW a0 Z) : ((Cond.laysFinal zZ0 zZ0 "documentCount" "I")).before a0 Z = true := wAt hw (i := 90) rfl
theorem d2_143 : decode kQ18 143 = .ok (.aload_n 0, 1) := by decide +kernel
theorem d2_144 : decode kQ18 144 = .ok (.aload_n 0, 1) := by decide +kernel
theorem d2_145 : decode kQ18 145 = .ok (.getfield 60, 3) := by decide +kernel
theorem d2_148 : decode kQ18 148 = .ok (.putfield 63, 3) := by decide +kernel
theorem Wd91 {Z a0} (hw : HW a0 Z) : ((Cond.fieldLink zZ0 63 zZ0 "currentCount" "I")).before a0 Z = true := wAt hw (i := 91) rfl
theorem Wd92 {Z a0} (hw : HW a0 Z) : ((Cond.lays zZ0 zZ0 "currentCount" "I")).before a0 Z = true := wAt hw (i := 92) rfl
theorem d2_151 : decode kQ18 151 = .ok (.iload_n 1, 1) := by decide +kernel
theorem d2_152 : decode kQ18 152 = .ok (.iconst 1, 1) := by decide +kernel
theorem d2_153 : decode kQ18 153 = .ok (.if_icmp .ne 12, 3) := by decide +kernel
theorem d2_156 : decode kQ18 156 = .ok (.iload 5, 2) := by decide +kernel
theorem d2_158 : decode kQ18 158 = .ok (.ifCond .ne 7, 3) := by decide +kernel
theorem d2_161 : decode kQ18 161 = .ok (.aload_n 0, 1) := by decide +kernel
theorem Wd93 {Z a0} (hw : HW a0 Z) : ((Cond.methodLink zZ0 66 ⟨zZ0, "sortByCoordinate", "()V"⟩)).before a0 Z = true := wAt hw (i := 93) rfl
theorem Wd96 {Z a0} (hw : HW a0 Z) : ((Cond.code ⟨zZ0, "sortByCoordinate", "()V"⟩ kQ15 12 (Option.none : Option Jvm.ClassFile.FieldType))).before a0 Z = true := wAt hw (i := 96) rfl
theorem d2_162 : decode kQ18 162 = .ok (.invokevirtual 66, 3) := by decide +kernel
theorem Wd94 {Z a0} (hw : HW a0 Z) : ((Cond.instanceMethod ⟨zZ0, "sortByCoordinate", "()V"⟩)).before a0 Z = true := wAt hw (i := 94) rfl
theorem Wd95 {Z a0} (hw : HW a0 Z) : ((Cond.privateMethod ⟨zZ0, "sortByCoordinate", "()V"⟩)).before a0 Z = true := wAt hw (i := 95) rfl
theorem d2_165 : decode kQ18 165 = .ok (.aload_n 2, 1) := by decide +kernel
theorem d2_166 : decode kQ18 166 = .ok (.arraylength, 1) := by decide +kernel
theorem d2_167 : decode kQ18 167 = .ok (.ifCond .le 13, 3) := by decide +kernel
theorem d2_170 : decode kQ18 170 = .ok (.aload_n 0, 1) := by decide +kernel
theorem d2_171 : decode kQ18 171 = .ok (.iconst 1, 1) := by decide +kernel
theorem d2_172 : decode kQ18 172 = .ok (.iconst 0, 1) := by decide +kernel
theorem d2_173 : decode kQ18 173 = .ok (.aload_n 2, 1) := by decide +kernel
theorem d2_174 : decode kQ18 174 = .ok (.arraylength, 1) := by decide +kernel
theorem d2_175 : decode kQ18 175 = .ok (.iconst 0, 1) := by decide +kernel
theorem Wd101 {Z a0} (hw : HW a0 Z) : ((Cond.methodLink zZ0 69 ⟨zZ0, "split", "(IIII)I"⟩)).before a0 Z = true := wAt hw (i := 101) rfl
theorem Wd104 {Z a0} (hw : HW a0 Z) : ((Cond.code ⟨zZ0, "split", "(IIII)I"⟩ kQ17 7 (Option.some FieldType.int))).before a0 Z = true := wAt hw (i := 104) rfl
theorem pd8 : parseMethodDescriptor "(IIII)I" = some ⟨[.int, .int, .int, .int], some .int⟩ := by decide +kernel
theorem d2_176 : decode kQ18 176 = .ok (.invokevirtual 69, 3) := by decide +kernel
theorem Wd102 {Z a0} (hw : HW a0 Z) : ((Cond.instanceMethod ⟨zZ0, "split", "(IIII)I"⟩)).before a0 Z = true := wAt hw (i := 102) rfl
theorem Wd103 {Z a0} (hw : HW a0 Z) : ((Cond.privateMethod ⟨zZ0, "split", "(IIII)I"⟩)).before a0 Z = true := wAt hw (i := 103) rfl
theorem d2_179 : decode kQ18 179 = .ok (.pop, 1) := by decide +kernel
theorem d2_180 : decode kQ18 180 = .ok (.return_, 1) := by decide +kernel
theorem ef14 (m : MethodId) (x0 : Addr) (x1 : Int32) (x2 : Addr) (x3 : Addr) (x4 : Int32) : entryFrame m #[(.ref x0), (.int x1), (.ref x2), (.ref x3), (.int x4)] 5 = mkF m 0 #[.val (.ref x0), .val (.int x1), .val (.ref x2), .val (.ref x3), .val (.int x4)] [] := by first | (simp [entryFrame, mkF, argsToLocals, Value.category]; done) | rfl
theorem d1_0 : decode kQ19 0 = .ok (.aload_n 0, 1) := by decide +kernel
theorem d1_1 : decode kQ19 1 = .ok (.iload_n 1, 1) := by decide +kernel
theorem d1_2 : decode kQ19 2 = .ok (.aload_n 2, 1) := by decide +kernel
theorem d1_3 : decode kQ19 3 = .ok (.aload_n 3, 1) := by decide +kernel
theorem d1_4 : decode kQ19 4 = .ok (.iload 4, 2) := by decide +kernel
theorem d1_6 : decode kQ19 6 = .ok (.iconst 0, 1) := by decide +kernel
theorem Wd8 {Z a0} (hw : HW a0 Z) : ((Cond.methodLink zZ0 1 ⟨zZ0, "<init>", "(I[I[JZZ)V"⟩)).before a0 Z = true := wAt hw (i := 8) rfl
theorem Wd10 {Z a0} (hw : HW a0 Z) : ((Cond.code ⟨zZ0, "<init>", "(I[I[JZZ)V"⟩ kQ18 12 (Option.none : Option Jvm.ClassFile.FieldType))).before a0 Z = true := wAt hw (i := 10) rfl
theorem pd9 : parseMethodDescriptor "(I[I[JZZ)V" = some ⟨[.int, (.array .int), (.array .long), .boolean, .boolean], none⟩ := by decide +kernel
theorem d1_7 : decode kQ19 7 = .ok (.invokespecial 1, 3) := by decide +kernel
theorem Wd9 {Z a0} (hw : HW a0 Z) : ((Cond.instanceMethod ⟨zZ0, "<init>", "(I[I[JZZ)V"⟩)).before a0 Z = true := wAt hw (i := 9) rfl
theorem d1_10 : decode kQ19 10 = .ok (.return_, 1) := by decide +kernel
theorem d19_0 : decode kQ20 0 = .ok (.aload_n 0, 1) := by decide +kernel
theorem d19_1 : decode kQ20 1 = .ok (.getfield 60, 3) := by decide +kernel
theorem d19_4 : decode kQ20 4 = .ok (.ireturn, 1) := by decide +kernel
theorem d20_0 : decode kQ21 0 = .ok (.aload_n 0, 1) := by decide +kernel
theorem d20_1 : decode kQ21 1 = .ok (.getfield 63, 3) := by decide +kernel
theorem d20_4 : decode kQ21 4 = .ok (.ireturn, 1) := by decide +kernel
theorem d21_0 : decode kQ22 0 = .ok (.aload_n 0, 1) := by decide +kernel
theorem d21_1 : decode kQ22 1 = .ok (.getfield 15, 3) := by decide +kernel
theorem d21_4 : decode kQ22 4 = .ok (.iload_n 1, 1) := by decide +kernel
theorem Wd128 {Z a0} (hw : HW a0 Z) : ((Cond.methodLink zZ0 93 ⟨"java/util/BitSet", "get", "(I)Z"⟩)).before a0 Z = true := wAt hw (i := 128) rfl
theorem Wd131 {Z a0} (hw : HW a0 Z) : ((Cond.selects "java/util/BitSet" ⟨"java/util/BitSet", "get", "(I)Z"⟩ ⟨"java/util/BitSet", "get", "(I)Z"⟩)).before a0 Z = true := wAt hw (i := 131) rfl
theorem Wd132 {Z a0} (hw : HW a0 Z) : ((Cond.code ⟨"java/util/BitSet", "get", "(I)Z"⟩ kQ12 3 (Option.some FieldType.boolean))).before a0 Z = true := wAt hw (i := 132) rfl
theorem pd10 : parseMethodDescriptor "(I)Z" = some ⟨[.int], some .boolean⟩ := by decide +kernel
theorem d21_5 : decode kQ22 5 = .ok (.invokevirtual 93, 3) := by decide +kernel
theorem Wd129 {Z a0} (hw : HW a0 Z) : ((Cond.declares ⟨"java/util/BitSet", "get", "(I)Z"⟩)).before a0 Z = true := wAt hw (i := 129) rfl
theorem Wd130 {Z a0} (hw : HW a0 Z) : ((Cond.instanceMethod ⟨"java/util/BitSet", "get", "(I)Z"⟩)).before a0 Z = true := wAt hw (i := 130) rfl
theorem d21_8 : decode kQ22 8 = .ok (.ifCond .eq 21, 3) := by decide +kernel
theorem d21_29 : decode kQ22 29 = .ok (.return_, 1) := by decide +kernel
theorem d21_11 : decode kQ22 11 = .ok (.aload_n 0, 1) := by decide +kernel
theorem d21_12 : decode kQ22 12 = .ok (.getfield 15, 3) := by decide +kernel
theorem d21_15 : decode kQ22 15 = .ok (.iload_n 1, 1) := by decide +kernel
theorem Wd133 {Z a0} (hw : HW a0 Z) : ((Cond.methodLink zZ0 109 ⟨"java/util/BitSet", "clear", "(I)V"⟩)).before a0 Z = true := wAt hw (i := 133) rfl
theorem Wd136 {Z a0} (hw : HW a0 Z) : ((Cond.selects "java/util/BitSet" ⟨"java/util/BitSet", "clear", "(I)V"⟩ ⟨"java/util/BitSet", "clear", "(I)V"⟩)).before a0 Z = true := wAt hw (i := 136) rfl
theorem Wd137 {Z a0} (hw : HW a0 Z) : ((Cond.code ⟨"java/util/BitSet", "clear", "(I)V"⟩ kQ14 3 (Option.none : Option Jvm.ClassFile.FieldType))).before a0 Z = true := wAt hw (i := 137) rfl
theorem d21_16 : decode kQ22 16 = .ok (.invokevirtual 109, 3) := by decide +kernel
theorem Wd134 {Z a0} (hw : HW a0 Z) : ((Cond.declares ⟨"java/util/BitSet", "clear", "(I)V"⟩)).before a0 Z = true := wAt hw (i := 134) rfl
theorem Wd135 {Z a0} (hw : HW a0 Z) : ((Cond.instanceMethod ⟨"java/util/BitSet", "clear", "(I)V"⟩)).before a0 Z = true := wAt hw (i := 135) rfl
theorem d21_19 : decode kQ22 19 = .ok (.aload_n 0, 1) := by decide +kernel
theorem d21_20 : decode kQ22 20 = .ok (.dup, 1) := by decide +kernel
theorem d21_21 : decode kQ22 21 = .ok (.getfield 63, 3) := by decide +kernel
theorem d21_24 : decode kQ22 24 = .ok (.iconst 1, 1) := by decide +kernel
theorem d21_25 : decode kQ22 25 = .ok (.isub, 1) := by decide +kernel
theorem d21_26 : decode kQ22 26 = .ok (.putfield 63, 3) := by decide +kernel
theorem ef15 (m : MethodId) (x0 : Int32) (x1 : Int32) (x2 : Int32) (x3 : Int64) (x4 : Int64) (x5 : Int64) : entryFrame m #[(.int x0), (.int x1), (.int x2), (.long x3), (.long x4), (.long x5)] maxLocals = mkF m 0 #[.val (.int x0), .val (.int x1), .val (.int x2), .val (.long x3), .second, .val (.long x4), .second, .val (.long x5), .second, .unset, .unset, .unset, .unset, .unset, .unset, .unset, .unset, .unset, .unset, .unset, .unset, .unset, .unset, .unset, .unset, .unset, .unset] [] := by first | (simp [entryFrame, mkF, argsToLocals, Value.category, maxLocals]; done) | rfl
theorem pn3 : plainName "com/example/tight_pivot/tightpivot/ValueTreeOutdatePinLaw" = true := by first | (simp [plainName, overriddenIn]; done) | decide +kernel
theorem Wd2 {Z a0} (hw : HW a0 Z) : ((Cond.classLink zZ1 7 zZ0)).before a0 Z = true := wAt hw (i := 2) rfl
theorem Wd5 {Z a0} (hw : HW a0 Z) : ((Cond.methodLink zZ1 9 ⟨zZ0, "<init>", "(I[I[JZ)V"⟩)).before a0 Z = true := wAt hw (i := 5) rfl
theorem Wd7 {Z a0} (hw : HW a0 Z) : ((Cond.code ⟨zZ0, "<init>", "(I[I[JZ)V"⟩ kQ19 5 (Option.none : Option Jvm.ClassFile.FieldType))).before a0 Z = true := wAt hw (i := 7) rfl
theorem pd11 : parseMethodDescriptor "(I[I[JZ)V" = some ⟨[.int, (.array .int), (.array .long), .boolean], none⟩ := by decide +kernel
theorem Wd6 {Z a0} (hw : HW a0 Z) : ((Cond.instanceMethod ⟨zZ0, "<init>", "(I[I[JZ)V"⟩)).before a0 Z = true := wAt hw (i := 6) rfl
theorem Wd113 {Z a0} (hw : HW a0 Z) : ((Cond.methodLink zZ1 12 ⟨zZ0, "documentCount", "()I"⟩)).before a0 Z = true := wAt hw (i := 113) rfl
theorem Wd116 {Z a0} (hw : HW a0 Z) : ((Cond.selects zZ0 ⟨zZ0, "documentCount", "()I"⟩ ⟨zZ0, "documentCount", "()I"⟩)).before a0 Z = true := wAt hw (i := 116) rfl
theorem Wd117 {Z a0} (hw : HW a0 Z) : ((Cond.code ⟨zZ0, "documentCount", "()I"⟩ kQ20 1 (Option.some FieldType.int))).before a0 Z = true := wAt hw (i := 117) rfl
theorem Wd114 {Z a0} (hw : HW a0 Z) : ((Cond.declares ⟨zZ0, "documentCount", "()I"⟩)).before a0 Z = true := wAt hw (i := 114) rfl
theorem Wd115 {Z a0} (hw : HW a0 Z) : ((Cond.instanceMethod ⟨zZ0, "documentCount", "()I"⟩)).before a0 Z = true := wAt hw (i := 115) rfl
theorem Wd118 {Z a0} (hw : HW a0 Z) : ((Cond.methodLink zZ1 16 ⟨zZ0, "currentCount", "()I"⟩)).before a0 Z = true := wAt hw (i := 118) rfl
theorem Wd121 {Z a0} (hw : HW a0 Z) : ((Cond.selects zZ0 ⟨zZ0, "currentCount", "()I"⟩ ⟨zZ0, "currentCount", "()I"⟩)).before a0 Z = true := wAt hw (i := 121) rfl
theorem Wd122 {Z a0} (hw : HW a0 Z) : ((Cond.code ⟨zZ0, "currentCount", "()I"⟩ kQ21 1 (Option.some FieldType.int))).before a0 Z = true := wAt hw (i := 122) rfl
theorem Wd119 {Z a0} (hw : HW a0 Z) : ((Cond.declares ⟨zZ0, "currentCount", "()I"⟩)).before a0 Z = true := wAt hw (i := 119) rfl
theorem Wd120 {Z a0} (hw : HW a0 Z) : ((Cond.instanceMethod ⟨zZ0, "currentCount", "()I"⟩)).before a0 Z = true := wAt hw (i := 120) rfl
theorem Wd123 {Z a0} (hw : HW a0 Z) : ((Cond.methodLink zZ1 19 ⟨zZ0, "outdate", "(I)V"⟩)).before a0 Z = true := wAt hw (i := 123) rfl
theorem Wd126 {Z a0} (hw : HW a0 Z) : ((Cond.selects zZ0 ⟨zZ0, "outdate", "(I)V"⟩ ⟨zZ0, "outdate", "(I)V"⟩)).before a0 Z = true := wAt hw (i := 126) rfl
theorem Wd127 {Z a0} (hw : HW a0 Z) : ((Cond.code ⟨zZ0, "outdate", "(I)V"⟩ kQ22 2 (Option.none : Option Jvm.ClassFile.FieldType))).before a0 Z = true := wAt hw (i := 127) rfl
theorem Wd124 {Z a0} (hw : HW a0 Z) : ((Cond.declares ⟨zZ0, "outdate", "(I)V"⟩)).before a0 Z = true := wAt hw (i := 124) rfl
theorem Wd125 {Z a0} (hw : HW a0 Z) : ((Cond.instanceMethod ⟨zZ0, "outdate", "(I)V"⟩)).before a0 Z = true := wAt hw (i := 125) rfl
def Q_rmWI (Z : State) (x0 : Int32) (h0 : Heap) (v : Option Value) (h : Heap) (L : List Loc) : Prop := v = some (.int 0) ∧ L = [] ∧ h = h0
set_option maxRecDepth 65536 in
set_option maxHeartbeats 40000000 in
theorem rmWI (l : Launch) (Z : State) (a0 : Array Value) (hw : HW a0 Z) (ws : List Jvm.Cond) (x0 : Int32) (h0 : Heap) (h6 : (x0 >>> ((6 : Int32) &&& 31)) = 0) :
    MetFree l (⟨"java/util/BitSet", "wordIndex", "(I)I"⟩ : MethodName) (head1 (Jvm.Cond.code (⟨"java/util/BitSet", "wordIndex", "(I)I"⟩ : MethodName) kQ0 1 (some .int) :: ws) (rO 0 0 0 0)) (fun a U => a = #[(.int x0)] ∧ Z.Warmed39 U.vm ∧ U.heap = h0) (fun _ _ _ _ _ => True) (fun _ U o U' => ∃ v L, o = .returned v ∧ Q_rmWI Z x0 h0 v U'.heap L ∧ FrameEnd U o U' L (rO 0 0 0 0).cells (rO 0 0 0 0).slots) := by
  refine MetFree.of_bodySF (plainFor_of_name pn0) hisR ?_
  intro p e s m args below meth c s₁ Bd hml0 hP hK
  obtain ⟨rfl, hZ, hh⟩ := hP
  have hx := Bd.exec
  have hby := Bd.bytes
  have bd : ∀ {pc r}, decode kQ0 pc = r → decode c.code pc = r := fun q => hb hby q
  have hlk : meth.locks = false := Bd.notSynchronized
  have hml : c.maxLocals = 1 := hml0
  have hown : s.vm.findClass "java/util/BitSet" = some m.cls := findClass_of_methodNamed Bd.named
  have hnm := (name_of_methodNamed Bd.named Bd.method).1
  have X0 : Stand p l e (rO 0 0 0 0) s m #[(.int x0)] below meth c s₁ [] 0 0 := Stand.of_body Bd
  have e0 : s₁.heap = h0 := by rw [← hh, Bd.state]; rfl
  suffices hgo : OD p e s below (Q_rmWI Z x0 h0) (rO 0 0 0 0).cells (rO 0 0 0 0).slots (s₁.setTop (mkF m 0 #[.val (.int x0)] [])) by
    obtain ⟨s₂, o, hgo1, hgo2⟩ := hgo
    exact ⟨s₂, o, castTop (ef0 m x0) hgo1, hgo2⟩
  refine OD.go (B := (s₁.setTop (mkF m 4 #[.val (.int x0)] [(.int (x0 >>> ((6 : Int32) &&& 31)))]))) (fun t k => XS.iloadN X0.here hx rfl (bd d6_0) rfl (XS.bipush X0.here hx rfl (bd d6_1) (XS.ishr X0.here hx rfl (bd d6_3) rfl k))) ?_
  rw [h6]
  exact OD.ret X0 hx hlk (t := .int) Bd.returns rfl (Or.inl ⟨rfl, Or.inl rfl, _, rfl⟩) (bd d6_4) (nl rfl) (nl rfl) ⟨rfl, rfl, e0⟩
def Q_rmME (Z : State) (h0 : Heap) (v : Option Value) (h : Heap) (L : List Loc) : Prop := v = some (.int 4) ∧ L = [] ∧ h = h0
set_option maxRecDepth 65536 in
set_option maxHeartbeats 40000000 in
theorem rmME (l : Launch) (Z : State) (a0 : Array Value) (hw : HW a0 Z) (ws : List Jvm.Cond)  (h0 : Heap)  :
    MetFree l (⟨"java/lang/Math", "multiplyExact", "(II)I"⟩ : MethodName) (head1 (Jvm.Cond.code (⟨"java/lang/Math", "multiplyExact", "(II)I"⟩ : MethodName) kQ1 4 (some .int) :: ws) (rO 0 0 0 0)) (fun a U => a = #[(.int 2), (.int 2)] ∧ Z.Warmed39 U.vm ∧ U.heap = h0) (fun _ _ _ _ _ => True) (fun _ U o U' => ∃ v L, o = .returned v ∧ Q_rmME Z h0 v U'.heap L ∧ FrameEnd U o U' L (rO 0 0 0 0).cells (rO 0 0 0 0).slots) := by
  refine MetFree.of_bodySF (by decide +kernel) hisR ?_
  intro p e s m args below meth c s₁ Bd hml0 hP hK
  obtain ⟨rfl, hZ, hh⟩ := hP
  have hx := Bd.exec
  have hby := Bd.bytes
  have bd : ∀ {pc r}, decode kQ1 pc = r → decode c.code pc = r := fun q => hb hby q
  have hlk : meth.locks = false := Bd.notSynchronized
  have hml : c.maxLocals = 4 := hml0
  have hown : s.vm.findClass "java/lang/Math" = some m.cls := findClass_of_methodNamed Bd.named
  have hnm := (name_of_methodNamed Bd.named Bd.method).1
  have X0 : Stand p l e (rO 0 0 0 0) s m #[(.int 2), (.int 2)] below meth c s₁ [] 0 0 := Stand.of_body Bd
  have e0 : s₁.heap = h0 := by rw [← hh, Bd.state]; rfl
  suffices hgo : OD p e s below (Q_rmME Z h0) (rO 0 0 0 0).cells (rO 0 0 0 0).slots (s₁.setTop (mkF m 0 #[.val (.int 2), .val (.int 2), .unset, .unset] [])) by
    obtain ⟨s₂, o, hgo1, hgo2⟩ := hgo
    exact ⟨s₂, o, castTop (ef1 m (2 : Int32) (2 : Int32)) hgo1, hgo2⟩
  refine OD.go (B := (s₁.setTop (mkF m 24 #[.val (.int 2), .val (.int 2), .val (.long ((2 : Int32).toInt64 * (2 : Int32).toInt64)), .second] []))) (fun t k => XS.iloadN X0.here hx rfl (bd d7_0) rfl (XS.i2l X0.here hx rfl (bd d7_1) rfl (XS.iloadN X0.here hx rfl (bd d7_2) rfl (XS.i2l X0.here hx rfl (bd d7_3) rfl (XS.lmul X0.here hx rfl (bd d7_4) rfl (XS.lstoreN X0.here hx rfl (bd d7_5) rfl (l' := #[.val (.int 2), .val (.int 2), .val (.long ((2 : Int32).toInt64 * (2 : Int32).toInt64)), .second]) rfl (XS.lloadN X0.here hx rfl (bd d7_6) rfl (XS.l2i X0.here hx rfl (bd d7_7) rfl (XS.i2l X0.here hx rfl (bd d7_8) rfl (XS.lloadN X0.here hx rfl (bd d7_9) rfl (XS.lcmp X0.here hx rfl (bd d7_10) rfl (XS.ifYes X0.here hx rfl (pc0 := 11) (pc' := 24) rfl (bd d7_11) rfl (by rw [if0]; exact (teq (by decide)).1) (by decide) (by decide) k)))))))))))) ?_
  refine OD.go (B := (s₁.setTop (mkF m 26 #[.val (.int 2), .val (.int 2), .val (.long ((2 : Int32).toInt64 * (2 : Int32).toInt64)), .second] [(.int ((2 : Int32).toInt64 * (2 : Int32).toInt64).toInt32)]))) (fun t k => XS.lloadN X0.here hx rfl (bd d7_24) rfl (XS.l2i X0.here hx rfl (bd d7_25) rfl k)) ?_
  exact OD.ret X0 hx hlk (t := .int) Bd.returns rfl (Or.inl ⟨rfl, Or.inl rfl, _, rfl⟩) (bd d7_26) (nl rfl) (nl rfl) ⟨congrArg (fun z => some (Value.int z)) (by decide), rfl, e0⟩
def Q_rmMn (Z : State) (x0 : Int32) (x1 : Int32) (h0 : Heap) (v : Option Value) (h : Heap) (L : List Loc) : Prop := v = some (.int (own_imin x0 x1)) ∧ L = [] ∧ h = h0
set_option maxRecDepth 65536 in
set_option maxHeartbeats 40000000 in
theorem rmMn (l : Launch) (Z : State) (a0 : Array Value) (hw : HW a0 Z) (ws : List Jvm.Cond) (x0 : Int32) (x1 : Int32) (h0 : Heap)  :
    MetFree l (⟨"java/lang/Math", "min", "(II)I"⟩ : MethodName) (head1 (Jvm.Cond.code (⟨"java/lang/Math", "min", "(II)I"⟩ : MethodName) kQ2 2 (some .int) :: ws) (rO 0 0 0 0)) (fun a U => a = #[(.int x0), (.int x1)] ∧ Z.Warmed39 U.vm ∧ U.heap = h0) (fun _ _ _ _ _ => True) (fun _ U o U' => ∃ v L, o = .returned v ∧ Q_rmMn Z x0 x1 h0 v U'.heap L ∧ FrameEnd U o U' L (rO 0 0 0 0).cells (rO 0 0 0 0).slots) := by
  refine MetFree.of_bodySF (by decide +kernel) hisR ?_
  intro p e s m args below meth c s₁ Bd hml0 hP hK
  obtain ⟨rfl, hZ, hh⟩ := hP
  have hx := Bd.exec
  have hby := Bd.bytes
  have bd : ∀ {pc r}, decode kQ2 pc = r → decode c.code pc = r := fun q => hb hby q
  have hlk : meth.locks = false := Bd.notSynchronized
  have hml : c.maxLocals = 2 := hml0
  have hown : s.vm.findClass "java/lang/Math" = some m.cls := findClass_of_methodNamed Bd.named
  have hnm := (name_of_methodNamed Bd.named Bd.method).1
  have X0 : Stand p l e (rO 0 0 0 0) s m #[(.int x0), (.int x1)] below meth c s₁ [] 0 0 := Stand.of_body Bd
  have e0 : s₁.heap = h0 := by rw [← hh, Bd.state]; rfl
  suffices hgo : OD p e s below (Q_rmMn Z x0 x1 h0) (rO 0 0 0 0).cells (rO 0 0 0 0).slots (s₁.setTop (mkF m 0 #[.val (.int x0), .val (.int x1)] [])) by
    obtain ⟨s₂, o, hgo1, hgo2⟩ := hgo
    exact ⟨s₂, o, castTop (ef2 m x0 x1) hgo1, hgo2⟩
  refine OD.go (B := (s₁.setTop (mkF m 2 #[.val (.int x0), .val (.int x1)] [(.int x1), (.int x0)]))) (fun t k => XS.iloadN X0.here hx rfl (bd d18_0) rfl (XS.iloadN X0.here hx rfl (bd d18_1) rfl k)) ?_
  obtain ⟨v10_1, hv10_1⟩ : ∃ z : Int32, z = (if x1 < x0 then x1 else x0) := ⟨_, rfl⟩
  refine OD.cut (B := (s₁.setTop (mkF m 10 #[.val (.int x0), .val (.int x1)] [(.int v10_1)]))) (fun J10_2 => ?_) ?_
  · skip
    by_cases c2_3 : x1 < x0
    · refine OD.go (B := (s₁.setTop (mkF m 10 #[.val (.int x0), .val (.int x1)] [(.int x1)]))) (fun t k => XS.icmpYes X0.here hx rfl (pc0 := 2) (pc' := 9) rfl (bd d18_2) rfl (tlt c2_3).2.2.1 (by decide) (by decide) (XS.iloadN X0.here hx rfl (bd d18_9) rfl k)) ?_
      rw [if_pos c2_3] at hv10_1
      rw [hv10_1] at J10_2
      exact J10_2
    · refine OD.go (B := (s₁.setTop (mkF m 10 #[.val (.int x0), .val (.int x1)] [(.int x0)]))) (fun t k => XS.icmpNo X0.here hx rfl (bd d18_2) rfl (flt c2_3).2.2.1 (XS.iloadN X0.here hx rfl (bd d18_5) rfl (XS.goto X0.here hx rfl (pc0 := 6) (pc' := 10) rfl (bd d18_6) (by decide) (by decide) k))) ?_
      rw [if_neg c2_3] at hv10_1
      rw [hv10_1] at J10_2
      exact J10_2
  exact OD.ret X0 hx hlk (t := .int) Bd.returns rfl (Or.inl ⟨rfl, Or.inl rfl, _, rfl⟩) (bd d18_10) (nl rfl) (nl rfl) ⟨(show some (Value.int v10_1) = some (Value.int (own_imin x0 x1)) from by rw [hv10_1]; rfl), rfl, e0⟩
def Q_rmSB (Z : State) (x0 : Int64) (x1 : Int32) (h0 : Heap) (v : Option Value) (h : Heap) (L : List Loc) : Prop := v = some (.int (own_sb x0 x1)) ∧ L = [] ∧ h = h0
set_option maxRecDepth 65536 in
set_option maxHeartbeats 40000000 in
theorem rmSB (l : Launch) (Z : State) (a0 : Array Value) (hw : HW a0 Z) (ws : List Jvm.Cond) (x0 : Int64) (x1 : Int32) (h0 : Heap)  :
    MetFree l (⟨zZ0, "sortingByte", "(JI)I"⟩ : MethodName) (head1 (Jvm.Cond.code (⟨zZ0, "sortingByte", "(JI)I"⟩ : MethodName) kQ3 3 (some .int) :: ws) (rO 0 0 0 0)) (fun a U => a = #[(.long x0), (.int x1)] ∧ Z.Warmed39 U.vm ∧ U.heap = h0) (fun _ _ _ _ _ => True) (fun _ U o U' => ∃ v L, o = .returned v ∧ Q_rmSB Z x0 x1 h0 v U'.heap L ∧ FrameEnd U o U' L (rO 0 0 0 0).cells (rO 0 0 0 0).slots) := by
  refine MetFree.of_bodySF (plainFor_of_name pn1) hisR ?_
  intro p e s m args below meth c s₁ Bd hml0 hP hK
  obtain ⟨rfl, hZ, hh⟩ := hP
  have hx := Bd.exec
  have hby := Bd.bytes
  have bd : ∀ {pc r}, decode kQ3 pc = r → decode c.code pc = r := fun q => hb hby q
  have hlk : meth.locks = false := Bd.notSynchronized
  have hml : c.maxLocals = 3 := hml0
  have hown : s.vm.findClass zZ0 = some m.cls := findClass_of_methodNamed Bd.named
  have hnm := (name_of_methodNamed Bd.named Bd.method).1
  have X0 : Stand p l e (rO 0 0 0 0) s m #[(.long x0), (.int x1)] below meth c s₁ [] 0 0 := Stand.of_body Bd
  have e0 : s₁.heap = h0 := by rw [← hh, Bd.state]; rfl
  suffices hgo : OD p e s below (Q_rmSB Z x0 x1 h0) (rO 0 0 0 0).cells (rO 0 0 0 0).slots (s₁.setTop (mkF m 0 #[.val (.long x0), .second, .val (.int x1)] [])) by
    obtain ⟨s₂, o, hgo1, hgo2⟩ := hgo
    exact ⟨s₂, o, castTop (ef3 m x0 x1) hgo1, hgo2⟩
  refine OD.go (B := (s₁.setTop (mkF m 12 #[.val (.long x0), .second, .val (.int x1)] [(.int ((((x0 ^^^ (-9223372036854775808 : Int64)).toUInt64 >>> (x1 &&& 0x3f).toInt64.toUInt64).toInt64).toInt32 &&& (255 : Int32)))]))) (fun t k => XS.lloadN X0.here hx rfl (bd d15_0) rfl (X0.ldc2Long hx hown (mv hZ (Wd100 hw)) (g := (mkF m 1 #[.val (.long x0), .second, .val (.int x1)] [(.long x0)])) rfl (bd d15_1) _ (XS.lxor X0.here hx rfl (bd d15_4) rfl (XS.iloadN X0.here hx rfl (bd d15_5) rfl (XS.lushr X0.here hx rfl (bd d15_6) rfl (XS.l2i X0.here hx rfl (bd d15_7) rfl (XS.sipush X0.here hx rfl (bd d15_8) (XS.iand X0.here hx rfl (bd d15_11) rfl k)))))))) ?_
  exact OD.ret X0 hx hlk (t := .int) Bd.returns rfl (Or.inl ⟨rfl, Or.inl rfl, _, rfl⟩) (bd d15_12) (nl rfl) (nl rfl) ⟨rfl, rfl, e0⟩
def Q_rmBC (Z : State) (w0 : Int64) (h0 : Heap) (v : Option Value) (h : Heap) (L : List Loc) : Prop := v = some (.int (own_bc w0)) ∧ L = [] ∧ h = h0
set_option maxRecDepth 65536 in
set_option maxHeartbeats 40000000 in
theorem rmBC (l : Launch) (Z : State) (a0 : Array Value) (hw : HW a0 Z) (ws : List Jvm.Cond) (w0 : Int64) (h0 : Heap)  :
    MetFree l (⟨"java/lang/Long", "bitCount", "(J)I"⟩ : MethodName) (head1 (Jvm.Cond.code (⟨"java/lang/Long", "bitCount", "(J)I"⟩ : MethodName) kQ4 2 (some .int) :: ws) (rO 0 0 0 0)) (fun a U => a = #[(.long w0)] ∧ Z.Warmed39 U.vm ∧ U.heap = h0) (fun _ _ _ _ _ => True) (fun _ U o U' => ∃ v L, o = .returned v ∧ Q_rmBC Z w0 h0 v U'.heap L ∧ FrameEnd U o U' L (rO 0 0 0 0).cells (rO 0 0 0 0).slots) := by
  refine MetFree.of_bodySF (plainFor_of_name pn2) hisR ?_
  intro p e s m args below meth c s₁ Bd hml0 hP hK
  obtain ⟨rfl, hZ, hh⟩ := hP
  have hx := Bd.exec
  have hby := Bd.bytes
  have bd : ∀ {pc r}, decode kQ4 pc = r → decode c.code pc = r := fun q => hb hby q
  have hlk : meth.locks = false := Bd.notSynchronized
  have hml : c.maxLocals = 2 := hml0
  have hown : s.vm.findClass "java/lang/Long" = some m.cls := findClass_of_methodNamed Bd.named
  have hnm := (name_of_methodNamed Bd.named Bd.method).1
  have X0 : Stand p l e (rO 0 0 0 0) s m #[(.long w0)] below meth c s₁ [] 0 0 := Stand.of_body Bd
  have e0 : s₁.heap = h0 := by rw [← hh, Bd.state]; rfl
  suffices hgo : OD p e s below (Q_rmBC Z w0 h0) (rO 0 0 0 0).cells (rO 0 0 0 0).slots (s₁.setTop (mkF m 0 #[.val (.long w0), .second] [])) by
    obtain ⟨s₂, o, hgo1, hgo2⟩ := hgo
    exact ⟨s₂, o, castTop (ef4 m w0) hgo1, hgo2⟩
  refine OD.go (B := (s₁.setTop (mkF m 10 #[.val (.long (w0 - (((w0.toUInt64 >>> ((1 : Int32) &&& 0x3f).toInt64.toUInt64).toInt64) &&& (6148914691236517205 : Int64)))), .second] []))) (fun t k => XS.lloadN X0.here hx rfl (bd d13_0) rfl (XS.lloadN X0.here hx rfl (bd d13_1) rfl (XS.iconst X0.here hx rfl (bd d13_2) (XS.lushr X0.here hx rfl (bd d13_3) rfl (X0.ldc2Long hx hown (mv hZ (Wd86 hw)) (g := (mkF m 4 #[.val (.long w0), .second] [(.long ((w0.toUInt64 >>> ((1 : Int32) &&& 0x3f).toInt64.toUInt64).toInt64)), (.long w0)])) rfl (bd d13_4) _ (XS.land X0.here hx rfl (bd d13_7) rfl (XS.lsub X0.here hx rfl (bd d13_8) rfl (XS.lstoreN X0.here hx rfl (bd d13_9) rfl (l' := #[.val (.long (w0 - (((w0.toUInt64 >>> ((1 : Int32) &&& 0x3f).toInt64.toUInt64).toInt64) &&& (6148914691236517205 : Int64)))), .second]) rfl k)))))))) ?_
  generalize hu9_1 : (w0 - (((w0.toUInt64 >>> ((1 : Int32) &&& 0x3f).toInt64.toUInt64).toInt64) &&& (6148914691236517205 : Int64))) = u9_1
  refine OD.go (B := (s₁.setTop (mkF m 24 #[.val (.long ((u9_1 &&& (3689348814741910323 : Int64)) + (((u9_1.toUInt64 >>> ((2 : Int32) &&& 0x3f).toInt64.toUInt64).toInt64) &&& (3689348814741910323 : Int64)))), .second] []))) (fun t k => XS.lloadN X0.here hx rfl (bd d13_10) rfl (X0.ldc2Long hx hown (mv hZ (Wd87 hw)) (g := (mkF m 11 #[.val (.long u9_1), .second] [(.long u9_1)])) rfl (bd d13_11) _ (XS.land X0.here hx rfl (bd d13_14) rfl (XS.lloadN X0.here hx rfl (bd d13_15) rfl (XS.iconst X0.here hx rfl (bd d13_16) (XS.lushr X0.here hx rfl (bd d13_17) rfl (X0.ldc2Long hx hown (mv hZ (Wd87 hw)) (g := (mkF m 18 #[.val (.long u9_1), .second] [(.long ((u9_1.toUInt64 >>> ((2 : Int32) &&& 0x3f).toInt64.toUInt64).toInt64)), (.long (u9_1 &&& (3689348814741910323 : Int64)))])) rfl (bd d13_18) _ (XS.land X0.here hx rfl (bd d13_21) rfl (XS.ladd X0.here hx rfl (bd d13_22) rfl (XS.lstoreN X0.here hx rfl (bd d13_23) rfl (l' := #[.val (.long ((u9_1 &&& (3689348814741910323 : Int64)) + (((u9_1.toUInt64 >>> ((2 : Int32) &&& 0x3f).toInt64.toUInt64).toInt64) &&& (3689348814741910323 : Int64)))), .second]) rfl k)))))))))) ?_
  generalize hu23_2 : ((u9_1 &&& (3689348814741910323 : Int64)) + (((u9_1.toUInt64 >>> ((2 : Int32) &&& 0x3f).toInt64.toUInt64).toInt64) &&& (3689348814741910323 : Int64))) = u23_2
  refine OD.go (B := (s₁.setTop (mkF m 34 #[.val (.long ((u23_2 + ((u23_2.toUInt64 >>> ((4 : Int32) &&& 0x3f).toInt64.toUInt64).toInt64)) &&& (1085102592571150095 : Int64))), .second] []))) (fun t k => XS.lloadN X0.here hx rfl (bd d13_24) rfl (XS.lloadN X0.here hx rfl (bd d13_25) rfl (XS.iconst X0.here hx rfl (bd d13_26) (XS.lushr X0.here hx rfl (bd d13_27) rfl (XS.ladd X0.here hx rfl (bd d13_28) rfl (X0.ldc2Long hx hown (mv hZ (Wd88 hw)) (g := (mkF m 29 #[.val (.long u23_2), .second] [(.long (u23_2 + ((u23_2.toUInt64 >>> ((4 : Int32) &&& 0x3f).toInt64.toUInt64).toInt64)))])) rfl (bd d13_29) _ (XS.land X0.here hx rfl (bd d13_32) rfl (XS.lstoreN X0.here hx rfl (bd d13_33) rfl (l' := #[.val (.long ((u23_2 + ((u23_2.toUInt64 >>> ((4 : Int32) &&& 0x3f).toInt64.toUInt64).toInt64)) &&& (1085102592571150095 : Int64))), .second]) rfl k)))))))) ?_
  generalize hu33_3 : ((u23_2 + ((u23_2.toUInt64 >>> ((4 : Int32) &&& 0x3f).toInt64.toUInt64).toInt64)) &&& (1085102592571150095 : Int64)) = u33_3
  refine OD.go (B := (s₁.setTop (mkF m 41 #[.val (.long (u33_3 + ((u33_3.toUInt64 >>> ((8 : Int32) &&& 0x3f).toInt64.toUInt64).toInt64))), .second] []))) (fun t k => XS.lloadN X0.here hx rfl (bd d13_34) rfl (XS.lloadN X0.here hx rfl (bd d13_35) rfl (XS.bipush X0.here hx rfl (bd d13_36) (XS.lushr X0.here hx rfl (bd d13_38) rfl (XS.ladd X0.here hx rfl (bd d13_39) rfl (XS.lstoreN X0.here hx rfl (bd d13_40) rfl (l' := #[.val (.long (u33_3 + ((u33_3.toUInt64 >>> ((8 : Int32) &&& 0x3f).toInt64.toUInt64).toInt64))), .second]) rfl k)))))) ?_
  generalize hu40_4 : (u33_3 + ((u33_3.toUInt64 >>> ((8 : Int32) &&& 0x3f).toInt64.toUInt64).toInt64)) = u40_4
  refine OD.go (B := (s₁.setTop (mkF m 48 #[.val (.long (u40_4 + ((u40_4.toUInt64 >>> ((16 : Int32) &&& 0x3f).toInt64.toUInt64).toInt64))), .second] []))) (fun t k => XS.lloadN X0.here hx rfl (bd d13_41) rfl (XS.lloadN X0.here hx rfl (bd d13_42) rfl (XS.bipush X0.here hx rfl (bd d13_43) (XS.lushr X0.here hx rfl (bd d13_45) rfl (XS.ladd X0.here hx rfl (bd d13_46) rfl (XS.lstoreN X0.here hx rfl (bd d13_47) rfl (l' := #[.val (.long (u40_4 + ((u40_4.toUInt64 >>> ((16 : Int32) &&& 0x3f).toInt64.toUInt64).toInt64))), .second]) rfl k)))))) ?_
  generalize hu47_5 : (u40_4 + ((u40_4.toUInt64 >>> ((16 : Int32) &&& 0x3f).toInt64.toUInt64).toInt64)) = u47_5
  refine OD.go (B := (s₁.setTop (mkF m 55 #[.val (.long (u47_5 + ((u47_5.toUInt64 >>> ((32 : Int32) &&& 0x3f).toInt64.toUInt64).toInt64))), .second] []))) (fun t k => XS.lloadN X0.here hx rfl (bd d13_48) rfl (XS.lloadN X0.here hx rfl (bd d13_49) rfl (XS.bipush X0.here hx rfl (bd d13_50) (XS.lushr X0.here hx rfl (bd d13_52) rfl (XS.ladd X0.here hx rfl (bd d13_53) rfl (XS.lstoreN X0.here hx rfl (bd d13_54) rfl (l' := #[.val (.long (u47_5 + ((u47_5.toUInt64 >>> ((32 : Int32) &&& 0x3f).toInt64.toUInt64).toInt64))), .second]) rfl k)))))) ?_
  generalize hu54_6 : (u47_5 + ((u47_5.toUInt64 >>> ((32 : Int32) &&& 0x3f).toInt64.toUInt64).toInt64)) = u54_6
  refine OD.go (B := (s₁.setTop (mkF m 60 #[.val (.long u54_6), .second] [(.int (u54_6.toInt32 &&& (127 : Int32)))]))) (fun t k => XS.lloadN X0.here hx rfl (bd d13_55) rfl (XS.l2i X0.here hx rfl (bd d13_56) rfl (XS.bipush X0.here hx rfl (bd d13_57) (XS.iand X0.here hx rfl (bd d13_59) rfl k)))) ?_
  have fin : (u54_6.toInt32 &&& (127 : Int32)) = own_bc w0 := by
    subst hu9_1 hu23_2 hu33_3 hu40_4 hu47_5 hu54_6
    rfl
  rw [fin]
  exact OD.ret X0 hx hlk (t := .int) Bd.returns rfl (Or.inl ⟨rfl, Or.inl rfl, _, rfl⟩) (bd d13_60) (nl rfl) (nl rfl) ⟨rfl, rfl, e0⟩
def Q_rmIW (Z : State) (a1 : Addr) (h0 : Heap) (n0 : Nat) (v : Option Value) (h : Heap) (L : List Loc) : Prop := ∃ (b : Addr) (k : ClassId), v = none ∧ Fr n0 L ∧ Keep h0 h [a1] ∧ h0.size ≤ b ∧ Fld Z h a1 "java/util/BitSet" "wordsInUse" "I" (.int 0) ∧ Fld Z h a1 "java/util/BitSet" "sizeIsSticky" "Z" (.int 0) ∧ Fld Z h a1 "java/util/BitSet" "words" "[J" (.ref b) ∧ Arv Z h b k .long (1 : Int32) [(.long (0 : Int64))] (.long (0 : Int64))
set_option maxRecDepth 65536 in
set_option maxHeartbeats 40000000 in
theorem rmIW (l : Launch) (Z : State) (a0 : Array Value) (hw : HW a0 Z) (ws : List Jvm.Cond) (a1 : Addr) (h0 : Heap) (n0 : Nat) (Z0 : n0 ≤ h0.size) (E1 : Exa Z h0 a1 "java/util/BitSet") (g1 : n0 ≤ a1) (F0 : Fld Z h0 a1 "java/util/BitSet" "wordsInUse" "I" (.int 0)) (F1 : Fld Z h0 a1 "java/util/BitSet" "sizeIsSticky" "Z" (.int 0)) (F2 : Fld Z h0 a1 "java/util/BitSet" "words" "[J" .null) :
    MetFree l (⟨"java/util/BitSet", "initWords", "(I)V"⟩ : MethodName) (head1 (Jvm.Cond.code (⟨"java/util/BitSet", "initWords", "(I)V"⟩ : MethodName) kQ5 2 none :: ws) (rO 1 1 1 13)) (fun a U => a = #[(.ref a1), (.int 64)] ∧ Z.Warmed39 U.vm ∧ U.heap = h0) (fun _ _ _ _ _ => True) (fun _ U o U' => ∃ v L, o = .returned v ∧ Q_rmIW Z a1 h0 n0 v U'.heap L ∧ FrameEnd U o U' L (rO 1 1 1 13).cells (rO 1 1 1 13).slots) := by
  refine MetFree.of_bodySF (plainFor_of_name pn0) hisR ?_
  intro p e s m args below meth c s₁ Bd hml0 hP hK
  obtain ⟨rfl, hZ, hh⟩ := hP
  have hx := Bd.exec
  have hby := Bd.bytes
  have bd : ∀ {pc r}, decode kQ5 pc = r → decode c.code pc = r := fun q => hb hby q
  have hlk : meth.locks = false := Bd.notSynchronized
  have hml : c.maxLocals = 2 := hml0
  have hown : s.vm.findClass "java/util/BitSet" = some m.cls := findClass_of_methodNamed Bd.named
  have hnm := (name_of_methodNamed Bd.named Bd.method).1
  have X0 : Stand p l e (rO 1 1 1 13) s m #[(.ref a1), (.int 64)] below meth c s₁ [] 0 0 := Stand.of_body Bd
  have e0 : s₁.heap = h0 := by rw [← hh, Bd.state]; rfl
  have N0 := Fr.nil n0
  suffices hgo : OD p e s below (Q_rmIW Z a1 h0 n0) (rO 1 1 1 13).cells (rO 1 1 1 13).slots (s₁.setTop (mkF m 0 #[.val (.ref a1), .val (.int 64)] [])) by
    obtain ⟨s₂, o, hgo1, hgo2⟩ := hgo
    exact ⟨s₂, o, castTop (ef5 m a1 (64 : Int32)) hgo1, hgo2⟩
  refine OD.go (B := (s₁.setTop (mkF m 4 #[.val (.ref a1), .val (.int 64)] [(.int 63), (.ref a1)]))) (fun t k => XS.aloadN X0.here hx rfl (bd d5_0) rfl rfl (XS.iloadN X0.here hx rfl (bd d5_1) rfl (XS.iconst X0.here hx rfl (bd d5_2) (XS.isub X0.here hx rfl (bd d5_3) rfl k)))) ?_
  obtain ⟨_, _, ⟨T1, L1, k1, n1⟩, -, X1, ⟨Lc1, hQ1, l1, y1, z1⟩, st1⟩ := Jvm.LawKit.callS X0 hx (y := (⟨"java/util/BitSet", "wordIndex", "(I)I"⟩ : MethodName)) hown (mvT hZ (Wd30 hw)) (mvT hZ (Wd31 hw)) (mvT hZ (Wd16 hw)) (mvT hZ (Wd32 hw)) (by decide) (backOf (W := 1) (rmWI l Z a0 hw [] (63 : Int32) h0 (by decide)) hZ (Wd32 hw) (Wd16 hw) (by decide) (by decide)) (g := (mkF m 4 #[.val (.ref a1), .val (.int 64)] [(.int 63), (.ref a1)])) rfl (by rw [hml]; rfl) (argsL := [(.int 63)]) (rest := [(.ref a1)]) (lenOf pd0 rfl) rfl (by show 2 * 0 + _ ≤ _; exact Nat.le_of_eq rfl) (bd d5_4) (fun _ _ => ⟨rfl, e0, (nl rfl), (nl rfl)⟩)
  dsimp only [Pt.U, Pt.locs, Pt.cells, Pt.slots] at X1 l1 y1 z1 st1 hQ1
  subst l1 y1 z1
  obtain ⟨rfl, rfl, e1⟩ := hQ1
  have N1 := Fr.app N0 (Fr.nil _)
  refine OD.go st1 ?_
  refine OD.go (B := (T1.setTop (mkF m 9 #[.val (.ref a1), .val (.int 64)] [(.int 1), (.ref a1)]))) (fun t k => XS.iconst X1.here hx rfl (bd d5_7) (XS.iadd X1.here hx rfl (bd d5_8) rfl k)) ?_
  obtain ⟨T2, h2, k2, X2, e2, E2, A2, st2⟩ := newP X1 hx hZ (aty := .long) (Wd1 hw) e1 (g := (mkF m 9 #[.val (.ref a1), .val (.int 64)] [(.int 1), (.ref a1)])) rfl (bd d5_9) rfl (by decide) (cap := 1) (by decide) (by decide) (nl rfl) (nl rfl)
  obtain ⟨b2, g2⟩ : ∃ z, z = h0.size := ⟨_, rfl⟩
  rw [← g2] at A2 st2
  have V2 : Arv Z h2 b2 k2 .long (1 : Int32) [(.long (0 : Int64))] (.long (0 : Int64)) := (Arv.new A2 (by decide)).pad (pad_rep [] (.long (0 : Int64)) 1)
  refine OD.go (B := (T2.setTop (mkF m 11 #[.val (.ref a1), .val (.int 64)] [(.ref b2), (.ref a1)]))) st2 ?_
  have f3 := (F2.ext E2)
  have f4 := (E1.ext E2)
  obtain ⟨T5, h5, X5, e5, W5, st5⟩ := putF X2 hx hZ hown (host := "") (Or.inl (Wd33 hw)) Via.refl e2 f3 f4 (Or.inl (Wd34 hw)) (Wd15 hw) (ty := (.array .long)) (by decide) rfl rfl (g := (mkF m 11 #[.val (.ref a1), .val (.int 64)] [(.ref b2), (.ref a1)])) rfl rfl (bd d5_11)
  have Fx5 := f3.same W5
  have N5 := Fr.snoc X5 N1 g1
  refine OD.go (B := (T5.setTop (mkF m 14 #[.val (.ref a1), .val (.int 64)] []))) st5 ?_
  exact OD.retV X5 hx hlk Bd.returns (bd d5_14) (nl rfl) (nl rfl) ⟨_, _, rfl, N5, by rw [e5]; exact (((Keep.refl h0 [a1]).ext E2).wr W5 (Or.inl (List.mem_of_getElem? (i := 0) rfl))), (Nat.le_trans (Nat.le_refl _) (Nat.le_of_eq g2.symm)), by rw [e5]; exact ((F0.ext E2).other W5 (Or.inr (slot_ne (Or.inl (Wd22 hw)) (Or.inl (Wd34 hw)) (by decide) (t := .int) (t' := (.array .long)) (by decide) (by decide)))), by rw [e5]; exact ((F1.ext E2).other W5 (Or.inr (slot_ne (Or.inl (Wd24 hw)) (Or.inl (Wd34 hw)) (by decide) (t := .boolean) (t' := (.array .long)) (by decide) (by decide)))), by rw [e5]; exact Fx5, by rw [e5]; exact (V2.other W5 (Ne.symm (Nat.ne_of_lt (Nat.lt_of_lt_of_le E1.lt (Nat.le_of_eq g2.symm)))))⟩
def Q_rmBI (Z : State) (a1 : Addr) (h0 : Heap) (n0 : Nat) (v : Option Value) (h : Heap) (L : List Loc) : Prop := ∃ (b : Addr) (k : ClassId), v = none ∧ Fr n0 L ∧ Keep h0 h [a1] ∧ h0.size ≤ b ∧ Fld Z h a1 "java/util/BitSet" "wordsInUse" "I" (.int 0) ∧ Fld Z h a1 "java/util/BitSet" "sizeIsSticky" "Z" (.int 0) ∧ Fld Z h a1 "java/util/BitSet" "words" "[J" (.ref b) ∧ Arv Z h b k .long (1 : Int32) [(.long (0 : Int64))] (.long (0 : Int64))
set_option maxRecDepth 65536 in
set_option maxHeartbeats 40000000 in
theorem rmBI (l : Launch) (Z : State) (a0 : Array Value) (hw : HW a0 Z) (ws : List Jvm.Cond) (a1 : Addr) (h0 : Heap) (n0 : Nat) (Z0 : n0 ≤ h0.size) (E1 : Exa Z h0 a1 "java/util/BitSet") (g1 : n0 ≤ a1) (F0 : Fld Z h0 a1 "java/util/BitSet" "wordsInUse" "I" (.int 0)) (F1 : Fld Z h0 a1 "java/util/BitSet" "sizeIsSticky" "Z" (.int 0)) (F2 : Fld Z h0 a1 "java/util/BitSet" "words" "[J" .null) :
    MetFree l (⟨"java/util/BitSet", "<init>", "()V"⟩ : MethodName) (head1 (Jvm.Cond.code (⟨"java/util/BitSet", "<init>", "()V"⟩ : MethodName) kQ6 1 none :: ws) (rO 2 1 1 26)) (fun a U => a = #[(.ref a1)] ∧ Z.Warmed39 U.vm ∧ U.heap = h0) (fun _ _ _ _ _ => True) (fun _ U o U' => ∃ v L, o = .returned v ∧ Q_rmBI Z a1 h0 n0 v U'.heap L ∧ FrameEnd U o U' L (rO 2 1 1 26).cells (rO 2 1 1 26).slots) := by
  refine MetFree.of_bodySF (plainFor_of_name pn0) hisR ?_
  intro p e s m args below meth c s₁ Bd hml0 hP hK
  obtain ⟨rfl, hZ, hh⟩ := hP
  have hx := Bd.exec
  have hby := Bd.bytes
  have bd : ∀ {pc r}, decode kQ6 pc = r → decode c.code pc = r := fun q => hb hby q
  have hlk : meth.locks = false := Bd.notSynchronized
  have hml : c.maxLocals = 1 := hml0
  have hown : s.vm.findClass "java/util/BitSet" = some m.cls := findClass_of_methodNamed Bd.named
  have hnm := (name_of_methodNamed Bd.named Bd.method).1
  have X0 : Stand p l e (rO 2 1 1 26) s m #[(.ref a1)] below meth c s₁ [] 0 0 := Stand.of_body Bd
  have e0 : s₁.heap = h0 := by rw [← hh, Bd.state]; rfl
  have N0 := Fr.nil n0
  suffices hgo : OD p e s below (Q_rmBI Z a1 h0 n0) (rO 2 1 1 26).cells (rO 2 1 1 26).slots (s₁.setTop (mkF m 0 #[.val (.ref a1)] [])) by
    obtain ⟨s₂, o, hgo1, hgo2⟩ := hgo
    exact ⟨s₂, o, castTop (ef6 m a1) hgo1, hgo2⟩
  refine OD.go (B := (s₁.setTop (mkF m 1 #[.val (.ref a1)] [(.ref a1)]))) (fun t k => XS.aloadN X0.here hx rfl (bd d4_0) rfl rfl k) ?_
  obtain ⟨T1, X1, e1, st1⟩ := initO X0 hx hZ hown (Wd20 hw) (Wd12 hw) (Wd13 hw) e0 (g := (mkF m 1 #[.val (.ref a1)] [(.ref a1)])) rfl (by rw [hml]; rfl) rfl (bd d4_1) (by decide) (W := 0) (by show 2 * 0 + _ ≤ _; exact Nat.le_of_eq rfl) (by decide)
  refine OD.go st1 ?_
  refine OD.go (B := (T1.setTop (mkF m 6 #[.val (.ref a1)] [(.int 0), (.ref a1)]))) (fun t k => XS.aloadN X1.here hx rfl (bd d4_4) rfl rfl (XS.iconst X1.here hx rfl (bd d4_5) k)) ?_
  obtain ⟨T2, h2, X2, e2, W2, st2⟩ := putF X1 hx hZ hown (host := "") (Or.inl (Wd21 hw)) Via.refl e1 F0 E1 (Or.inl (Wd22 hw)) (Wd15 hw) (ty := .int) (by decide) rfl rfl (g := (mkF m 6 #[.val (.ref a1)] [(.int 0), (.ref a1)])) rfl rfl (bd d4_6)
  have Fx2 := F0.same W2
  have N2 := Fr.snoc X2 N0 g1
  refine OD.go st2 ?_
  refine OD.go (B := (T2.setTop (mkF m 11 #[.val (.ref a1)] [(.int 0), (.ref a1)]))) (fun t k => XS.aloadN X2.here hx rfl (bd d4_9) rfl rfl (XS.iconst X2.here hx rfl (bd d4_10) k)) ?_
  have f3 := (F1.other W2 (Or.inr (slot_ne (Or.inl (Wd24 hw)) (Or.inl (Wd22 hw)) (by decide) (t := .boolean) (t' := .int) (by decide) (by decide))))
  have f4 := (E1.wr W2)
  obtain ⟨T5, h5, X5, e5, W5, st5⟩ := putFN X2 hx hZ hown (Wd23 hw) Via.refl e2 f3 f4 (Or.inl (Wd24 hw)) (Wd15 hw) (ty := .boolean) (v' := (.int 0)) (by decide) rfl (by decide) (g := (mkF m 11 #[.val (.ref a1)] [(.int 0), (.ref a1)])) rfl rfl (bd d4_11)
  have Fx5 := f3.same W5
  have N5 := Fr.snoc X5 N2 g1
  refine OD.go st5 ?_
  refine OD.go (B := (T5.setTop (mkF m 17 #[.val (.ref a1)] [(.int 64), (.ref a1)]))) (fun t k => XS.aloadN X5.here hx rfl (bd d4_14) rfl rfl (XS.bipush X5.here hx rfl (bd d4_15) k)) ?_
  have f6 := (f4.wr W5)
  have f7 := (Fx2.other W5 (Or.inr (slot_ne (Or.inl (Wd22 hw)) (Or.inl (Wd24 hw)) (by decide) (t := .int) (t' := .boolean) (by decide) (by decide))))
  have f8 := ((F2.other W2 (Or.inr (slot_ne (Or.inl (Wd34 hw)) (Or.inl (Wd22 hw)) (by decide) (t := (.array .long)) (t' := .int) (by decide) (by decide)))).other W5 (Or.inr (slot_ne (Or.inl (Wd34 hw)) (Or.inl (Wd24 hw)) (by decide) (t := (.array .long)) (t' := .boolean) (by decide) (by decide))))
  obtain ⟨cq9, qa9, qb9⟩ := f6.cell
  obtain ⟨_, _, ⟨T9, L9, k9, n9⟩, -, X9, ⟨Lc9, hQ9, l9, y9, z9⟩, st9⟩ := X5.privateBack hx (y := (⟨"java/util/BitSet", "initWords", "(I)V"⟩ : MethodName)) hown (mvT hZ (Wd25 hw)) (mvT hZ (Wd26 hw)) (mvT hZ (Wd28 hw)) (Cond.privateMethod_at (mvP hZ (Wd27 hw) (args := #[]))) (mvT hZ (Wd29 hw)) (by decide) (backOf (W := 0) (rmIW l Z a0 hw [] a1 h5 n0 (Nat.le_trans (Nat.le_trans Z0 (Keep.of_wr W2).1) (Keep.of_wr W5).1) f6 g1 f7 Fx5 f8) hZ (Wd29 hw) (Wd16 hw) (by decide) (by decide)) (g := (mkF m 17 #[.val (.ref a1)] [(.int 64), (.ref a1)])) rfl (by rw [hml]; rfl) (Steps.refl _) (a := a1) (by rw [e5]; exact qa9) qb9 (argsL := [(.int 64)]) (rest := []) (lenOf pd1 rfl) rfl (by show 2 * 0 + _ ≤ _; exact Nat.le_of_eq rfl) (bd d4_17) (fun _ _ => ⟨rfl, e5, (nl rfl), (nl rfl)⟩)
  dsimp only [Pt.U, Pt.locs, Pt.cells, Pt.slots] at X9 l9 y9 z9 st9 hQ9
  subst l9 y9 z9
  obtain ⟨b9, kw9, rfl, Nq9, K9, ob9, F09, F19, F29, A9⟩ := hQ9
  have N9 := Fr.app N5 Nq9
  have gb9 : n0 ≤ b9 := Nat.le_trans (Nat.le_trans (Nat.le_trans Z0 (Keep.of_wr W2).1) (Keep.of_wr W5).1) ob9
  refine OD.via st9 ?_
  refine OD.go (B := (T9.setTop (mkF m 22 #[.val (.ref a1)] [(.int 0), (.ref a1)]))) (fun t k => XS.aloadN X9.here hx rfl (bd d4_20) rfl rfl (XS.iconst X9.here hx rfl (bd d4_21) k)) ?_
  have f10 := (f6.keep K9)
  obtain ⟨T11, h11, X11, e11, W11, st11⟩ := putFN X9 hx hZ hown (Wd23 hw) Via.refl rfl F19 f10 (Or.inl (Wd24 hw)) (Wd15 hw) (ty := .boolean) (v' := (.int 0)) (by decide) rfl (by decide) (g := (mkF m 22 #[.val (.ref a1)] [(.int 0), (.ref a1)])) rfl rfl (bd d4_22)
  have Fx11 := F19.same W11
  have N11 := Fr.snoc X11 N9 g1
  refine OD.go (B := (T11.setTop (mkF m 25 #[.val (.ref a1)] []))) st11 ?_
  exact OD.retV X11 hx hlk Bd.returns (bd d4_25) (nl rfl) (nl rfl) ⟨_, _, rfl, N11, by rw [e11]; exact (((((Keep.refl h0 [a1]).wr W2 (Or.inl (List.mem_of_getElem? (i := 0) rfl))).wr W5 (Or.inl (List.mem_of_getElem? (i := 0) rfl))).trans K9 (allS (Or.inl (List.mem_of_getElem? (i := 0) rfl)) all0)).wr W11 (Or.inl (List.mem_of_getElem? (i := 0) rfl))), (Nat.le_trans (Nat.le_trans (Nat.le_trans (Nat.le_refl _) (Keep.of_wr W2).1) (Keep.of_wr W5).1) ob9), by rw [e11]; exact (F09.other W11 (Or.inr (slot_ne (Or.inl (Wd22 hw)) (Or.inl (Wd24 hw)) (by decide) (t := .int) (t' := .boolean) (by decide) (by decide)))), by rw [e11]; exact Fx11, by rw [e11]; exact (F29.other W11 (Or.inr (slot_ne (Or.inl (Wd34 hw)) (Or.inl (Wd24 hw)) (by decide) (t := (.array .long)) (t' := .boolean) (by decide) (by decide)))), by rw [e11]; exact (A9.other W11 (Ne.symm (Nat.ne_of_lt (Nat.lt_of_lt_of_le (Nat.lt_of_lt_of_le (Nat.lt_of_lt_of_le E1.lt (Keep.of_wr W2).1) (Keep.of_wr W5).1) ob9))))⟩
def Q_rmCI (Z : State) (a1 : Addr) (h0 : Heap) (v : Option Value) (h : Heap) (L : List Loc) : Prop := v = none ∧ L = [] ∧ h = h0
set_option maxRecDepth 65536 in
set_option maxHeartbeats 40000000 in
theorem rmCI (l : Launch) (Z : State) (a0 : Array Value) (hw : HW a0 Z) (ws : List Jvm.Cond) (a1 : Addr) (h0 : Heap) (n0 : Nat) (X00 : Old Z n0 h0) (Sad : Sta Z Z.heap "java/util/BitSet" "$assertionsDisabled" "Z" (.int 1)) :
    MetFree l (⟨"java/util/BitSet", "checkInvariants", "()V"⟩ : MethodName) (head1 (Jvm.Cond.code (⟨"java/util/BitSet", "checkInvariants", "()V"⟩ : MethodName) kQ7 1 none :: ws) (rO 0 0 0 0)) (fun a U => a = #[(.ref a1)] ∧ Z.Warmed39 U.vm ∧ U.heap = h0) (fun _ _ _ _ _ => True) (fun _ U o U' => ∃ v L, o = .returned v ∧ Q_rmCI Z a1 h0 v U'.heap L ∧ FrameEnd U o U' L (rO 0 0 0 0).cells (rO 0 0 0 0).slots) := by
  refine MetFree.of_bodySF (plainFor_of_name pn0) hisR ?_
  intro p e s m args below meth c s₁ Bd hml0 hP hK
  obtain ⟨rfl, hZ, hh⟩ := hP
  have hx := Bd.exec
  have hby := Bd.bytes
  have bd : ∀ {pc r}, decode kQ7 pc = r → decode c.code pc = r := fun q => hb hby q
  have hlk : meth.locks = false := Bd.notSynchronized
  have hml : c.maxLocals = 1 := hml0
  have hown : s.vm.findClass "java/util/BitSet" = some m.cls := findClass_of_methodNamed Bd.named
  have hnm := (name_of_methodNamed Bd.named Bd.method).1
  have X0 : Stand p l e (rO 0 0 0 0) s m #[(.ref a1)] below meth c s₁ [] 0 0 := Stand.of_body Bd
  have e0 : s₁.heap = h0 := by rw [← hh, Bd.state]; rfl
  suffices hgo : OD p e s below (Q_rmCI Z a1 h0) (rO 0 0 0 0).cells (rO 0 0 0 0).slots (s₁.setTop (mkF m 0 #[.val (.ref a1)] [])) by
    obtain ⟨s₂, o, hgo1, hgo2⟩ := hgo
    exact ⟨s₂, o, castTop (ef6 m a1) hgo1, hgo2⟩
  have f1 := (Sad.ext X00.2)
  obtain ⟨T2, X2, e2, st2⟩ := getS2 X0 hx hZ hown (host := "") (Or.inl (Wd76 hw)) Via.refl e0 f1 (g := (mkF m 0 #[.val (.ref a1)] [])) rfl (bd d11_0)
  refine OD.go st2 ?_
  refine OD.go (B := (T2.setTop (mkF m 37 #[.val (.ref a1)] []))) (fun t k => XS.ifYes X2.here hx rfl (pc0 := 3) (pc' := 37) rfl (bd d11_3) rfl (by rw [if0]; exact (feq (by decide : ¬ (1 : Int32) = (0 : Int32))).2) (by decide) (by decide) k) ?_
  have f3 := (Sad.ext X00.2)
  obtain ⟨T4, X4, e4, st4⟩ := getS2 X2 hx hZ hown (host := "") (Or.inl (Wd76 hw)) Via.refl e2 f3 (g := (mkF m 37 #[.val (.ref a1)] [])) rfl (bd d11_37)
  refine OD.go st4 ?_
  refine OD.go (B := (T4.setTop (mkF m 70 #[.val (.ref a1)] []))) (fun t k => XS.ifYes X4.here hx rfl (pc0 := 40) (pc' := 70) rfl (bd d11_40) rfl (by rw [if0]; exact (feq (by decide : ¬ (1 : Int32) = (0 : Int32))).2) (by decide) (by decide) k) ?_
  have f5 := (Sad.ext X00.2)
  obtain ⟨T6, X6, e6, st6⟩ := getS2 X4 hx hZ hown (host := "") (Or.inl (Wd76 hw)) Via.refl e4 f5 (g := (mkF m 70 #[.val (.ref a1)] [])) rfl (bd d11_70)
  refine OD.go st6 ?_
  refine OD.go (B := (T6.setTop (mkF m 110 #[.val (.ref a1)] []))) (fun t k => XS.ifYes X6.here hx rfl (pc0 := 73) (pc' := 110) rfl (bd d11_73) rfl (by rw [if0]; exact (feq (by decide : ¬ (1 : Int32) = (0 : Int32))).2) (by decide) (by decide) k) ?_
  exact OD.retV X6 hx hlk Bd.returns (bd d11_110) (nl rfl) (nl rfl) ⟨rfl, rfl, e6⟩
def Q_rmEC (Z : State) (a1 : Addr) (h0 : Heap) (v : Option Value) (h : Heap) (L : List Loc) : Prop := v = none ∧ L = [] ∧ h = h0
set_option maxRecDepth 65536 in
set_option maxHeartbeats 40000000 in
theorem rmEC (l : Launch) (Z : State) (a0 : Array Value) (hw : HW a0 Z) (ws : List Jvm.Cond) (a1 : Addr) (h0 : Heap) (n0 : Nat) (Z0 : n0 ≤ h0.size) (wa : Addr) (X00 : Old Z n0 h0) (Sad : Sta Z Z.heap "java/util/BitSet" "$assertionsDisabled" "Z" (.int 1)) (E1 : Exa Z h0 a1 "java/util/BitSet") (g1 : n0 ≤ a1) (F0 : Fld Z h0 a1 "java/util/BitSet" "wordsInUse" "I" (.int 0)) (F2 : Fld Z h0 a1 "java/util/BitSet" "words" "[J" (.ref wa)) (kw : ClassId) (W : Int64) (A1 : Arv Z h0 wa kw .long (1 : Int32) [(.long W)] (.long (0 : Int64))) (g2 : n0 ≤ wa) (nw : a1 ≠ wa) :
    MetFree l (⟨"java/util/BitSet", "ensureCapacity", "(I)V"⟩ : MethodName) (head1 (Jvm.Cond.code (⟨"java/util/BitSet", "ensureCapacity", "(I)V"⟩ : MethodName) kQ8 3 none :: ws) (rO 0 0 0 0)) (fun a U => a = #[(.ref a1), (.int 1)] ∧ Z.Warmed39 U.vm ∧ U.heap = h0) (fun _ _ _ _ _ => True) (fun _ U o U' => ∃ v L, o = .returned v ∧ Q_rmEC Z a1 h0 v U'.heap L ∧ FrameEnd U o U' L (rO 0 0 0 0).cells (rO 0 0 0 0).slots) := by
  refine MetFree.of_bodySF (plainFor_of_name pn0) hisR ?_
  intro p e s m args below meth c s₁ Bd hml0 hP hK
  obtain ⟨rfl, hZ, hh⟩ := hP
  have hx := Bd.exec
  have hby := Bd.bytes
  have bd : ∀ {pc r}, decode kQ8 pc = r → decode c.code pc = r := fun q => hb hby q
  have hlk : meth.locks = false := Bd.notSynchronized
  have hml : c.maxLocals = 3 := hml0
  have hown : s.vm.findClass "java/util/BitSet" = some m.cls := findClass_of_methodNamed Bd.named
  have hnm := (name_of_methodNamed Bd.named Bd.method).1
  have X0 : Stand p l e (rO 0 0 0 0) s m #[(.ref a1), (.int 1)] below meth c s₁ [] 0 0 := Stand.of_body Bd
  have e0 : s₁.heap = h0 := by rw [← hh, Bd.state]; rfl
  suffices hgo : OD p e s below (Q_rmEC Z a1 h0) (rO 0 0 0 0).cells (rO 0 0 0 0).slots (s₁.setTop (mkF m 0 #[.val (.ref a1), .val (.int 1), .unset] [])) by
    obtain ⟨s₂, o, hgo1, hgo2⟩ := hgo
    exact ⟨s₂, o, castTop (ef7 m a1 (1 : Int32)) hgo1, hgo2⟩
  refine OD.go (B := (s₁.setTop (mkF m 1 #[.val (.ref a1), .val (.int 1), .unset] [(.ref a1)]))) (fun t k => XS.aloadN X0.here hx rfl (bd d10_0) rfl rfl k) ?_
  obtain ⟨T1, X1, e1, st1⟩ := getF X0 hx hZ hown (host := "") (Or.inl (Wd33 hw)) Via.refl e0 F2 (g := (mkF m 1 #[.val (.ref a1), .val (.int 1), .unset] [(.ref a1)])) rfl rfl (bd d10_1)
  refine OD.go (B := (T1.setTop (mkF m 4 #[.val (.ref a1), .val (.int 1), .unset] [(.ref wa)]))) st1 ?_
  obtain ⟨cl2, Ar2, hl2⟩ := own_len A1
  refine OD.go (B := (T1.setTop (mkF m 5 #[.val (.ref a1), .val (.int 1), .unset] [(.int 1)]))) (fun t k => X1.arraylength hx (by rw [e1]; exact Ar2.1) (State.isArrayOf_alike hZ.alike Ar2.2.1) (g := (mkF m 4 #[.val (.ref a1), .val (.int 1), .unset] [(.ref wa)])) rfl rfl (bd d10_4) _ (by rw [hl2]; exact k)) ?_
  refine OD.go (B := (T1.setTop (mkF m 38 #[.val (.ref a1), .val (.int 1), .unset] []))) (fun t k => XS.iloadN X1.here hx rfl (bd d10_5) rfl (XS.icmpYes X1.here hx rfl (pc0 := 6) (pc' := 38) rfl (bd d10_6) rfl (flt (by decide : ¬ (1 : Int32) < (1 : Int32))).2.1 (by decide) (by decide) k)) ?_
  exact OD.retV X1 hx hlk Bd.returns (bd d10_38) (nl rfl) (nl rfl) ⟨rfl, rfl, e1⟩
def Q_rmET0 (Z : State) (a1 : Addr) (h0 : Heap) (n0 : Nat) (wa : Addr) (kw : ClassId) (W : Int64) (v : Option Value) (h : Heap) (L : List Loc) : Prop := v = none ∧ Fr n0 L ∧ Keep h0 h [a1, wa] ∧ Fld Z h a1 "java/util/BitSet" "wordsInUse" "I" (.int 1) ∧ Fld Z h a1 "java/util/BitSet" "words" "[J" (.ref wa) ∧ Arv Z h wa kw .long (1 : Int32) [(.long W)] (.long (0 : Int64))
set_option maxRecDepth 65536 in
set_option maxHeartbeats 40000000 in
theorem rmET0 (l : Launch) (Z : State) (a0 : Array Value) (hw : HW a0 Z) (ws : List Jvm.Cond) (a1 : Addr) (h0 : Heap) (n0 : Nat) (Z0 : n0 ≤ h0.size) (wa : Addr) (X00 : Old Z n0 h0) (Sad : Sta Z Z.heap "java/util/BitSet" "$assertionsDisabled" "Z" (.int 1)) (E1 : Exa Z h0 a1 "java/util/BitSet") (g1 : n0 ≤ a1) (F0 : Fld Z h0 a1 "java/util/BitSet" "wordsInUse" "I" (.int 0)) (F2 : Fld Z h0 a1 "java/util/BitSet" "words" "[J" (.ref wa)) (kw : ClassId) (W : Int64) (A1 : Arv Z h0 wa kw .long (1 : Int32) [(.long W)] (.long (0 : Int64))) (g2 : n0 ≤ wa) (nw : a1 ≠ wa) :
    MetFree l (⟨"java/util/BitSet", "expandTo", "(I)V"⟩ : MethodName) (head1 (Jvm.Cond.code (⟨"java/util/BitSet", "expandTo", "(I)V"⟩ : MethodName) kQ9 3 none :: ws) (rO 1 0 0 14)) (fun a U => a = #[(.ref a1), (.int 0)] ∧ Z.Warmed39 U.vm ∧ U.heap = h0) (fun _ _ _ _ _ => True) (fun _ U o U' => ∃ v L, o = .returned v ∧ Q_rmET0 Z a1 h0 n0 wa kw W v U'.heap L ∧ FrameEnd U o U' L (rO 1 0 0 14).cells (rO 1 0 0 14).slots) := by
  refine MetFree.of_bodySF (plainFor_of_name pn0) hisR ?_
  intro p e s m args below meth c s₁ Bd hml0 hP hK
  obtain ⟨rfl, hZ, hh⟩ := hP
  have hx := Bd.exec
  have hby := Bd.bytes
  have bd : ∀ {pc r}, decode kQ9 pc = r → decode c.code pc = r := fun q => hb hby q
  have hlk : meth.locks = false := Bd.notSynchronized
  have hml : c.maxLocals = 3 := hml0
  have hown : s.vm.findClass "java/util/BitSet" = some m.cls := findClass_of_methodNamed Bd.named
  have hnm := (name_of_methodNamed Bd.named Bd.method).1
  have X0 : Stand p l e (rO 1 0 0 14) s m #[(.ref a1), (.int 0)] below meth c s₁ [] 0 0 := Stand.of_body Bd
  have e0 : s₁.heap = h0 := by rw [← hh, Bd.state]; rfl
  have N0 := Fr.nil n0
  suffices hgo : OD p e s below (Q_rmET0 Z a1 h0 n0 wa kw W) (rO 1 0 0 14).cells (rO 1 0 0 14).slots (s₁.setTop (mkF m 0 #[.val (.ref a1), .val (.int 0), .unset] [])) by
    obtain ⟨s₂, o, hgo1, hgo2⟩ := hgo
    exact ⟨s₂, o, castTop (ef7 m a1 (0 : Int32)) hgo1, hgo2⟩
  refine OD.go (B := (s₁.setTop (mkF m 5 #[.val (.ref a1), .val (.int 0), .val (.int 1)] [(.ref a1)]))) (fun t k => XS.iloadN X0.here hx rfl (bd d9_0) rfl (XS.iconst X0.here hx rfl (bd d9_1) (XS.iadd X0.here hx rfl (bd d9_2) rfl (XS.istoreN X0.here hx rfl (bd d9_3) rfl (l' := #[.val (.ref a1), .val (.int 0), .val (.int 1)]) rfl (XS.aloadN X0.here hx rfl (bd d9_4) rfl rfl k))))) ?_
  obtain ⟨T1, X1, e1, st1⟩ := getF X0 hx hZ hown (host := "") (Or.inl (Wd21 hw)) Via.refl e0 F0 (g := (mkF m 5 #[.val (.ref a1), .val (.int 0), .val (.int 1)] [(.ref a1)])) rfl rfl (bd d9_5)
  refine OD.go st1 ?_
  refine OD.go (B := (T1.setTop (mkF m 14 #[.val (.ref a1), .val (.int 0), .val (.int 1)] [(.int 1), (.ref a1)]))) (fun t k => XS.iloadN X1.here hx rfl (bd d9_8) rfl (XS.icmpNo X1.here hx rfl (bd d9_9) rfl (tlt (by decide : (0 : Int32) < (1 : Int32))).2.1 (XS.aloadN X1.here hx rfl (bd d9_12) rfl rfl (XS.iloadN X1.here hx rfl (bd d9_13) rfl k)))) ?_
  obtain ⟨cq2, qa2, qb2⟩ := E1.cell
  obtain ⟨_, _, ⟨T2, L2, k2, n2⟩, -, X2, ⟨Lc2, hQ2, l2, y2, z2⟩, st2⟩ := X1.privateBack hx (y := (⟨"java/util/BitSet", "ensureCapacity", "(I)V"⟩ : MethodName)) hown (mvT hZ (Wd66 hw)) (mvT hZ (Wd67 hw)) (mvT hZ (Wd69 hw)) (Cond.privateMethod_at (mvP hZ (Wd68 hw) (args := #[]))) (mvT hZ (Wd70 hw)) (by decide) (backOf (W := 0) (rmEC l Z a0 hw [] a1 h0 n0 Z0 wa X00 Sad E1 g1 F0 F2 kw W A1 g2 nw) hZ (Wd70 hw) (Wd16 hw) (by decide) (by decide)) (g := (mkF m 14 #[.val (.ref a1), .val (.int 0), .val (.int 1)] [(.int 1), (.ref a1)])) rfl (by rw [hml]; rfl) (Steps.refl _) (a := a1) (by rw [e1]; exact qa2) qb2 (argsL := [(.int 1)]) (rest := []) (lenOf pd1 rfl) rfl (by show 2 * 0 + _ ≤ _; exact Nat.le_of_eq rfl) (bd d9_14) (fun _ _ => ⟨rfl, e1, (nl rfl), (nl rfl)⟩)
  dsimp only [Pt.U, Pt.locs, Pt.cells, Pt.slots] at X2 l2 y2 z2 st2 hQ2
  subst l2 y2 z2
  obtain ⟨rfl, rfl, e2⟩ := hQ2
  have N2 := Fr.app N0 (Fr.nil _)
  refine OD.via st2 ?_
  refine OD.go (B := (T2.setTop (mkF m 19 #[.val (.ref a1), .val (.int 0), .val (.int 1)] [(.int 1), (.ref a1)]))) (fun t k => XS.aloadN X2.here hx rfl (bd d9_17) rfl rfl (XS.iloadN X2.here hx rfl (bd d9_18) rfl k)) ?_
  obtain ⟨T3, h3, X3, e3, W3, st3⟩ := putF X2 hx hZ hown (host := "") (Or.inl (Wd21 hw)) Via.refl e2 F0 E1 (Or.inl (Wd22 hw)) (Wd15 hw) (ty := .int) (by decide) rfl rfl (g := (mkF m 19 #[.val (.ref a1), .val (.int 0), .val (.int 1)] [(.int 1), (.ref a1)])) rfl rfl (bd d9_19)
  have Fx3 := F0.same W3
  have N3 := Fr.snoc X3 N2 g1
  refine OD.go (B := (T3.setTop (mkF m 22 #[.val (.ref a1), .val (.int 0), .val (.int 1)] []))) st3 ?_
  exact OD.retV X3 hx hlk Bd.returns (bd d9_22) (nl rfl) (nl rfl) ⟨rfl, N3, by rw [e3]; exact ((Keep.refl h0 [a1, wa]).wr W3 (Or.inl (List.mem_of_getElem? (i := 0) rfl))), by rw [e3]; exact Fx3, by rw [e3]; exact (F2.other W3 (Or.inr (slot_ne (Or.inl (Wd34 hw)) (Or.inl (Wd22 hw)) (by decide) (t := (.array .long)) (t' := .int) (by decide) (by decide)))), by rw [e3]; exact (A1.other W3 (Ne.symm nw))⟩
def Q_rmET1 (Z : State) (a1 : Addr) (h0 : Heap) (n0 : Nat) (wa : Addr) (kw : ClassId) (W : Int64) (v : Option Value) (h : Heap) (L : List Loc) : Prop := v = none ∧ Fr n0 L ∧ Keep h0 h [a1, wa] ∧ Fld Z h a1 "java/util/BitSet" "wordsInUse" "I" (.int 1) ∧ Fld Z h a1 "java/util/BitSet" "words" "[J" (.ref wa) ∧ Arv Z h wa kw .long (1 : Int32) [(.long W)] (.long (0 : Int64))
set_option maxRecDepth 65536 in
set_option maxHeartbeats 40000000 in
theorem rmET1 (l : Launch) (Z : State) (a0 : Array Value) (hw : HW a0 Z) (ws : List Jvm.Cond) (a1 : Addr) (h0 : Heap) (n0 : Nat) (Z0 : n0 ≤ h0.size) (wa : Addr) (X00 : Old Z n0 h0) (Sad : Sta Z Z.heap "java/util/BitSet" "$assertionsDisabled" "Z" (.int 1)) (E1 : Exa Z h0 a1 "java/util/BitSet") (g1 : n0 ≤ a1) (F0 : Fld Z h0 a1 "java/util/BitSet" "wordsInUse" "I" (.int 1)) (F2 : Fld Z h0 a1 "java/util/BitSet" "words" "[J" (.ref wa)) (kw : ClassId) (W : Int64) (A1 : Arv Z h0 wa kw .long (1 : Int32) [(.long W)] (.long (0 : Int64))) (g2 : n0 ≤ wa) (nw : a1 ≠ wa) :
    MetFree l (⟨"java/util/BitSet", "expandTo", "(I)V"⟩ : MethodName) (head1 (Jvm.Cond.code (⟨"java/util/BitSet", "expandTo", "(I)V"⟩ : MethodName) kQ9 3 none :: ws) (rO 1 0 0 14)) (fun a U => a = #[(.ref a1), (.int 0)] ∧ Z.Warmed39 U.vm ∧ U.heap = h0) (fun _ _ _ _ _ => True) (fun _ U o U' => ∃ v L, o = .returned v ∧ Q_rmET1 Z a1 h0 n0 wa kw W v U'.heap L ∧ FrameEnd U o U' L (rO 1 0 0 14).cells (rO 1 0 0 14).slots) := by
  refine MetFree.of_bodySF (plainFor_of_name pn0) hisR ?_
  intro p e s m args below meth c s₁ Bd hml0 hP hK
  obtain ⟨rfl, hZ, hh⟩ := hP
  have hx := Bd.exec
  have hby := Bd.bytes
  have bd : ∀ {pc r}, decode kQ9 pc = r → decode c.code pc = r := fun q => hb hby q
  have hlk : meth.locks = false := Bd.notSynchronized
  have hml : c.maxLocals = 3 := hml0
  have hown : s.vm.findClass "java/util/BitSet" = some m.cls := findClass_of_methodNamed Bd.named
  have hnm := (name_of_methodNamed Bd.named Bd.method).1
  have X0 : Stand p l e (rO 1 0 0 14) s m #[(.ref a1), (.int 0)] below meth c s₁ [] 0 0 := Stand.of_body Bd
  have e0 : s₁.heap = h0 := by rw [← hh, Bd.state]; rfl
  have N0 := Fr.nil n0
  suffices hgo : OD p e s below (Q_rmET1 Z a1 h0 n0 wa kw W) (rO 1 0 0 14).cells (rO 1 0 0 14).slots (s₁.setTop (mkF m 0 #[.val (.ref a1), .val (.int 0), .unset] [])) by
    obtain ⟨s₂, o, hgo1, hgo2⟩ := hgo
    exact ⟨s₂, o, castTop (ef7 m a1 (0 : Int32)) hgo1, hgo2⟩
  refine OD.go (B := (s₁.setTop (mkF m 5 #[.val (.ref a1), .val (.int 0), .val (.int 1)] [(.ref a1)]))) (fun t k => XS.iloadN X0.here hx rfl (bd d9_0) rfl (XS.iconst X0.here hx rfl (bd d9_1) (XS.iadd X0.here hx rfl (bd d9_2) rfl (XS.istoreN X0.here hx rfl (bd d9_3) rfl (l' := #[.val (.ref a1), .val (.int 0), .val (.int 1)]) rfl (XS.aloadN X0.here hx rfl (bd d9_4) rfl rfl k))))) ?_
  obtain ⟨T1, X1, e1, st1⟩ := getF X0 hx hZ hown (host := "") (Or.inl (Wd21 hw)) Via.refl e0 F0 (g := (mkF m 5 #[.val (.ref a1), .val (.int 0), .val (.int 1)] [(.ref a1)])) rfl rfl (bd d9_5)
  refine OD.go st1 ?_
  refine OD.go (B := (T1.setTop (mkF m 22 #[.val (.ref a1), .val (.int 0), .val (.int 1)] []))) (fun t k => XS.iloadN X1.here hx rfl (bd d9_8) rfl (XS.icmpYes X1.here hx rfl (pc0 := 9) (pc' := 22) rfl (bd d9_9) rfl (flt (by decide : ¬ (1 : Int32) < (1 : Int32))).2.1 (by decide) (by decide) k)) ?_
  exact OD.retV X1 hx hlk Bd.returns (bd d9_22) (nl rfl) (nl rfl) ⟨rfl, N0, by rw [e1]; exact (Keep.refl h0 [a1, wa]), by rw [e1]; exact F0, by rw [e1]; exact F2, by rw [e1]; exact A1⟩
def Q_rmST0 (Z : State) (a1 : Addr) (d : Int32) (h0 : Heap) (n0 : Nat) (wa : Addr) (kw : ClassId) (W : Int64) (v : Option Value) (h : Heap) (L : List Loc) : Prop := v = none ∧ Fr n0 L ∧ Keep h0 h [a1, wa] ∧ Fld Z h a1 "java/util/BitSet" "wordsInUse" "I" (.int 1) ∧ Fld Z h a1 "java/util/BitSet" "words" "[J" (.ref wa) ∧ Arv Z h wa kw .long (1 : Int32) [(.long (W ||| own_bit d))] (.long (0 : Int64))
set_option maxRecDepth 65536 in
set_option maxHeartbeats 40000000 in
theorem rmST0 (l : Launch) (Z : State) (a0 : Array Value) (hw : HW a0 Z) (ws : List Jvm.Cond) (a1 : Addr) (d : Int32) (h0 : Heap) (n0 : Nat) (Z0 : n0 ≤ h0.size) (wa : Addr) (X00 : Old Z n0 h0) (Sad : Sta Z Z.heap "java/util/BitSet" "$assertionsDisabled" "Z" (.int 1)) (E1 : Exa Z h0 a1 "java/util/BitSet") (g1 : n0 ≤ a1) (F0 : Fld Z h0 a1 "java/util/BitSet" "wordsInUse" "I" (.int 0)) (F2 : Fld Z h0 a1 "java/util/BitSet" "words" "[J" (.ref wa)) (kw : ClassId) (W : Int64) (A1 : Arv Z h0 wa kw .long (1 : Int32) [(.long W)] (.long (0 : Int64))) (g2 : n0 ≤ wa) (nw : a1 ≠ wa) (hsm : own_sm d) :
    MetFree l (⟨"java/util/BitSet", "set", "(I)V"⟩ : MethodName) (head1 (Jvm.Cond.code (⟨"java/util/BitSet", "set", "(I)V"⟩ : MethodName) kQ10 3 none :: ws) (rO 2 0 0 28)) (fun a U => a = #[(.ref a1), (.int d)] ∧ Z.Warmed39 U.vm ∧ U.heap = h0) (fun _ _ _ _ _ => True) (fun _ U o U' => ∃ v L, o = .returned v ∧ Q_rmST0 Z a1 d h0 n0 wa kw W v U'.heap L ∧ FrameEnd U o U' L (rO 2 0 0 28).cells (rO 2 0 0 28).slots) := by
  refine MetFree.of_bodySF (plainFor_of_name pn0) hisR ?_
  intro p e s m args below meth c s₁ Bd hml0 hP hK
  obtain ⟨rfl, hZ, hh⟩ := hP
  have hx := Bd.exec
  have hby := Bd.bytes
  have bd : ∀ {pc r}, decode kQ10 pc = r → decode c.code pc = r := fun q => hb hby q
  have hlk : meth.locks = false := Bd.notSynchronized
  have hml : c.maxLocals = 3 := hml0
  have hown : s.vm.findClass "java/util/BitSet" = some m.cls := findClass_of_methodNamed Bd.named
  have hnm := (name_of_methodNamed Bd.named Bd.method).1
  have X0 : Stand p l e (rO 2 0 0 28) s m #[(.ref a1), (.int d)] below meth c s₁ [] 0 0 := Stand.of_body Bd
  have e0 : s₁.heap = h0 := by rw [← hh, Bd.state]; rfl
  have N0 := Fr.nil n0
  suffices hgo : OD p e s below (Q_rmST0 Z a1 d h0 n0 wa kw W) (rO 2 0 0 28).cells (rO 2 0 0 28).slots (s₁.setTop (mkF m 0 #[.val (.ref a1), .val (.int d), .unset] [])) by
    obtain ⟨s₂, o, hgo1, hgo2⟩ := hgo
    exact ⟨s₂, o, castTop (ef7 m a1 d) hgo1, hgo2⟩
  refine OD.go (B := (s₁.setTop (mkF m 32 #[.val (.ref a1), .val (.int d), .unset] [(.int d)]))) (fun t k => XS.iloadN X0.here hx rfl (bd d8_0) rfl (XS.ifYes X0.here hx rfl (pc0 := 1) (pc' := 31) rfl (bd d8_1) rfl (by rw [if0]; exact (flt (own_sm0 hsm)).2.1) (by decide) (by decide) (XS.iloadN X0.here hx rfl (bd d8_31) rfl k))) ?_
  obtain ⟨_, _, ⟨T1, L1, k1, n1⟩, -, X1, ⟨Lc1, hQ1, l1, y1, z1⟩, st1⟩ := Jvm.LawKit.callS X0 hx (y := (⟨"java/util/BitSet", "wordIndex", "(I)I"⟩ : MethodName)) hown (mvT hZ (Wd30 hw)) (mvT hZ (Wd31 hw)) (mvT hZ (Wd16 hw)) (mvT hZ (Wd32 hw)) (by decide) (backOf (W := 0) (rmWI l Z a0 hw [] d h0 (own_sm6 hsm)) hZ (Wd32 hw) (Wd16 hw) (by decide) (by decide)) (g := (mkF m 32 #[.val (.ref a1), .val (.int d), .unset] [(.int d)])) rfl (by rw [hml]; rfl) (argsL := [(.int d)]) (rest := []) (lenOf pd0 rfl) rfl (by show 2 * 0 + _ ≤ _; exact Nat.le_of_eq rfl) (bd d8_32) (fun _ _ => ⟨rfl, e0, (nl rfl), (nl rfl)⟩)
  dsimp only [Pt.U, Pt.locs, Pt.cells, Pt.slots] at X1 l1 y1 z1 st1 hQ1
  subst l1 y1 z1
  obtain ⟨rfl, rfl, e1⟩ := hQ1
  have N1 := Fr.app N0 (Fr.nil _)
  refine OD.go st1 ?_
  refine OD.go (B := (T1.setTop (mkF m 38 #[.val (.ref a1), .val (.int d), .val (.int 0)] [(.int 0), (.ref a1)]))) (fun t k => XS.istoreN X1.here hx rfl (bd d8_35) rfl (l' := #[.val (.ref a1), .val (.int d), .val (.int 0)]) rfl (XS.aloadN X1.here hx rfl (bd d8_36) rfl rfl (XS.iloadN X1.here hx rfl (bd d8_37) rfl k))) ?_
  obtain ⟨cq2, qa2, qb2⟩ := E1.cell
  obtain ⟨_, _, ⟨T2, L2, k2, n2⟩, -, X2, ⟨Lc2, hQ2, l2, y2, z2⟩, st2⟩ := X1.privateBack hx (y := (⟨"java/util/BitSet", "expandTo", "(I)V"⟩ : MethodName)) hown (mvT hZ (Wd61 hw)) (mvT hZ (Wd62 hw)) (mvT hZ (Wd64 hw)) (Cond.privateMethod_at (mvP hZ (Wd63 hw) (args := #[]))) (mvT hZ (Wd65 hw)) (by decide) (backOf (W := 0) (rmET0 l Z a0 hw [] a1 h0 n0 Z0 wa X00 Sad E1 g1 F0 F2 kw W A1 g2 nw) hZ (Wd65 hw) (Wd16 hw) (by decide) (by decide)) (g := (mkF m 38 #[.val (.ref a1), .val (.int d), .val (.int 0)] [(.int 0), (.ref a1)])) rfl (by rw [hml]; rfl) (Steps.refl _) (a := a1) (by rw [e1]; exact qa2) qb2 (argsL := [(.int 0)]) (rest := []) (lenOf pd1 rfl) rfl (by show 2 * 0 + _ ≤ _; exact Nat.le_of_eq rfl) (bd d8_38) (fun _ _ => ⟨rfl, e1, (nl rfl), (nl rfl)⟩)
  dsimp only [Pt.U, Pt.locs, Pt.cells, Pt.slots] at X2 l2 y2 z2 st2 hQ2
  subst l2 y2 z2
  obtain ⟨rfl, Nq2, K2, U2, P2, A2⟩ := hQ2
  have N2 := Fr.app N1 Nq2
  refine OD.via st2 ?_
  refine OD.go (B := (T2.setTop (mkF m 42 #[.val (.ref a1), .val (.int d), .val (.int 0)] [(.ref a1)]))) (fun t k => XS.aloadN X2.here hx rfl (bd d8_41) rfl rfl k) ?_
  obtain ⟨T3, X3, e3, st3⟩ := getF X2 hx hZ hown (host := "") (Or.inl (Wd33 hw)) Via.refl rfl P2 (g := (mkF m 42 #[.val (.ref a1), .val (.int d), .val (.int 0)] [(.ref a1)])) rfl rfl (bd d8_42)
  refine OD.go st3 ?_
  refine OD.go (B := (T3.setTop (mkF m 47 #[.val (.ref a1), .val (.int d), .val (.int 0)] [(.int 0), (.ref wa), (.int 0), (.ref wa)]))) (fun t k => XS.iloadN X3.here hx rfl (bd d8_45) rfl (XT.dup2 X3.here hx rfl (bd d8_46) rfl rfl rfl k)) ?_
  obtain ⟨cl4, Ar4, hi4, ha4⟩ := own_at A2 (j := (0 : Int32)) (v := (.long W)) ⟨by decide, by decide⟩ rfl
  refine OD.go (B := (T3.setTop (mkF m 52 #[.val (.ref a1), .val (.int d), .val (.int 0)] [(.long (W ||| ((1 : Int64) <<< (d &&& 0x3f).toInt64))), (.int 0), (.ref wa)]))) (fun t k => X3.laload hx (j := (0 : Int32)) (v := (.long W)) (by rw [e3]; exact Ar4.1) (State.isArrayOf_alike hZ.alike Ar4.2.1) Ar4.2.2 hi4 ha4 (g := (mkF m 47 #[.val (.ref a1), .val (.int d), .val (.int 0)] [(.int 0), (.ref wa), (.int 0), (.ref wa)])) rfl rfl (bd d8_47) _ (XS.lconst X3.here hx rfl (bd d8_48) (XS.iloadN X3.here hx rfl (bd d8_49) rfl (XS.lshl X3.here hx rfl (bd d8_50) rfl (XS.lor X3.here hx rfl (bd d8_51) rfl k))))) ?_
  obtain ⟨cl5, Ar5, q5, S5, M5, H5, G5⟩ := id A2
  obtain ⟨T5, h5, X5, e5, W5, st5⟩ := stJ X3 hx hZ e3 Ar5 (j := (0 : Int32)) (inb_of S5 ⟨by decide, by decide⟩) (g := (mkF m 52 #[.val (.ref a1), .val (.int d), .val (.int 0)] [(.long (W ||| ((1 : Int64) <<< (d &&& 0x3f).toInt64))), (.int 0), (.ref wa)])) rfl rfl (bd d8_52)
  have V5 : Arv Z h5 wa kw .long (1 : Int32) [(.long (W ||| ((1 : Int64) <<< (d &&& 0x3f).toInt64)))] (.long (0 : Int64)) := Arv.set Ar5 q5 S5 M5 H5 G5 rfl W5 0 rfl (nl rfl)
  have N5 := Fr.snoc X5 N2 g2
  refine OD.go st5 ?_
  refine OD.go (B := (T5.setTop (mkF m 54 #[.val (.ref a1), .val (.int d), .val (.int 0)] [(.ref a1)]))) (fun t k => XS.aloadN X5.here hx rfl (bd d8_53) rfl rfl k) ?_
  have f6 := ((E1.keep K2).wr W5)
  obtain ⟨cq7, qa7, qb7⟩ := f6.cell
  obtain ⟨_, _, ⟨T7, L7, k7, n7⟩, -, X7, ⟨Lc7, hQ7, l7, y7, z7⟩, st7⟩ := X5.privateBack hx (y := (⟨"java/util/BitSet", "checkInvariants", "()V"⟩ : MethodName)) hown (mvT hZ (Wd71 hw)) (mvT hZ (Wd72 hw)) (mvT hZ (Wd74 hw)) (Cond.privateMethod_at (mvP hZ (Wd73 hw) (args := #[]))) (mvT hZ (Wd75 hw)) (by decide) (backOf (W := 0) (rmCI l Z a0 hw [] a1 h5 n0 ((X00.keep K2 (allS g1 (allS g2 all0))).wr W5 g2) Sad) hZ (Wd75 hw) (Wd16 hw) (by decide) (by decide)) (g := (mkF m 54 #[.val (.ref a1), .val (.int d), .val (.int 0)] [(.ref a1)])) rfl (by rw [hml]; rfl) (Steps.refl _) (a := a1) (by rw [e5]; exact qa7) qb7 (argsL := []) (rest := []) (lenOf pd2 rfl) rfl (by show 2 * 0 + _ ≤ _; exact Nat.le_of_eq rfl) (bd d8_54) (fun _ _ => ⟨rfl, e5, (nl rfl), (nl rfl)⟩)
  dsimp only [Pt.U, Pt.locs, Pt.cells, Pt.slots] at X7 l7 y7 z7 st7 hQ7
  subst l7 y7 z7
  obtain ⟨rfl, rfl, e7⟩ := hQ7
  have N7 := Fr.app N5 (Fr.nil _)
  refine OD.via (B := (T7.setTop (mkF m 57 #[.val (.ref a1), .val (.int d), .val (.int 0)] []))) st7 ?_
  exact OD.retV X7 hx hlk Bd.returns (bd d8_57) (nl rfl) (nl rfl) ⟨rfl, N7, by rw [e7]; exact (((Keep.refl h0 [a1, wa]).trans K2 (allS (Or.inl (List.mem_of_getElem? (i := 0) rfl)) (allS (Or.inl (List.mem_of_getElem? (i := 1) rfl)) all0))).wr W5 (Or.inl (List.mem_of_getElem? (i := 1) rfl))), by rw [e7]; exact (U2.other W5 (Or.inl nw)), by rw [e7]; exact (P2.other W5 (Or.inl nw)), by rw [e7]; exact V5⟩
def Q_rmST1 (Z : State) (a1 : Addr) (d : Int32) (h0 : Heap) (n0 : Nat) (wa : Addr) (kw : ClassId) (W : Int64) (v : Option Value) (h : Heap) (L : List Loc) : Prop := v = none ∧ Fr n0 L ∧ Keep h0 h [a1, wa] ∧ Fld Z h a1 "java/util/BitSet" "wordsInUse" "I" (.int 1) ∧ Fld Z h a1 "java/util/BitSet" "words" "[J" (.ref wa) ∧ Arv Z h wa kw .long (1 : Int32) [(.long (W ||| own_bit d))] (.long (0 : Int64))
set_option maxRecDepth 65536 in
set_option maxHeartbeats 40000000 in
theorem rmST1 (l : Launch) (Z : State) (a0 : Array Value) (hw : HW a0 Z) (ws : List Jvm.Cond) (a1 : Addr) (d : Int32) (h0 : Heap) (n0 : Nat) (Z0 : n0 ≤ h0.size) (wa : Addr) (X00 : Old Z n0 h0) (Sad : Sta Z Z.heap "java/util/BitSet" "$assertionsDisabled" "Z" (.int 1)) (E1 : Exa Z h0 a1 "java/util/BitSet") (g1 : n0 ≤ a1) (F0 : Fld Z h0 a1 "java/util/BitSet" "wordsInUse" "I" (.int 1)) (F2 : Fld Z h0 a1 "java/util/BitSet" "words" "[J" (.ref wa)) (kw : ClassId) (W : Int64) (A1 : Arv Z h0 wa kw .long (1 : Int32) [(.long W)] (.long (0 : Int64))) (g2 : n0 ≤ wa) (nw : a1 ≠ wa) (hsm : own_sm d) :
    MetFree l (⟨"java/util/BitSet", "set", "(I)V"⟩ : MethodName) (head1 (Jvm.Cond.code (⟨"java/util/BitSet", "set", "(I)V"⟩ : MethodName) kQ10 3 none :: ws) (rO 2 0 0 28)) (fun a U => a = #[(.ref a1), (.int d)] ∧ Z.Warmed39 U.vm ∧ U.heap = h0) (fun _ _ _ _ _ => True) (fun _ U o U' => ∃ v L, o = .returned v ∧ Q_rmST1 Z a1 d h0 n0 wa kw W v U'.heap L ∧ FrameEnd U o U' L (rO 2 0 0 28).cells (rO 2 0 0 28).slots) := by
  refine MetFree.of_bodySF (plainFor_of_name pn0) hisR ?_
  intro p e s m args below meth c s₁ Bd hml0 hP hK
  obtain ⟨rfl, hZ, hh⟩ := hP
  have hx := Bd.exec
  have hby := Bd.bytes
  have bd : ∀ {pc r}, decode kQ10 pc = r → decode c.code pc = r := fun q => hb hby q
  have hlk : meth.locks = false := Bd.notSynchronized
  have hml : c.maxLocals = 3 := hml0
  have hown : s.vm.findClass "java/util/BitSet" = some m.cls := findClass_of_methodNamed Bd.named
  have hnm := (name_of_methodNamed Bd.named Bd.method).1
  have X0 : Stand p l e (rO 2 0 0 28) s m #[(.ref a1), (.int d)] below meth c s₁ [] 0 0 := Stand.of_body Bd
  have e0 : s₁.heap = h0 := by rw [← hh, Bd.state]; rfl
  have N0 := Fr.nil n0
  suffices hgo : OD p e s below (Q_rmST1 Z a1 d h0 n0 wa kw W) (rO 2 0 0 28).cells (rO 2 0 0 28).slots (s₁.setTop (mkF m 0 #[.val (.ref a1), .val (.int d), .unset] [])) by
    obtain ⟨s₂, o, hgo1, hgo2⟩ := hgo
    exact ⟨s₂, o, castTop (ef7 m a1 d) hgo1, hgo2⟩
  refine OD.go (B := (s₁.setTop (mkF m 32 #[.val (.ref a1), .val (.int d), .unset] [(.int d)]))) (fun t k => XS.iloadN X0.here hx rfl (bd d8_0) rfl (XS.ifYes X0.here hx rfl (pc0 := 1) (pc' := 31) rfl (bd d8_1) rfl (by rw [if0]; exact (flt (own_sm0 hsm)).2.1) (by decide) (by decide) (XS.iloadN X0.here hx rfl (bd d8_31) rfl k))) ?_
  obtain ⟨_, _, ⟨T1, L1, k1, n1⟩, -, X1, ⟨Lc1, hQ1, l1, y1, z1⟩, st1⟩ := Jvm.LawKit.callS X0 hx (y := (⟨"java/util/BitSet", "wordIndex", "(I)I"⟩ : MethodName)) hown (mvT hZ (Wd30 hw)) (mvT hZ (Wd31 hw)) (mvT hZ (Wd16 hw)) (mvT hZ (Wd32 hw)) (by decide) (backOf (W := 0) (rmWI l Z a0 hw [] d h0 (own_sm6 hsm)) hZ (Wd32 hw) (Wd16 hw) (by decide) (by decide)) (g := (mkF m 32 #[.val (.ref a1), .val (.int d), .unset] [(.int d)])) rfl (by rw [hml]; rfl) (argsL := [(.int d)]) (rest := []) (lenOf pd0 rfl) rfl (by show 2 * 0 + _ ≤ _; exact Nat.le_of_eq rfl) (bd d8_32) (fun _ _ => ⟨rfl, e0, (nl rfl), (nl rfl)⟩)
  dsimp only [Pt.U, Pt.locs, Pt.cells, Pt.slots] at X1 l1 y1 z1 st1 hQ1
  subst l1 y1 z1
  obtain ⟨rfl, rfl, e1⟩ := hQ1
  have N1 := Fr.app N0 (Fr.nil _)
  refine OD.go st1 ?_
  refine OD.go (B := (T1.setTop (mkF m 38 #[.val (.ref a1), .val (.int d), .val (.int 0)] [(.int 0), (.ref a1)]))) (fun t k => XS.istoreN X1.here hx rfl (bd d8_35) rfl (l' := #[.val (.ref a1), .val (.int d), .val (.int 0)]) rfl (XS.aloadN X1.here hx rfl (bd d8_36) rfl rfl (XS.iloadN X1.here hx rfl (bd d8_37) rfl k))) ?_
  obtain ⟨cq2, qa2, qb2⟩ := E1.cell
  obtain ⟨_, _, ⟨T2, L2, k2, n2⟩, -, X2, ⟨Lc2, hQ2, l2, y2, z2⟩, st2⟩ := X1.privateBack hx (y := (⟨"java/util/BitSet", "expandTo", "(I)V"⟩ : MethodName)) hown (mvT hZ (Wd61 hw)) (mvT hZ (Wd62 hw)) (mvT hZ (Wd64 hw)) (Cond.privateMethod_at (mvP hZ (Wd63 hw) (args := #[]))) (mvT hZ (Wd65 hw)) (by decide) (backOf (W := 0) (rmET1 l Z a0 hw [] a1 h0 n0 Z0 wa X00 Sad E1 g1 F0 F2 kw W A1 g2 nw) hZ (Wd65 hw) (Wd16 hw) (by decide) (by decide)) (g := (mkF m 38 #[.val (.ref a1), .val (.int d), .val (.int 0)] [(.int 0), (.ref a1)])) rfl (by rw [hml]; rfl) (Steps.refl _) (a := a1) (by rw [e1]; exact qa2) qb2 (argsL := [(.int 0)]) (rest := []) (lenOf pd1 rfl) rfl (by show 2 * 0 + _ ≤ _; exact Nat.le_of_eq rfl) (bd d8_38) (fun _ _ => ⟨rfl, e1, (nl rfl), (nl rfl)⟩)
  dsimp only [Pt.U, Pt.locs, Pt.cells, Pt.slots] at X2 l2 y2 z2 st2 hQ2
  subst l2 y2 z2
  obtain ⟨rfl, Nq2, K2, U2, P2, A2⟩ := hQ2
  have N2 := Fr.app N1 Nq2
  refine OD.via st2 ?_
  refine OD.go (B := (T2.setTop (mkF m 42 #[.val (.ref a1), .val (.int d), .val (.int 0)] [(.ref a1)]))) (fun t k => XS.aloadN X2.here hx rfl (bd d8_41) rfl rfl k) ?_
  obtain ⟨T3, X3, e3, st3⟩ := getF X2 hx hZ hown (host := "") (Or.inl (Wd33 hw)) Via.refl rfl P2 (g := (mkF m 42 #[.val (.ref a1), .val (.int d), .val (.int 0)] [(.ref a1)])) rfl rfl (bd d8_42)
  refine OD.go st3 ?_
  refine OD.go (B := (T3.setTop (mkF m 47 #[.val (.ref a1), .val (.int d), .val (.int 0)] [(.int 0), (.ref wa), (.int 0), (.ref wa)]))) (fun t k => XS.iloadN X3.here hx rfl (bd d8_45) rfl (XT.dup2 X3.here hx rfl (bd d8_46) rfl rfl rfl k)) ?_
  obtain ⟨cl4, Ar4, hi4, ha4⟩ := own_at A2 (j := (0 : Int32)) (v := (.long W)) ⟨by decide, by decide⟩ rfl
  refine OD.go (B := (T3.setTop (mkF m 52 #[.val (.ref a1), .val (.int d), .val (.int 0)] [(.long (W ||| ((1 : Int64) <<< (d &&& 0x3f).toInt64))), (.int 0), (.ref wa)]))) (fun t k => X3.laload hx (j := (0 : Int32)) (v := (.long W)) (by rw [e3]; exact Ar4.1) (State.isArrayOf_alike hZ.alike Ar4.2.1) Ar4.2.2 hi4 ha4 (g := (mkF m 47 #[.val (.ref a1), .val (.int d), .val (.int 0)] [(.int 0), (.ref wa), (.int 0), (.ref wa)])) rfl rfl (bd d8_47) _ (XS.lconst X3.here hx rfl (bd d8_48) (XS.iloadN X3.here hx rfl (bd d8_49) rfl (XS.lshl X3.here hx rfl (bd d8_50) rfl (XS.lor X3.here hx rfl (bd d8_51) rfl k))))) ?_
  obtain ⟨cl5, Ar5, q5, S5, M5, H5, G5⟩ := id A2
  obtain ⟨T5, h5, X5, e5, W5, st5⟩ := stJ X3 hx hZ e3 Ar5 (j := (0 : Int32)) (inb_of S5 ⟨by decide, by decide⟩) (g := (mkF m 52 #[.val (.ref a1), .val (.int d), .val (.int 0)] [(.long (W ||| ((1 : Int64) <<< (d &&& 0x3f).toInt64))), (.int 0), (.ref wa)])) rfl rfl (bd d8_52)
  have V5 : Arv Z h5 wa kw .long (1 : Int32) [(.long (W ||| ((1 : Int64) <<< (d &&& 0x3f).toInt64)))] (.long (0 : Int64)) := Arv.set Ar5 q5 S5 M5 H5 G5 rfl W5 0 rfl (nl rfl)
  have N5 := Fr.snoc X5 N2 g2
  refine OD.go st5 ?_
  refine OD.go (B := (T5.setTop (mkF m 54 #[.val (.ref a1), .val (.int d), .val (.int 0)] [(.ref a1)]))) (fun t k => XS.aloadN X5.here hx rfl (bd d8_53) rfl rfl k) ?_
  have f6 := ((E1.keep K2).wr W5)
  obtain ⟨cq7, qa7, qb7⟩ := f6.cell
  obtain ⟨_, _, ⟨T7, L7, k7, n7⟩, -, X7, ⟨Lc7, hQ7, l7, y7, z7⟩, st7⟩ := X5.privateBack hx (y := (⟨"java/util/BitSet", "checkInvariants", "()V"⟩ : MethodName)) hown (mvT hZ (Wd71 hw)) (mvT hZ (Wd72 hw)) (mvT hZ (Wd74 hw)) (Cond.privateMethod_at (mvP hZ (Wd73 hw) (args := #[]))) (mvT hZ (Wd75 hw)) (by decide) (backOf (W := 0) (rmCI l Z a0 hw [] a1 h5 n0 ((X00.keep K2 (allS g1 (allS g2 all0))).wr W5 g2) Sad) hZ (Wd75 hw) (Wd16 hw) (by decide) (by decide)) (g := (mkF m 54 #[.val (.ref a1), .val (.int d), .val (.int 0)] [(.ref a1)])) rfl (by rw [hml]; rfl) (Steps.refl _) (a := a1) (by rw [e5]; exact qa7) qb7 (argsL := []) (rest := []) (lenOf pd2 rfl) rfl (by show 2 * 0 + _ ≤ _; exact Nat.le_of_eq rfl) (bd d8_54) (fun _ _ => ⟨rfl, e5, (nl rfl), (nl rfl)⟩)
  dsimp only [Pt.U, Pt.locs, Pt.cells, Pt.slots] at X7 l7 y7 z7 st7 hQ7
  subst l7 y7 z7
  obtain ⟨rfl, rfl, e7⟩ := hQ7
  have N7 := Fr.app N5 (Fr.nil _)
  refine OD.via (B := (T7.setTop (mkF m 57 #[.val (.ref a1), .val (.int d), .val (.int 0)] []))) st7 ?_
  exact OD.retV X7 hx hlk Bd.returns (bd d8_57) (nl rfl) (nl rfl) ⟨rfl, N7, by rw [e7]; exact (((Keep.refl h0 [a1, wa]).trans K2 (allS (Or.inl (List.mem_of_getElem? (i := 0) rfl)) (allS (Or.inl (List.mem_of_getElem? (i := 1) rfl)) all0))).wr W5 (Or.inl (List.mem_of_getElem? (i := 1) rfl))), by rw [e7]; exact (U2.other W5 (Or.inl nw)), by rw [e7]; exact (P2.other W5 (Or.inl nw)), by rw [e7]; exact V5⟩
def Q_rmCD (Z : State) (a1 : Addr) (h0 : Heap) (W : Int64) (v : Option Value) (h : Heap) (L : List Loc) : Prop := v = some (.int ((0 : Int32) + own_bc W)) ∧ L = [] ∧ h = h0
set_option maxRecDepth 65536 in
set_option maxHeartbeats 40000000 in
theorem rmCD (l : Launch) (Z : State) (a0 : Array Value) (hw : HW a0 Z) (ws : List Jvm.Cond) (a1 : Addr) (h0 : Heap) (n0 : Nat) (Z0 : n0 ≤ h0.size) (wa : Addr) (X00 : Old Z n0 h0) (Sad : Sta Z Z.heap "java/util/BitSet" "$assertionsDisabled" "Z" (.int 1)) (E1 : Exa Z h0 a1 "java/util/BitSet") (g1 : n0 ≤ a1) (F0 : Fld Z h0 a1 "java/util/BitSet" "wordsInUse" "I" (.int 1)) (F2 : Fld Z h0 a1 "java/util/BitSet" "words" "[J" (.ref wa)) (kw : ClassId) (W : Int64) (A1 : Arv Z h0 wa kw .long (1 : Int32) [(.long W)] (.long (0 : Int64))) (g2 : n0 ≤ wa) (nw : a1 ≠ wa) :
    MetFree l (⟨"java/util/BitSet", "cardinality", "()I"⟩ : MethodName) (head1 (Jvm.Cond.code (⟨"java/util/BitSet", "cardinality", "()I"⟩ : MethodName) kQ11 3 (some .int) :: ws) (rO 1 0 0 14)) (fun a U => a = #[(.ref a1)] ∧ Z.Warmed39 U.vm ∧ U.heap = h0) (fun _ _ _ _ _ => True) (fun _ U o U' => ∃ v L, o = .returned v ∧ Q_rmCD Z a1 h0 W v U'.heap L ∧ FrameEnd U o U' L (rO 1 0 0 14).cells (rO 1 0 0 14).slots) := by
  refine MetFree.of_bodySF (plainFor_of_name pn0) hisR ?_
  intro p e s m args below meth c s₁ Bd hml0 hP hK
  obtain ⟨rfl, hZ, hh⟩ := hP
  have hx := Bd.exec
  have hby := Bd.bytes
  have bd : ∀ {pc r}, decode kQ11 pc = r → decode c.code pc = r := fun q => hb hby q
  have hlk : meth.locks = false := Bd.notSynchronized
  have hml : c.maxLocals = 3 := hml0
  have hown : s.vm.findClass "java/util/BitSet" = some m.cls := findClass_of_methodNamed Bd.named
  have hnm := (name_of_methodNamed Bd.named Bd.method).1
  have X0 : Stand p l e (rO 1 0 0 14) s m #[(.ref a1)] below meth c s₁ [] 0 0 := Stand.of_body Bd
  have e0 : s₁.heap = h0 := by rw [← hh, Bd.state]; rfl
  suffices hgo : OD p e s below (Q_rmCD Z a1 h0 W) (rO 1 0 0 14).cells (rO 1 0 0 14).slots (s₁.setTop (mkF m 0 #[.val (.ref a1), .unset, .unset] [])) by
    obtain ⟨s₂, o, hgo1, hgo2⟩ := hgo
    exact ⟨s₂, o, castTop (ef8 m a1) hgo1, hgo2⟩
  refine OD.go (B := (s₁.setTop (mkF m 6 #[.val (.ref a1), .val (.int 0), .val (.int 0)] [(.ref a1), (.int 0)]))) (fun t k => XS.iconst X0.here hx rfl (bd d12_0) (XS.istoreN X0.here hx rfl (bd d12_1) rfl (l' := #[.val (.ref a1), .val (.int 0), .unset]) rfl (XS.iconst X0.here hx rfl (bd d12_2) (XS.istoreN X0.here hx rfl (bd d12_3) rfl (l' := #[.val (.ref a1), .val (.int 0), .val (.int 0)]) rfl (XS.iloadN X0.here hx rfl (bd d12_4) rfl (XS.aloadN X0.here hx rfl (bd d12_5) rfl rfl k)))))) ?_
  obtain ⟨T1, X1, e1, st1⟩ := getF X0 hx hZ hown (host := "") (Or.inl (Wd21 hw)) Via.refl e0 F0 (g := (mkF m 6 #[.val (.ref a1), .val (.int 0), .val (.int 0)] [(.ref a1), (.int 0)])) rfl rfl (bd d12_6)
  refine OD.go st1 ?_
  refine OD.go (B := (T1.setTop (mkF m 14 #[.val (.ref a1), .val (.int 0), .val (.int 0)] [(.ref a1), (.int 0)]))) (fun t k => XS.icmpNo X1.here hx rfl (bd d12_9) rfl (tlt (by decide : (0 : Int32) < (1 : Int32))).2.1 (XS.iloadN X1.here hx rfl (bd d12_12) rfl (XS.aloadN X1.here hx rfl (bd d12_13) rfl rfl k))) ?_
  obtain ⟨T2, X2, e2, st2⟩ := getF X1 hx hZ hown (host := "") (Or.inl (Wd33 hw)) Via.refl e1 F2 (g := (mkF m 14 #[.val (.ref a1), .val (.int 0), .val (.int 0)] [(.ref a1), (.int 0)])) rfl rfl (bd d12_14)
  refine OD.go st2 ?_
  refine OD.go (B := (T2.setTop (mkF m 18 #[.val (.ref a1), .val (.int 0), .val (.int 0)] [(.int 0), (.ref wa), (.int 0)]))) (fun t k => XS.iloadN X2.here hx rfl (bd d12_17) rfl k) ?_
  obtain ⟨cl3, Ar3, hi3, ha3⟩ := own_at A1 (j := (0 : Int32)) (v := (.long W)) ⟨by decide, by decide⟩ rfl
  refine OD.go (B := (T2.setTop (mkF m 19 #[.val (.ref a1), .val (.int 0), .val (.int 0)] [(.long W), (.int 0)]))) (fun t k => X2.laload hx (j := (0 : Int32)) (v := (.long W)) (by rw [e2]; exact Ar3.1) (State.isArrayOf_alike hZ.alike Ar3.2.1) Ar3.2.2 hi3 ha3 (g := (mkF m 18 #[.val (.ref a1), .val (.int 0), .val (.int 0)] [(.int 0), (.ref wa), (.int 0)])) rfl rfl (bd d12_18) _ k) ?_
  obtain ⟨_, _, ⟨T4, L4, k4, n4⟩, -, X4, ⟨Lc4, hQ4, l4, y4, z4⟩, st4⟩ := Jvm.LawKit.callS X2 hx (y := (⟨"java/lang/Long", "bitCount", "(J)I"⟩ : MethodName)) hown (mvT hZ (Wd82 hw)) (mvT hZ (Wd83 hw)) (mvT hZ (Wd84 hw)) (mvT hZ (Wd85 hw)) (by decide) (backOf (W := 1) (rmBC l Z a0 hw [] W h0) hZ (Wd85 hw) (Wd84 hw) (by decide) (by decide)) (g := (mkF m 19 #[.val (.ref a1), .val (.int 0), .val (.int 0)] [(.long W), (.int 0)])) rfl (by rw [hml]; rfl) (argsL := [(.long W)]) (rest := [(.int 0)]) (lenOf pd3 rfl) rfl (by show 2 * 0 + _ ≤ _; exact Nat.le_of_eq rfl) (bd d12_19) (fun _ _ => ⟨rfl, e2, (nl rfl), (nl rfl)⟩)
  dsimp only [Pt.U, Pt.locs, Pt.cells, Pt.slots] at X4 l4 y4 z4 st4 hQ4
  subst l4 y4 z4
  obtain ⟨rfl, rfl, e4⟩ := hQ4
  refine OD.go st4 ?_
  refine OD.go (B := (T4.setTop (mkF m 6 #[.val (.ref a1), .val (.int ((0 : Int32) + (own_bc W))), .val (.int 1)] [(.ref a1), (.int 1)]))) (fun t k => XS.iadd X4.here hx rfl (bd d12_22) rfl (XS.istoreN X4.here hx rfl (bd d12_23) rfl (l' := #[.val (.ref a1), .val (.int ((0 : Int32) + (own_bc W))), .val (.int 0)]) rfl (XS.iinc X4.here hx rfl (bd d12_24) rfl (l' := #[.val (.ref a1), .val (.int ((0 : Int32) + (own_bc W))), .val (.int 1)]) rfl (XS.goto X4.here hx rfl (pc0 := 27) (pc' := 4) rfl (bd d12_27) (by decide) (by decide) (XS.iloadN X4.here hx rfl (bd d12_4) rfl (XS.aloadN X4.here hx rfl (bd d12_5) rfl rfl k)))))) ?_
  obtain ⟨T5, X5, e5, st5⟩ := getF X4 hx hZ hown (host := "") (Or.inl (Wd21 hw)) Via.refl e4 F0 (g := (mkF m 6 #[.val (.ref a1), .val (.int ((0 : Int32) + (own_bc W))), .val (.int 1)] [(.ref a1), (.int 1)])) rfl rfl (bd d12_6)
  refine OD.go st5 ?_
  refine OD.go (B := (T5.setTop (mkF m 31 #[.val (.ref a1), .val (.int ((0 : Int32) + (own_bc W))), .val (.int 1)] [(.int ((0 : Int32) + (own_bc W)))]))) (fun t k => XS.icmpYes X5.here hx rfl (pc0 := 9) (pc' := 30) rfl (bd d12_9) rfl (flt (by decide : ¬ (1 : Int32) < (1 : Int32))).2.1 (by decide) (by decide) (XS.iloadN X5.here hx rfl (bd d12_30) rfl k)) ?_
  exact OD.ret X5 hx hlk (t := .int) Bd.returns rfl (Or.inl ⟨rfl, Or.inl rfl, _, rfl⟩) (bd d12_31) (nl rfl) (nl rfl) ⟨rfl, rfl, e5⟩
def Q_rmGT0 (Z : State) (a1 : Addr) (d : Int32) (h0 : Heap) (v : Option Value) (h : Heap) (L : List Loc) : Prop := v = some (.int 0) ∧ L = [] ∧ h = h0
set_option maxRecDepth 65536 in
set_option maxHeartbeats 40000000 in
theorem rmGT0 (l : Launch) (Z : State) (a0 : Array Value) (hw : HW a0 Z) (ws : List Jvm.Cond) (a1 : Addr) (d : Int32) (h0 : Heap) (n0 : Nat) (Z0 : n0 ≤ h0.size) (wa : Addr) (X00 : Old Z n0 h0) (Sad : Sta Z Z.heap "java/util/BitSet" "$assertionsDisabled" "Z" (.int 1)) (E1 : Exa Z h0 a1 "java/util/BitSet") (g1 : n0 ≤ a1) (F0 : Fld Z h0 a1 "java/util/BitSet" "wordsInUse" "I" (.int 0)) (F2 : Fld Z h0 a1 "java/util/BitSet" "words" "[J" (.ref wa)) (kw : ClassId) (W : Int64) (A1 : Arv Z h0 wa kw .long (1 : Int32) [(.long W)] (.long (0 : Int64))) (g2 : n0 ≤ wa) (nw : a1 ≠ wa) (hsm : own_sm d) :
    MetFree l (⟨"java/util/BitSet", "get", "(I)Z"⟩ : MethodName) (head1 (Jvm.Cond.code (⟨"java/util/BitSet", "get", "(I)Z"⟩ : MethodName) kQ12 3 (some .boolean) :: ws) (rO 1 0 0 13)) (fun a U => a = #[(.ref a1), (.int d)] ∧ Z.Warmed39 U.vm ∧ U.heap = h0) (fun _ _ _ _ _ => True) (fun _ U o U' => ∃ v L, o = .returned v ∧ Q_rmGT0 Z a1 d h0 v U'.heap L ∧ FrameEnd U o U' L (rO 1 0 0 13).cells (rO 1 0 0 13).slots) := by
  refine MetFree.of_bodySF (plainFor_of_name pn0) hisR ?_
  intro p e s m args below meth c s₁ Bd hml0 hP hK
  obtain ⟨rfl, hZ, hh⟩ := hP
  have hx := Bd.exec
  have hby := Bd.bytes
  have bd : ∀ {pc r}, decode kQ12 pc = r → decode c.code pc = r := fun q => hb hby q
  have hlk : meth.locks = false := Bd.notSynchronized
  have hml : c.maxLocals = 3 := hml0
  have hown : s.vm.findClass "java/util/BitSet" = some m.cls := findClass_of_methodNamed Bd.named
  have hnm := (name_of_methodNamed Bd.named Bd.method).1
  have X0 : Stand p l e (rO 1 0 0 13) s m #[(.ref a1), (.int d)] below meth c s₁ [] 0 0 := Stand.of_body Bd
  have e0 : s₁.heap = h0 := by rw [← hh, Bd.state]; rfl
  suffices hgo : OD p e s below (Q_rmGT0 Z a1 d h0) (rO 1 0 0 13).cells (rO 1 0 0 13).slots (s₁.setTop (mkF m 0 #[.val (.ref a1), .val (.int d), .unset] [])) by
    obtain ⟨s₂, o, hgo1, hgo2⟩ := hgo
    exact ⟨s₂, o, castTop (ef7 m a1 d) hgo1, hgo2⟩
  refine OD.go (B := (s₁.setTop (mkF m 32 #[.val (.ref a1), .val (.int d), .unset] [(.ref a1)]))) (fun t k => XS.iloadN X0.here hx rfl (bd d22_0) rfl (XS.ifYes X0.here hx rfl (pc0 := 1) (pc' := 31) rfl (bd d22_1) rfl (by rw [if0]; exact (flt (own_sm0 hsm)).2.1) (by decide) (by decide) (XS.aloadN X0.here hx rfl (bd d22_31) rfl rfl k))) ?_
  obtain ⟨cq1, qa1, qb1⟩ := E1.cell
  obtain ⟨_, _, ⟨T1, L1, k1, n1⟩, -, X1, ⟨Lc1, hQ1, l1, y1, z1⟩, st1⟩ := X0.privateBack hx (y := (⟨"java/util/BitSet", "checkInvariants", "()V"⟩ : MethodName)) hown (mvT hZ (Wd71 hw)) (mvT hZ (Wd72 hw)) (mvT hZ (Wd74 hw)) (Cond.privateMethod_at (mvP hZ (Wd73 hw) (args := #[]))) (mvT hZ (Wd75 hw)) (by decide) (backOf (W := 0) (rmCI l Z a0 hw [] a1 h0 n0 X00 Sad) hZ (Wd75 hw) (Wd16 hw) (by decide) (by decide)) (g := (mkF m 32 #[.val (.ref a1), .val (.int d), .unset] [(.ref a1)])) rfl (by rw [hml]; rfl) (Steps.refl _) (a := a1) (by rw [e0]; exact qa1) qb1 (argsL := []) (rest := []) (lenOf pd2 rfl) rfl (by show 2 * 0 + _ ≤ _; exact Nat.le_of_eq rfl) (bd d22_32) (fun _ _ => ⟨rfl, e0, (nl rfl), (nl rfl)⟩)
  dsimp only [Pt.U, Pt.locs, Pt.cells, Pt.slots] at X1 l1 y1 z1 st1 hQ1
  subst l1 y1 z1
  obtain ⟨rfl, rfl, e1⟩ := hQ1
  refine OD.via st1 ?_
  refine OD.go (B := (T1.setTop (mkF m 36 #[.val (.ref a1), .val (.int d), .unset] [(.int d)]))) (fun t k => XS.iloadN X1.here hx rfl (bd d22_35) rfl k) ?_
  obtain ⟨_, _, ⟨T2, L2, k2, n2⟩, -, X2, ⟨Lc2, hQ2, l2, y2, z2⟩, st2⟩ := Jvm.LawKit.callS X1 hx (y := (⟨"java/util/BitSet", "wordIndex", "(I)I"⟩ : MethodName)) hown (mvT hZ (Wd30 hw)) (mvT hZ (Wd31 hw)) (mvT hZ (Wd16 hw)) (mvT hZ (Wd32 hw)) (by decide) (backOf (W := 0) (rmWI l Z a0 hw [] d h0 (own_sm6 hsm)) hZ (Wd32 hw) (Wd16 hw) (by decide) (by decide)) (g := (mkF m 36 #[.val (.ref a1), .val (.int d), .unset] [(.int d)])) rfl (by rw [hml]; rfl) (argsL := [(.int d)]) (rest := []) (lenOf pd0 rfl) rfl (by show 2 * 0 + _ ≤ _; exact Nat.le_of_eq rfl) (bd d22_36) (fun _ _ => ⟨rfl, e1, (nl rfl), (nl rfl)⟩)
  dsimp only [Pt.U, Pt.locs, Pt.cells, Pt.slots] at X2 l2 y2 z2 st2 hQ2
  subst l2 y2 z2
  obtain ⟨rfl, rfl, e2⟩ := hQ2
  refine OD.go st2 ?_
  refine OD.go (B := (T2.setTop (mkF m 42 #[.val (.ref a1), .val (.int d), .val (.int 0)] [(.ref a1), (.int 0)]))) (fun t k => XS.istoreN X2.here hx rfl (bd d22_39) rfl (l' := #[.val (.ref a1), .val (.int d), .val (.int 0)]) rfl (XS.iloadN X2.here hx rfl (bd d22_40) rfl (XS.aloadN X2.here hx rfl (bd d22_41) rfl rfl k))) ?_
  obtain ⟨T3, X3, e3, st3⟩ := getF X2 hx hZ hown (host := "") (Or.inl (Wd21 hw)) Via.refl e2 F0 (g := (mkF m 42 #[.val (.ref a1), .val (.int d), .val (.int 0)] [(.ref a1), (.int 0)])) rfl rfl (bd d22_42)
  refine OD.go st3 ?_
  refine OD.go (B := (T3.setTop (mkF m 68 #[.val (.ref a1), .val (.int d), .val (.int 0)] [(.int 0)]))) (fun t k => XS.icmpYes X3.here hx rfl (pc0 := 45) (pc' := 67) rfl (bd d22_45) rfl (flt (by decide : ¬ (0 : Int32) < (0 : Int32))).2.1 (by decide) (by decide) (XS.iconst X3.here hx rfl (bd d22_67) k)) ?_
  exact OD.ret X3 hx hlk (t := .boolean) Bd.returns rfl (Or.inl ⟨rfl, Or.inr (Or.inl rfl), _, rfl⟩) (bd d22_68) (nl rfl) (nl rfl) ⟨rfl, rfl, e3⟩
def Q_rmGT1 (Z : State) (a1 : Addr) (d : Int32) (h0 : Heap) (W : Int64) (v : Option Value) (h : Heap) (L : List Loc) : Prop := v = some (.int (own_get W d)) ∧ L = [] ∧ h = h0
set_option maxRecDepth 65536 in
set_option maxHeartbeats 40000000 in
theorem rmGT1 (l : Launch) (Z : State) (a0 : Array Value) (hw : HW a0 Z) (ws : List Jvm.Cond) (a1 : Addr) (d : Int32) (h0 : Heap) (n0 : Nat) (Z0 : n0 ≤ h0.size) (wa : Addr) (X00 : Old Z n0 h0) (Sad : Sta Z Z.heap "java/util/BitSet" "$assertionsDisabled" "Z" (.int 1)) (E1 : Exa Z h0 a1 "java/util/BitSet") (g1 : n0 ≤ a1) (F0 : Fld Z h0 a1 "java/util/BitSet" "wordsInUse" "I" (.int 1)) (F2 : Fld Z h0 a1 "java/util/BitSet" "words" "[J" (.ref wa)) (kw : ClassId) (W : Int64) (A1 : Arv Z h0 wa kw .long (1 : Int32) [(.long W)] (.long (0 : Int64))) (g2 : n0 ≤ wa) (nw : a1 ≠ wa) (hsm : own_sm d) :
    MetFree l (⟨"java/util/BitSet", "get", "(I)Z"⟩ : MethodName) (head1 (Jvm.Cond.code (⟨"java/util/BitSet", "get", "(I)Z"⟩ : MethodName) kQ12 3 (some .boolean) :: ws) (rO 1 0 0 13)) (fun a U => a = #[(.ref a1), (.int d)] ∧ Z.Warmed39 U.vm ∧ U.heap = h0) (fun _ _ _ _ _ => True) (fun _ U o U' => ∃ v L, o = .returned v ∧ Q_rmGT1 Z a1 d h0 W v U'.heap L ∧ FrameEnd U o U' L (rO 1 0 0 13).cells (rO 1 0 0 13).slots) := by
  refine MetFree.of_bodySF (plainFor_of_name pn0) hisR ?_
  intro p e s m args below meth c s₁ Bd hml0 hP hK
  obtain ⟨rfl, hZ, hh⟩ := hP
  have hx := Bd.exec
  have hby := Bd.bytes
  have bd : ∀ {pc r}, decode kQ12 pc = r → decode c.code pc = r := fun q => hb hby q
  have hlk : meth.locks = false := Bd.notSynchronized
  have hml : c.maxLocals = 3 := hml0
  have hown : s.vm.findClass "java/util/BitSet" = some m.cls := findClass_of_methodNamed Bd.named
  have hnm := (name_of_methodNamed Bd.named Bd.method).1
  have X0 : Stand p l e (rO 1 0 0 13) s m #[(.ref a1), (.int d)] below meth c s₁ [] 0 0 := Stand.of_body Bd
  have e0 : s₁.heap = h0 := by rw [← hh, Bd.state]; rfl
  suffices hgo : OD p e s below (Q_rmGT1 Z a1 d h0 W) (rO 1 0 0 13).cells (rO 1 0 0 13).slots (s₁.setTop (mkF m 0 #[.val (.ref a1), .val (.int d), .unset] [])) by
    obtain ⟨s₂, o, hgo1, hgo2⟩ := hgo
    exact ⟨s₂, o, castTop (ef7 m a1 d) hgo1, hgo2⟩
  refine OD.go (B := (s₁.setTop (mkF m 32 #[.val (.ref a1), .val (.int d), .unset] [(.ref a1)]))) (fun t k => XS.iloadN X0.here hx rfl (bd d22_0) rfl (XS.ifYes X0.here hx rfl (pc0 := 1) (pc' := 31) rfl (bd d22_1) rfl (by rw [if0]; exact (flt (own_sm0 hsm)).2.1) (by decide) (by decide) (XS.aloadN X0.here hx rfl (bd d22_31) rfl rfl k))) ?_
  obtain ⟨cq1, qa1, qb1⟩ := E1.cell
  obtain ⟨_, _, ⟨T1, L1, k1, n1⟩, -, X1, ⟨Lc1, hQ1, l1, y1, z1⟩, st1⟩ := X0.privateBack hx (y := (⟨"java/util/BitSet", "checkInvariants", "()V"⟩ : MethodName)) hown (mvT hZ (Wd71 hw)) (mvT hZ (Wd72 hw)) (mvT hZ (Wd74 hw)) (Cond.privateMethod_at (mvP hZ (Wd73 hw) (args := #[]))) (mvT hZ (Wd75 hw)) (by decide) (backOf (W := 0) (rmCI l Z a0 hw [] a1 h0 n0 X00 Sad) hZ (Wd75 hw) (Wd16 hw) (by decide) (by decide)) (g := (mkF m 32 #[.val (.ref a1), .val (.int d), .unset] [(.ref a1)])) rfl (by rw [hml]; rfl) (Steps.refl _) (a := a1) (by rw [e0]; exact qa1) qb1 (argsL := []) (rest := []) (lenOf pd2 rfl) rfl (by show 2 * 0 + _ ≤ _; exact Nat.le_of_eq rfl) (bd d22_32) (fun _ _ => ⟨rfl, e0, (nl rfl), (nl rfl)⟩)
  dsimp only [Pt.U, Pt.locs, Pt.cells, Pt.slots] at X1 l1 y1 z1 st1 hQ1
  subst l1 y1 z1
  obtain ⟨rfl, rfl, e1⟩ := hQ1
  refine OD.via st1 ?_
  refine OD.go (B := (T1.setTop (mkF m 36 #[.val (.ref a1), .val (.int d), .unset] [(.int d)]))) (fun t k => XS.iloadN X1.here hx rfl (bd d22_35) rfl k) ?_
  obtain ⟨_, _, ⟨T2, L2, k2, n2⟩, -, X2, ⟨Lc2, hQ2, l2, y2, z2⟩, st2⟩ := Jvm.LawKit.callS X1 hx (y := (⟨"java/util/BitSet", "wordIndex", "(I)I"⟩ : MethodName)) hown (mvT hZ (Wd30 hw)) (mvT hZ (Wd31 hw)) (mvT hZ (Wd16 hw)) (mvT hZ (Wd32 hw)) (by decide) (backOf (W := 0) (rmWI l Z a0 hw [] d h0 (own_sm6 hsm)) hZ (Wd32 hw) (Wd16 hw) (by decide) (by decide)) (g := (mkF m 36 #[.val (.ref a1), .val (.int d), .unset] [(.int d)])) rfl (by rw [hml]; rfl) (argsL := [(.int d)]) (rest := []) (lenOf pd0 rfl) rfl (by show 2 * 0 + _ ≤ _; exact Nat.le_of_eq rfl) (bd d22_36) (fun _ _ => ⟨rfl, e1, (nl rfl), (nl rfl)⟩)
  dsimp only [Pt.U, Pt.locs, Pt.cells, Pt.slots] at X2 l2 y2 z2 st2 hQ2
  subst l2 y2 z2
  obtain ⟨rfl, rfl, e2⟩ := hQ2
  refine OD.go st2 ?_
  refine OD.go (B := (T2.setTop (mkF m 42 #[.val (.ref a1), .val (.int d), .val (.int 0)] [(.ref a1), (.int 0)]))) (fun t k => XS.istoreN X2.here hx rfl (bd d22_39) rfl (l' := #[.val (.ref a1), .val (.int d), .val (.int 0)]) rfl (XS.iloadN X2.here hx rfl (bd d22_40) rfl (XS.aloadN X2.here hx rfl (bd d22_41) rfl rfl k))) ?_
  obtain ⟨T3, X3, e3, st3⟩ := getF X2 hx hZ hown (host := "") (Or.inl (Wd21 hw)) Via.refl e2 F0 (g := (mkF m 42 #[.val (.ref a1), .val (.int d), .val (.int 0)] [(.ref a1), (.int 0)])) rfl rfl (bd d22_42)
  refine OD.go st3 ?_
  refine OD.go (B := (T3.setTop (mkF m 49 #[.val (.ref a1), .val (.int d), .val (.int 0)] [(.ref a1)]))) (fun t k => XS.icmpNo X3.here hx rfl (bd d22_45) rfl (tlt (by decide : (0 : Int32) < (1 : Int32))).2.1 (XS.aloadN X3.here hx rfl (bd d22_48) rfl rfl k)) ?_
  obtain ⟨T4, X4, e4, st4⟩ := getF X3 hx hZ hown (host := "") (Or.inl (Wd33 hw)) Via.refl e3 F2 (g := (mkF m 49 #[.val (.ref a1), .val (.int d), .val (.int 0)] [(.ref a1)])) rfl rfl (bd d22_49)
  refine OD.go st4 ?_
  refine OD.go (B := (T4.setTop (mkF m 53 #[.val (.ref a1), .val (.int d), .val (.int 0)] [(.int 0), (.ref wa)]))) (fun t k => XS.iloadN X4.here hx rfl (bd d22_52) rfl k) ?_
  obtain ⟨cl5, Ar5, hi5, ha5⟩ := own_at A1 (j := (0 : Int32)) (v := (.long W)) ⟨by decide, by decide⟩ rfl
  refine OD.go (B := (T4.setTop (mkF m 60 #[.val (.ref a1), .val (.int d), .val (.int 0)] [(.int (lcmpW (W &&& ((1 : Int64) <<< (d &&& 0x3f).toInt64)) (0 : Int64)))]))) (fun t k => X4.laload hx (j := (0 : Int32)) (v := (.long W)) (by rw [e4]; exact Ar5.1) (State.isArrayOf_alike hZ.alike Ar5.2.1) Ar5.2.2 hi5 ha5 (g := (mkF m 53 #[.val (.ref a1), .val (.int d), .val (.int 0)] [(.int 0), (.ref wa)])) rfl rfl (bd d22_53) _ (XS.lconst X4.here hx rfl (bd d22_54) (XS.iloadN X4.here hx rfl (bd d22_55) rfl (XS.lshl X4.here hx rfl (bd d22_56) rfl (XS.land X4.here hx rfl (bd d22_57) rfl (XS.lconst X4.here hx rfl (bd d22_58) (XS.lcmp X4.here hx rfl (bd d22_59) rfl k))))))) ?_
  obtain ⟨v68_6, hv68_6⟩ : ∃ z : Int32, z = (if (lcmpW (W &&& ((1 : Int64) <<< (d &&& 0x3f).toInt64)) (0 : Int64)) = (0 : Int32) then (0 : Int32) else (1 : Int32)) := ⟨_, rfl⟩
  refine OD.cut (B := (T4.setTop (mkF m 68 #[.val (.ref a1), .val (.int d), .val (.int 0)] [(.int v68_6)]))) (fun J68_7 => ?_) ?_
  · skip
    by_cases c60_8 : (lcmpW (W &&& ((1 : Int64) <<< (d &&& 0x3f).toInt64)) (0 : Int64)) = (0 : Int32)
    · refine OD.go (B := (T4.setTop (mkF m 68 #[.val (.ref a1), .val (.int d), .val (.int 0)] [(.int 0)]))) (fun t k => XS.ifYes X4.here hx rfl (pc0 := 60) (pc' := 67) rfl (bd d22_60) rfl (by rw [if0]; exact (teq c60_8).1) (by decide) (by decide) (XS.iconst X4.here hx rfl (bd d22_67) k)) ?_
      rw [if_pos c60_8] at hv68_6
      rw [hv68_6] at J68_7
      exact J68_7
    · refine OD.go (B := (T4.setTop (mkF m 68 #[.val (.ref a1), .val (.int d), .val (.int 0)] [(.int 1)]))) (fun t k => XS.ifNo X4.here hx rfl (bd d22_60) rfl (by rw [if0]; exact (feq c60_8).1) (XS.iconst X4.here hx rfl (bd d22_63) (XS.goto X4.here hx rfl (pc0 := 64) (pc' := 68) rfl (bd d22_64) (by decide) (by decide) k))) ?_
      rw [if_neg c60_8] at hv68_6
      rw [hv68_6] at J68_7
      exact J68_7
  have fin : v68_6 = own_get W d := hv68_6
  rw [fin]
  exact OD.ret X4 hx hlk (t := .boolean) Bd.returns (own_get_nar _ _) (Or.inl ⟨rfl, Or.inr (Or.inl rfl), _, rfl⟩) (bd d22_68) (nl rfl) (nl rfl) ⟨rfl, rfl, e4⟩
def Q_rmRC (Z : State) (a1 : Addr) (h0 : Heap) (n0 : Nat) (wa : Addr) (W : Int64) (v : Option Value) (h : Heap) (L : List Loc) : Prop := ∃ u : Int32, own_wu u W ∧ v = none ∧ Fr n0 L ∧ Keep h0 h [a1] ∧ Fld Z h a1 "java/util/BitSet" "wordsInUse" "I" (.int u) ∧ Fld Z h a1 "java/util/BitSet" "words" "[J" (.ref wa)
set_option maxRecDepth 65536 in
set_option maxHeartbeats 40000000 in
theorem rmRC (l : Launch) (Z : State) (a0 : Array Value) (hw : HW a0 Z) (ws : List Jvm.Cond) (a1 : Addr) (h0 : Heap) (n0 : Nat) (Z0 : n0 ≤ h0.size) (wa : Addr) (X00 : Old Z n0 h0) (Sad : Sta Z Z.heap "java/util/BitSet" "$assertionsDisabled" "Z" (.int 1)) (E1 : Exa Z h0 a1 "java/util/BitSet") (g1 : n0 ≤ a1) (F0 : Fld Z h0 a1 "java/util/BitSet" "wordsInUse" "I" (.int 1)) (F2 : Fld Z h0 a1 "java/util/BitSet" "words" "[J" (.ref wa)) (kw : ClassId) (W : Int64) (A1 : Arv Z h0 wa kw .long (1 : Int32) [(.long W)] (.long (0 : Int64))) (g2 : n0 ≤ wa) (nw : a1 ≠ wa) :
    MetFree l (⟨"java/util/BitSet", "recalculateWordsInUse", "()V"⟩ : MethodName) (head1 (Jvm.Cond.code (⟨"java/util/BitSet", "recalculateWordsInUse", "()V"⟩ : MethodName) kQ13 2 none :: ws) (rO 0 0 0 0)) (fun a U => a = #[(.ref a1)] ∧ Z.Warmed39 U.vm ∧ U.heap = h0) (fun _ _ _ _ _ => True) (fun _ U o U' => ∃ v L, o = .returned v ∧ Q_rmRC Z a1 h0 n0 wa W v U'.heap L ∧ FrameEnd U o U' L (rO 0 0 0 0).cells (rO 0 0 0 0).slots) := by
  refine MetFree.of_bodySF (plainFor_of_name pn0) hisR ?_
  intro p e s m args below meth c s₁ Bd hml0 hP hK
  obtain ⟨rfl, hZ, hh⟩ := hP
  have hx := Bd.exec
  have hby := Bd.bytes
  have bd : ∀ {pc r}, decode kQ13 pc = r → decode c.code pc = r := fun q => hb hby q
  have hlk : meth.locks = false := Bd.notSynchronized
  have hml : c.maxLocals = 2 := hml0
  have hown : s.vm.findClass "java/util/BitSet" = some m.cls := findClass_of_methodNamed Bd.named
  have hnm := (name_of_methodNamed Bd.named Bd.method).1
  have X0 : Stand p l e (rO 0 0 0 0) s m #[(.ref a1)] below meth c s₁ [] 0 0 := Stand.of_body Bd
  have e0 : s₁.heap = h0 := by rw [← hh, Bd.state]; rfl
  have N0 := Fr.nil n0
  suffices hgo : OD p e s below (Q_rmRC Z a1 h0 n0 wa W) (rO 0 0 0 0).cells (rO 0 0 0 0).slots (s₁.setTop (mkF m 0 #[.val (.ref a1), .unset] [])) by
    obtain ⟨s₂, o, hgo1, hgo2⟩ := hgo
    exact ⟨s₂, o, castTop (ef9 m a1) hgo1, hgo2⟩
  refine OD.go (B := (s₁.setTop (mkF m 1 #[.val (.ref a1), .unset] [(.ref a1)]))) (fun t k => XS.aloadN X0.here hx rfl (bd d24_0) rfl rfl k) ?_
  obtain ⟨T1, X1, e1, st1⟩ := getF X0 hx hZ hown (host := "") (Or.inl (Wd21 hw)) Via.refl e0 F0 (g := (mkF m 1 #[.val (.ref a1), .unset] [(.ref a1)])) rfl rfl (bd d24_1)
  refine OD.go st1 ?_
  refine OD.go (B := (T1.setTop (mkF m 12 #[.val (.ref a1), .val (.int 0)] [(.ref a1)]))) (fun t k => XS.iconst X1.here hx rfl (bd d24_4) (XS.isub X1.here hx rfl (bd d24_5) rfl (XS.istoreN X1.here hx rfl (bd d24_6) rfl (l' := #[.val (.ref a1), .val (.int 0)]) rfl (XS.iloadN X1.here hx rfl (bd d24_7) rfl (XS.ifNo X1.here hx rfl (bd d24_8) rfl (by rw [if0]; exact (flt (by decide : ¬ (0 : Int32) < (0 : Int32))).1) (XS.aloadN X1.here hx rfl (bd d24_11) rfl rfl k)))))) ?_
  obtain ⟨T2, X2, e2, st2⟩ := getF X1 hx hZ hown (host := "") (Or.inl (Wd33 hw)) Via.refl e1 F2 (g := (mkF m 12 #[.val (.ref a1), .val (.int 0)] [(.ref a1)])) rfl rfl (bd d24_12)
  refine OD.go st2 ?_
  refine OD.go (B := (T2.setTop (mkF m 16 #[.val (.ref a1), .val (.int 0)] [(.int 0), (.ref wa)]))) (fun t k => XS.iloadN X2.here hx rfl (bd d24_15) rfl k) ?_
  obtain ⟨cl3, Ar3, hi3, ha3⟩ := own_at A1 (j := (0 : Int32)) (v := (.long W)) ⟨by decide, by decide⟩ rfl
  refine OD.go (B := (T2.setTop (mkF m 19 #[.val (.ref a1), .val (.int 0)] [(.int (lcmpW W (0 : Int64)))]))) (fun t k => X2.laload hx (j := (0 : Int32)) (v := (.long W)) (by rw [e2]; exact Ar3.1) (State.isArrayOf_alike hZ.alike Ar3.2.1) Ar3.2.2 hi3 ha3 (g := (mkF m 16 #[.val (.ref a1), .val (.int 0)] [(.int 0), (.ref wa)])) rfl rfl (bd d24_16) _ (XS.lconst X2.here hx rfl (bd d24_17) (XS.lcmp X2.here hx rfl (bd d24_18) rfl k))) ?_
  by_cases c19_4 : (lcmpW W (0 : Int64)) = (0 : Int32)
  · refine OD.go (B := (T2.setTop (mkF m 35 #[.val (.ref a1), .val (.int (-1 : Int32))] [(.int 0), (.ref a1)]))) (fun t k => XS.ifYes X2.here hx rfl (pc0 := 19) (pc' := 25) rfl (bd d24_19) rfl (by rw [if0]; exact (teq c19_4).1) (by decide) (by decide) (XS.iinc X2.here hx rfl (bd d24_25) rfl (l' := #[.val (.ref a1), .val (.int (-1 : Int32))]) rfl (XS.goto X2.here hx rfl (pc0 := 28) (pc' := 7) rfl (bd d24_28) (by decide) (by decide) (XS.iloadN X2.here hx rfl (bd d24_7) rfl (XS.ifYes X2.here hx rfl (pc0 := 8) (pc' := 31) rfl (bd d24_8) rfl (by rw [if0]; exact (tlt (by decide : (-1 : Int32) < (0 : Int32))).1) (by decide) (by decide) (XS.aloadN X2.here hx rfl (bd d24_31) rfl rfl (XS.iloadN X2.here hx rfl (bd d24_32) rfl (XS.iconst X2.here hx rfl (bd d24_33) (XS.iadd X2.here hx rfl (bd d24_34) rfl k))))))))) ?_
    obtain ⟨T5, h5, X5, e5, W5, st5⟩ := putF X2 hx hZ hown (host := "") (Or.inl (Wd21 hw)) Via.refl e2 F0 E1 (Or.inl (Wd22 hw)) (Wd15 hw) (ty := .int) (by decide) rfl rfl (g := (mkF m 35 #[.val (.ref a1), .val (.int (-1 : Int32))] [(.int 0), (.ref a1)])) rfl rfl (bd d24_35)
    have Fx5 := F0.same W5
    have N5 := Fr.snoc X5 N0 g1
    refine OD.go (B := (T5.setTop (mkF m 38 #[.val (.ref a1), .val (.int (-1 : Int32))] []))) st5 ?_
    exact OD.retV X5 hx hlk Bd.returns (bd d24_38) (nl rfl) (nl rfl) ⟨_, Or.inr ⟨rfl, c19_4⟩, rfl, N5, by rw [e5]; exact ((Keep.refl h0 [a1]).wr W5 (Or.inl (List.mem_of_getElem? (i := 0) rfl))), by rw [e5]; exact Fx5, by rw [e5]; exact (F2.other W5 (Or.inr (slot_ne (Or.inl (Wd34 hw)) (Or.inl (Wd22 hw)) (by decide) (t := (.array .long)) (t' := .int) (by decide) (by decide))))⟩
  · refine OD.go (B := (T2.setTop (mkF m 35 #[.val (.ref a1), .val (.int 0)] [(.int 1), (.ref a1)]))) (fun t k => XS.ifNo X2.here hx rfl (bd d24_19) rfl (by rw [if0]; exact (feq c19_4).1) (XS.goto X2.here hx rfl (pc0 := 22) (pc' := 31) rfl (bd d24_22) (by decide) (by decide) (XS.aloadN X2.here hx rfl (bd d24_31) rfl rfl (XS.iloadN X2.here hx rfl (bd d24_32) rfl (XS.iconst X2.here hx rfl (bd d24_33) (XS.iadd X2.here hx rfl (bd d24_34) rfl k)))))) ?_
    obtain ⟨T6, h6, X6, e6, W6, st6⟩ := putF X2 hx hZ hown (host := "") (Or.inl (Wd21 hw)) Via.refl e2 F0 E1 (Or.inl (Wd22 hw)) (Wd15 hw) (ty := .int) (by decide) rfl rfl (g := (mkF m 35 #[.val (.ref a1), .val (.int 0)] [(.int 1), (.ref a1)])) rfl rfl (bd d24_35)
    have Fx6 := F0.same W6
    have N6 := Fr.snoc X6 N0 g1
    refine OD.go (B := (T6.setTop (mkF m 38 #[.val (.ref a1), .val (.int 0)] []))) st6 ?_
    exact OD.retV X6 hx hlk Bd.returns (bd d24_38) (nl rfl) (nl rfl) ⟨_, Or.inl rfl, rfl, N6, by rw [e6]; exact ((Keep.refl h0 [a1]).wr W6 (Or.inl (List.mem_of_getElem? (i := 0) rfl))), by rw [e6]; exact Fx6, by rw [e6]; exact (F2.other W6 (Or.inr (slot_ne (Or.inl (Wd34 hw)) (Or.inl (Wd22 hw)) (by decide) (t := (.array .long)) (t' := .int) (by decide) (by decide))))⟩
def Q_rmCR (Z : State) (a1 : Addr) (d : Int32) (h0 : Heap) (n0 : Nat) (wa : Addr) (kw : ClassId) (W : Int64) (v : Option Value) (h : Heap) (L : List Loc) : Prop := ∃ u : Int32, own_wu u (own_clr W d) ∧ v = none ∧ Fr n0 L ∧ Keep h0 h [a1, wa] ∧ Fld Z h a1 "java/util/BitSet" "wordsInUse" "I" (.int u) ∧ Fld Z h a1 "java/util/BitSet" "words" "[J" (.ref wa) ∧ Arv Z h wa kw .long (1 : Int32) [(.long (own_clr W d))] (.long (0 : Int64))
set_option maxRecDepth 65536 in
set_option maxHeartbeats 40000000 in
theorem rmCR (l : Launch) (Z : State) (a0 : Array Value) (hw : HW a0 Z) (ws : List Jvm.Cond) (a1 : Addr) (d : Int32) (h0 : Heap) (n0 : Nat) (Z0 : n0 ≤ h0.size) (wa : Addr) (X00 : Old Z n0 h0) (Sad : Sta Z Z.heap "java/util/BitSet" "$assertionsDisabled" "Z" (.int 1)) (E1 : Exa Z h0 a1 "java/util/BitSet") (g1 : n0 ≤ a1) (F0 : Fld Z h0 a1 "java/util/BitSet" "wordsInUse" "I" (.int 1)) (F2 : Fld Z h0 a1 "java/util/BitSet" "words" "[J" (.ref wa)) (kw : ClassId) (W : Int64) (A1 : Arv Z h0 wa kw .long (1 : Int32) [(.long W)] (.long (0 : Int64))) (g2 : n0 ≤ wa) (nw : a1 ≠ wa) (hsm : own_sm d) :
    MetFree l (⟨"java/util/BitSet", "clear", "(I)V"⟩ : MethodName) (head1 (Jvm.Cond.code (⟨"java/util/BitSet", "clear", "(I)V"⟩ : MethodName) kQ14 3 none :: ws) (rO 1 0 0 13)) (fun a U => a = #[(.ref a1), (.int d)] ∧ Z.Warmed39 U.vm ∧ U.heap = h0) (fun _ _ _ _ _ => True) (fun _ U o U' => ∃ v L, o = .returned v ∧ Q_rmCR Z a1 d h0 n0 wa kw W v U'.heap L ∧ FrameEnd U o U' L (rO 1 0 0 13).cells (rO 1 0 0 13).slots) := by
  refine MetFree.of_bodySF (plainFor_of_name pn0) hisR ?_
  intro p e s m args below meth c s₁ Bd hml0 hP hK
  obtain ⟨rfl, hZ, hh⟩ := hP
  have hx := Bd.exec
  have hby := Bd.bytes
  have bd : ∀ {pc r}, decode kQ14 pc = r → decode c.code pc = r := fun q => hb hby q
  have hlk : meth.locks = false := Bd.notSynchronized
  have hml : c.maxLocals = 3 := hml0
  have hown : s.vm.findClass "java/util/BitSet" = some m.cls := findClass_of_methodNamed Bd.named
  have hnm := (name_of_methodNamed Bd.named Bd.method).1
  have X0 : Stand p l e (rO 1 0 0 13) s m #[(.ref a1), (.int d)] below meth c s₁ [] 0 0 := Stand.of_body Bd
  have e0 : s₁.heap = h0 := by rw [← hh, Bd.state]; rfl
  have N0 := Fr.nil n0
  suffices hgo : OD p e s below (Q_rmCR Z a1 d h0 n0 wa kw W) (rO 1 0 0 13).cells (rO 1 0 0 13).slots (s₁.setTop (mkF m 0 #[.val (.ref a1), .val (.int d), .unset] [])) by
    obtain ⟨s₂, o, hgo1, hgo2⟩ := hgo
    exact ⟨s₂, o, castTop (ef7 m a1 d) hgo1, hgo2⟩
  refine OD.go (B := (s₁.setTop (mkF m 32 #[.val (.ref a1), .val (.int d), .unset] [(.int d)]))) (fun t k => XS.iloadN X0.here hx rfl (bd d23_0) rfl (XS.ifYes X0.here hx rfl (pc0 := 1) (pc' := 31) rfl (bd d23_1) rfl (by rw [if0]; exact (flt (own_sm0 hsm)).2.1) (by decide) (by decide) (XS.iloadN X0.here hx rfl (bd d23_31) rfl k))) ?_
  obtain ⟨_, _, ⟨T1, L1, k1, n1⟩, -, X1, ⟨Lc1, hQ1, l1, y1, z1⟩, st1⟩ := Jvm.LawKit.callS X0 hx (y := (⟨"java/util/BitSet", "wordIndex", "(I)I"⟩ : MethodName)) hown (mvT hZ (Wd30 hw)) (mvT hZ (Wd31 hw)) (mvT hZ (Wd16 hw)) (mvT hZ (Wd32 hw)) (by decide) (backOf (W := 0) (rmWI l Z a0 hw [] d h0 (own_sm6 hsm)) hZ (Wd32 hw) (Wd16 hw) (by decide) (by decide)) (g := (mkF m 32 #[.val (.ref a1), .val (.int d), .unset] [(.int d)])) rfl (by rw [hml]; rfl) (argsL := [(.int d)]) (rest := []) (lenOf pd0 rfl) rfl (by show 2 * 0 + _ ≤ _; exact Nat.le_of_eq rfl) (bd d23_32) (fun _ _ => ⟨rfl, e0, (nl rfl), (nl rfl)⟩)
  dsimp only [Pt.U, Pt.locs, Pt.cells, Pt.slots] at X1 l1 y1 z1 st1 hQ1
  subst l1 y1 z1
  obtain ⟨rfl, rfl, e1⟩ := hQ1
  have N1 := Fr.app N0 (Fr.nil _)
  refine OD.go st1 ?_
  refine OD.go (B := (T1.setTop (mkF m 38 #[.val (.ref a1), .val (.int d), .val (.int 0)] [(.ref a1), (.int 0)]))) (fun t k => XS.istoreN X1.here hx rfl (bd d23_35) rfl (l' := #[.val (.ref a1), .val (.int d), .val (.int 0)]) rfl (XS.iloadN X1.here hx rfl (bd d23_36) rfl (XS.aloadN X1.here hx rfl (bd d23_37) rfl rfl k))) ?_
  obtain ⟨T2, X2, e2, st2⟩ := getF X1 hx hZ hown (host := "") (Or.inl (Wd21 hw)) Via.refl e1 F0 (g := (mkF m 38 #[.val (.ref a1), .val (.int d), .val (.int 0)] [(.ref a1), (.int 0)])) rfl rfl (bd d23_38)
  refine OD.go st2 ?_
  refine OD.go (B := (T2.setTop (mkF m 46 #[.val (.ref a1), .val (.int d), .val (.int 0)] [(.ref a1)]))) (fun t k => XS.icmpYes X2.here hx rfl (pc0 := 41) (pc' := 45) rfl (bd d23_41) rfl (tlt (by decide : (0 : Int32) < (1 : Int32))).1 (by decide) (by decide) (XS.aloadN X2.here hx rfl (bd d23_45) rfl rfl k)) ?_
  obtain ⟨T3, X3, e3, st3⟩ := getF X2 hx hZ hown (host := "") (Or.inl (Wd33 hw)) Via.refl e2 F2 (g := (mkF m 46 #[.val (.ref a1), .val (.int d), .val (.int 0)] [(.ref a1)])) rfl rfl (bd d23_46)
  refine OD.go st3 ?_
  refine OD.go (B := (T3.setTop (mkF m 51 #[.val (.ref a1), .val (.int d), .val (.int 0)] [(.int 0), (.ref wa), (.int 0), (.ref wa)]))) (fun t k => XS.iloadN X3.here hx rfl (bd d23_49) rfl (XT.dup2 X3.here hx rfl (bd d23_50) rfl rfl rfl k)) ?_
  obtain ⟨cl4, Ar4, hi4, ha4⟩ := own_at A1 (j := (0 : Int32)) (v := (.long W)) ⟨by decide, by decide⟩ rfl
  refine OD.go (B := (T3.setTop (mkF m 60 #[.val (.ref a1), .val (.int d), .val (.int 0)] [(.long (W &&& (((1 : Int64) <<< (d &&& 0x3f).toInt64) ^^^ (-1 : Int64)))), (.int 0), (.ref wa)]))) (fun t k => X3.laload hx (j := (0 : Int32)) (v := (.long W)) (by rw [e3]; exact Ar4.1) (State.isArrayOf_alike hZ.alike Ar4.2.1) Ar4.2.2 hi4 ha4 (g := (mkF m 51 #[.val (.ref a1), .val (.int d), .val (.int 0)] [(.int 0), (.ref wa), (.int 0), (.ref wa)])) rfl rfl (bd d23_51) _ (XS.lconst X3.here hx rfl (bd d23_52) (XS.iloadN X3.here hx rfl (bd d23_53) rfl (XS.lshl X3.here hx rfl (bd d23_54) rfl (X3.ldc2Long hx hown (mv hZ (Wd138 hw)) (g := (mkF m 55 #[.val (.ref a1), .val (.int d), .val (.int 0)] [(.long ((1 : Int64) <<< (d &&& 0x3f).toInt64)), (.long W), (.int 0), (.ref wa)])) rfl (bd d23_55) _ (XS.lxor X3.here hx rfl (bd d23_58) rfl (XS.land X3.here hx rfl (bd d23_59) rfl k))))))) ?_
  obtain ⟨cl5, Ar5, q5, S5, M5, H5, G5⟩ := id A1
  obtain ⟨T5, h5, X5, e5, W5, st5⟩ := stJ X3 hx hZ e3 Ar5 (j := (0 : Int32)) (inb_of S5 ⟨by decide, by decide⟩) (g := (mkF m 60 #[.val (.ref a1), .val (.int d), .val (.int 0)] [(.long (W &&& (((1 : Int64) <<< (d &&& 0x3f).toInt64) ^^^ (-1 : Int64)))), (.int 0), (.ref wa)])) rfl rfl (bd d23_60)
  have V5 : Arv Z h5 wa kw .long (1 : Int32) [(.long (W &&& (((1 : Int64) <<< (d &&& 0x3f).toInt64) ^^^ (-1 : Int64))))] (.long (0 : Int64)) := Arv.set Ar5 q5 S5 M5 H5 G5 rfl W5 0 rfl (nl rfl)
  have N5 := Fr.snoc X5 N1 g2
  refine OD.go st5 ?_
  refine OD.go (B := (T5.setTop (mkF m 62 #[.val (.ref a1), .val (.int d), .val (.int 0)] [(.ref a1)]))) (fun t k => XS.aloadN X5.here hx rfl (bd d23_61) rfl rfl k) ?_
  have f6 := (E1.wr W5)
  have f7 := (F0.other W5 (Or.inl nw))
  have f8 := (F2.other W5 (Or.inl nw))
  obtain ⟨cq9, qa9, qb9⟩ := f6.cell
  obtain ⟨_, _, ⟨T9, L9, k9, n9⟩, -, X9, ⟨Lc9, hQ9, l9, y9, z9⟩, st9⟩ := X5.privateBack hx (y := (⟨"java/util/BitSet", "recalculateWordsInUse", "()V"⟩ : MethodName)) hown (mvT hZ (Wd139 hw)) (mvT hZ (Wd140 hw)) (mvT hZ (Wd142 hw)) (Cond.privateMethod_at (mvP hZ (Wd141 hw) (args := #[]))) (mvT hZ (Wd143 hw)) (by decide) (backOf (W := 0) (rmRC l Z a0 hw [] a1 h5 n0 (Nat.le_trans Z0 (Keep.of_wr W5).1) wa (X00.wr W5 g2) Sad f6 g1 f7 f8 kw (W &&& (((1 : Int64) <<< (d &&& 0x3f).toInt64) ^^^ (-1 : Int64))) V5 g2 nw) hZ (Wd143 hw) (Wd16 hw) (by decide) (by decide)) (g := (mkF m 62 #[.val (.ref a1), .val (.int d), .val (.int 0)] [(.ref a1)])) rfl (by rw [hml]; rfl) (Steps.refl _) (a := a1) (by rw [e5]; exact qa9) qb9 (argsL := []) (rest := []) (lenOf pd2 rfl) rfl (by show 2 * 0 + _ ≤ _; exact Nat.le_of_eq rfl) (bd d23_62) (fun _ _ => ⟨rfl, e5, (nl rfl), (nl rfl)⟩)
  dsimp only [Pt.U, Pt.locs, Pt.cells, Pt.slots] at X9 l9 y9 z9 st9 hQ9
  subst l9 y9 z9
  obtain ⟨u9, wu9, rfl, Nq9, K9, U9, P9⟩ := hQ9
  have N9 := Fr.app N5 Nq9
  refine OD.via st9 ?_
  refine OD.go (B := (T9.setTop (mkF m 66 #[.val (.ref a1), .val (.int d), .val (.int 0)] [(.ref a1)]))) (fun t k => XS.aloadN X9.here hx rfl (bd d23_65) rfl rfl k) ?_
  have f10 := (f6.keep K9)
  obtain ⟨cq11, qa11, qb11⟩ := f10.cell
  obtain ⟨_, _, ⟨T11, L11, k11, n11⟩, -, X11, ⟨Lc11, hQ11, l11, y11, z11⟩, st11⟩ := X9.privateBack hx (y := (⟨"java/util/BitSet", "checkInvariants", "()V"⟩ : MethodName)) hown (mvT hZ (Wd71 hw)) (mvT hZ (Wd72 hw)) (mvT hZ (Wd74 hw)) (Cond.privateMethod_at (mvP hZ (Wd73 hw) (args := #[]))) (mvT hZ (Wd75 hw)) (by decide) (backOf (W := 0) (rmCI l Z a0 hw [] a1 T9.heap n0 ((X00.wr W5 g2).keep K9 (allS g1 all0)) Sad) hZ (Wd75 hw) (Wd16 hw) (by decide) (by decide)) (g := (mkF m 66 #[.val (.ref a1), .val (.int d), .val (.int 0)] [(.ref a1)])) rfl (by rw [hml]; rfl) (Steps.refl _) (a := a1) qa11 qb11 (argsL := []) (rest := []) (lenOf pd2 rfl) rfl (by show 2 * 0 + _ ≤ _; exact Nat.le_of_eq rfl) (bd d23_66) (fun _ _ => ⟨rfl, rfl, (nl rfl), (nl rfl)⟩)
  dsimp only [Pt.U, Pt.locs, Pt.cells, Pt.slots] at X11 l11 y11 z11 st11 hQ11
  subst l11 y11 z11
  obtain ⟨rfl, rfl, e11⟩ := hQ11
  have N11 := Fr.app N9 (Fr.nil _)
  refine OD.via (B := (T11.setTop (mkF m 69 #[.val (.ref a1), .val (.int d), .val (.int 0)] []))) st11 ?_
  exact OD.retV X11 hx hlk Bd.returns (bd d23_69) (nl rfl) (nl rfl) ⟨_, wu9, rfl, N11, by rw [e11]; exact (((Keep.refl h0 [a1, wa]).wr W5 (Or.inl (List.mem_of_getElem? (i := 1) rfl))).trans K9 (allS (Or.inl (List.mem_of_getElem? (i := 0) rfl)) all0)), by rw [e11]; exact U9, by rw [e11]; exact P9, by rw [e11]; exact (V5.keep K9 (ninS (Ne.symm nw) nin0))⟩
def Q_rmSO (Z : State) (a1 : Addr) (h0 : Heap) (n0 : Nat) (ca da : Addr) (kc kd : ClassId) (v : Option Value) (h : Heap) (L : List Loc) : Prop := ∃ (f : Int32 → Int64) (g : Int32 → Int32), v = none ∧ Fr n0 L ∧ Keep h0 h [ca, da] ∧ Arv Z h ca kc .long (3 : Int32) (own_rg (3 : Int32).toNatClampNeg (fun x => .long (f x))) (.long (0 : Int64)) ∧ Arv Z h da kd .int 3 (own_rg (3 : Int32).toNatClampNeg (fun x => .int (g x))) (.int 0)
set_option maxRecDepth 65536 in
set_option maxHeartbeats 40000000 in
theorem rmSO (l : Launch) (Z : State) (a0 : Array Value) (hw : HW a0 Z) (ws : List Jvm.Cond) (a1 : Addr) (h0 : Heap) (n0 : Nat) (Z0 : n0 ≤ h0.size) (ca da : Addr) (kc kd : ClassId) (f0 : Int32 → Int64) (g0 : Int32 → Int32) (Fc : Fld Z h0 a1 zZ0 "coordinates" "[J" (.ref ca)) (Fd : Fld Z h0 a1 zZ0 "docs" "[I" (.ref da)) (Ac : Arv Z h0 ca kc .long (3 : Int32) (own_rg (3 : Int32).toNatClampNeg (fun x => .long (f0 x))) (.long (0 : Int64))) (Ad : Arv Z h0 da kd .int 3 (own_rg (3 : Int32).toNatClampNeg (fun x => .int (g0 x))) (.int 0)) (gc : n0 ≤ ca) (gd : n0 ≤ da) (nc : a1 ≠ ca) (nd : a1 ≠ da) (ncd : ca ≠ da) :
    MetFree l (⟨zZ0, "sortByCoordinate", "()V"⟩ : MethodName) (head1 (Jvm.Cond.code (⟨zZ0, "sortByCoordinate", "()V"⟩ : MethodName) kQ15 12 none :: ws) (rO 1 10 2100 40)) (fun a U => a = #[(.ref a1)] ∧ Z.Warmed39 U.vm ∧ U.heap = h0) (fun _ _ _ _ _ => True) (fun _ U o U' => ∃ v L, o = .returned v ∧ Q_rmSO Z a1 h0 n0 ca da kc kd v U'.heap L ∧ FrameEnd U o U' L (rO 1 10 2100 40).cells (rO 1 10 2100 40).slots) := by
  refine MetFree.of_bodySF (plainFor_of_name pn1) hisR ?_
  intro p e s m args below meth c s₁ Bd hml0 hP hK
  obtain ⟨rfl, hZ, hh⟩ := hP
  have hx := Bd.exec
  have hby := Bd.bytes
  have bd : ∀ {pc r}, decode kQ15 pc = r → decode c.code pc = r := fun q => hb hby q
  have hlk : meth.locks = false := Bd.notSynchronized
  have hml : c.maxLocals = 12 := hml0
  have hown : s.vm.findClass zZ0 = some m.cls := findClass_of_methodNamed Bd.named
  have hnm := (name_of_methodNamed Bd.named Bd.method).1
  have X0 : Stand p l e (rO 1 10 2100 40) s m #[(.ref a1)] below meth c s₁ [] 0 0 := Stand.of_body Bd
  have e0 : s₁.heap = h0 := by rw [← hh, Bd.state]; rfl
  have N0 := Fr.nil n0
  suffices hgo : OD p e s below (Q_rmSO Z a1 h0 n0 ca da kc kd) (rO 1 10 2100 40).cells (rO 1 10 2100 40).slots (s₁.setTop (mkF m 0 #[.val (.ref a1), .unset, .unset, .unset, .unset, .unset, .unset, .unset, .unset, .unset, .unset, .unset] [])) by
    obtain ⟨s₂, o, hgo1, hgo2⟩ := hgo
    exact ⟨s₂, o, castTop (ef10 m a1) hgo1, hgo2⟩
  refine OD.go (B := (s₁.setTop (mkF m 1 #[.val (.ref a1), .unset, .unset, .unset, .unset, .unset, .unset, .unset, .unset, .unset, .unset, .unset] [(.ref a1)]))) (fun t k => XS.aloadN X0.here hx rfl (bd d14_0) rfl rfl k) ?_
  obtain ⟨T1, X1, e1, st1⟩ := getF X0 hx hZ hown (host := "") (Or.inl (Wd41 hw)) Via.refl e0 Fc (g := (mkF m 1 #[.val (.ref a1), .unset, .unset, .unset, .unset, .unset, .unset, .unset, .unset, .unset, .unset, .unset] [(.ref a1)])) rfl rfl (bd d14_1)
  refine OD.go st1 ?_
  refine OD.go (B := (T1.setTop (mkF m 6 #[.val (.ref a1), .val (.ref ca), .unset, .unset, .unset, .unset, .unset, .unset, .unset, .unset, .unset, .unset] [(.ref a1)]))) (fun t k => XS.astoreN X1.here hx rfl (bd d14_4) rfl rfl (l' := #[.val (.ref a1), .val (.ref ca), .unset, .unset, .unset, .unset, .unset, .unset, .unset, .unset, .unset, .unset]) rfl (XS.aloadN X1.here hx rfl (bd d14_5) rfl rfl k)) ?_
  obtain ⟨T2, X2, e2, st2⟩ := getF X1 hx hZ hown (host := "") (Or.inl (Wd39 hw)) Via.refl e1 Fd (g := (mkF m 6 #[.val (.ref a1), .val (.ref ca), .unset, .unset, .unset, .unset, .unset, .unset, .unset, .unset, .unset, .unset] [(.ref a1)])) rfl rfl (bd d14_6)
  refine OD.go st2 ?_
  refine OD.go (B := (T2.setTop (mkF m 11 #[.val (.ref a1), .val (.ref ca), .val (.ref da), .unset, .unset, .unset, .unset, .unset, .unset, .unset, .unset, .unset] [(.ref a1)]))) (fun t k => XS.astoreN X2.here hx rfl (bd d14_9) rfl rfl (l' := #[.val (.ref a1), .val (.ref ca), .val (.ref da), .unset, .unset, .unset, .unset, .unset, .unset, .unset, .unset, .unset]) rfl (XS.aloadN X2.here hx rfl (bd d14_10) rfl rfl k)) ?_
  obtain ⟨T3, X3, e3, st3⟩ := getF X2 hx hZ hown (host := "") (Or.inl (Wd39 hw)) Via.refl e2 Fd (g := (mkF m 11 #[.val (.ref a1), .val (.ref ca), .val (.ref da), .unset, .unset, .unset, .unset, .unset, .unset, .unset, .unset, .unset] [(.ref a1)])) rfl rfl (bd d14_11)
  refine OD.go (B := (T3.setTop (mkF m 14 #[.val (.ref a1), .val (.ref ca), .val (.ref da), .unset, .unset, .unset, .unset, .unset, .unset, .unset, .unset, .unset] [(.ref da)]))) st3 ?_
  obtain ⟨cl4, Ar4, hl4⟩ := own_len Ad
  refine OD.go (B := (T3.setTop (mkF m 15 #[.val (.ref a1), .val (.ref ca), .val (.ref da), .unset, .unset, .unset, .unset, .unset, .unset, .unset, .unset, .unset] [(.int 3)]))) (fun t k => X3.arraylength hx (by rw [e3]; exact Ar4.1) (State.isArrayOf_alike hZ.alike Ar4.2.1) (g := (mkF m 14 #[.val (.ref a1), .val (.ref ca), .val (.ref da), .unset, .unset, .unset, .unset, .unset, .unset, .unset, .unset, .unset] [(.ref da)])) rfl rfl (bd d14_14) _ (by rw [hl4]; exact k)) ?_
  obtain ⟨T5, h5, k5, X5, e5, E5, A5, st5⟩ := newP X3 hx hZ (aty := .long) (Wd1 hw) e3 (g := (mkF m 15 #[.val (.ref a1), .val (.ref ca), .val (.ref da), .unset, .unset, .unset, .unset, .unset, .unset, .unset, .unset, .unset] [(.int 3)])) rfl (bd d14_15) rfl (by decide) (cap := 3) (by decide) (by decide) (nl rfl) (nl rfl)
  obtain ⟨b5, g5⟩ : ∃ z, z = h0.size := ⟨_, rfl⟩
  rw [← g5] at A5 st5
  have V5 : Arv Z h5 b5 k5 .long (3 : Int32) [(.long (0 : Int64)), (.long (0 : Int64)), (.long (0 : Int64))] (.long (0 : Int64)) := (Arv.new A5 (by decide)).pad (pad_rep [] (.long (0 : Int64)) 3)
  refine OD.go st5 ?_
  refine OD.go (B := (T5.setTop (mkF m 19 #[.val (.ref a1), .val (.ref ca), .val (.ref da), .val (.ref b5), .unset, .unset, .unset, .unset, .unset, .unset, .unset, .unset] [(.ref a1)]))) (fun t k => XS.astoreN X5.here hx rfl (bd d14_17) rfl rfl (l' := #[.val (.ref a1), .val (.ref ca), .val (.ref da), .val (.ref b5), .unset, .unset, .unset, .unset, .unset, .unset, .unset, .unset]) rfl (XS.aloadN X5.here hx rfl (bd d14_18) rfl rfl k)) ?_
  have f6 := (Fd.ext E5)
  obtain ⟨T7, X7, e7, st7⟩ := getF X5 hx hZ hown (host := "") (Or.inl (Wd39 hw)) Via.refl e5 f6 (g := (mkF m 19 #[.val (.ref a1), .val (.ref ca), .val (.ref da), .val (.ref b5), .unset, .unset, .unset, .unset, .unset, .unset, .unset, .unset] [(.ref a1)])) rfl rfl (bd d14_19)
  refine OD.go (B := (T7.setTop (mkF m 22 #[.val (.ref a1), .val (.ref ca), .val (.ref da), .val (.ref b5), .unset, .unset, .unset, .unset, .unset, .unset, .unset, .unset] [(.ref da)]))) st7 ?_
  have f8 := (Ad.ext E5)
  obtain ⟨cl9, Ar9, hl9⟩ := own_len f8
  refine OD.go (B := (T7.setTop (mkF m 23 #[.val (.ref a1), .val (.ref ca), .val (.ref da), .val (.ref b5), .unset, .unset, .unset, .unset, .unset, .unset, .unset, .unset] [(.int 3)]))) (fun t k => X7.arraylength hx (by rw [e7]; exact Ar9.1) (State.isArrayOf_alike hZ.alike Ar9.2.1) (g := (mkF m 22 #[.val (.ref a1), .val (.ref ca), .val (.ref da), .val (.ref b5), .unset, .unset, .unset, .unset, .unset, .unset, .unset, .unset] [(.ref da)])) rfl rfl (bd d14_22) _ (by rw [hl9]; exact k)) ?_
  obtain ⟨T10, h10, k10, X10, e10, E10, A10, st10⟩ := newP X7 hx hZ (aty := .int) (Wd0 hw) e7 (g := (mkF m 23 #[.val (.ref a1), .val (.ref ca), .val (.ref da), .val (.ref b5), .unset, .unset, .unset, .unset, .unset, .unset, .unset, .unset] [(.int 3)])) rfl (bd d14_23) rfl (by decide) (cap := 3) (by decide) (by decide) (nl rfl) (nl rfl)
  obtain ⟨b10, g10⟩ : ∃ z, z = h5.size := ⟨_, rfl⟩
  rw [← g10] at A10 st10
  have V10 : Arv Z h10 b10 k10 .int 3 [(.int 0), (.int 0), (.int 0)] (.int 0) := (Arv.new A10 (by decide)).pad (pad_rep [] (.int 0) 3)
  refine OD.go st10 ?_
  refine OD.go (B := (T10.setTop (mkF m 30 #[.val (.ref a1), .val (.ref ca), .val (.ref da), .val (.ref b5), .val (.ref b10), .val (.int 0), .unset, .unset, .unset, .unset, .unset, .unset] []))) (fun t k => XS.astore X10.here hx rfl (bd d14_25) rfl rfl (l' := #[.val (.ref a1), .val (.ref ca), .val (.ref da), .val (.ref b5), .val (.ref b10), .unset, .unset, .unset, .unset, .unset, .unset, .unset]) rfl (XS.iconst X10.here hx rfl (bd d14_27) (XS.istore X10.here hx rfl (bd d14_28) rfl (l' := #[.val (.ref a1), .val (.ref ca), .val (.ref da), .val (.ref b5), .val (.ref b10), .val (.int 0), .unset, .unset, .unset, .unset, .unset, .unset]) rfl k))) ?_
  have oc : h0.size ≤ b5 := (Nat.le_trans (Nat.le_refl _) (Nat.le_of_eq g5.symm))
  have od : h0.size ≤ b10 := (Nat.le_trans (Nat.le_trans (Nat.le_refl _) E5.1) (Nat.le_of_eq g10.symm))
  have gcc : n0 ≤ b5 := (Nat.le_trans Z0 (Nat.le_of_eq g5.symm))
  have gdd : n0 ≤ b10 := (Nat.le_trans (Nat.le_trans Z0 E5.1) (Nat.le_of_eq g10.symm))
  have ne0 : a1 ≠ b5 := (Nat.ne_of_lt (Nat.lt_of_lt_of_le Fc.lt (Nat.le_of_eq g5.symm)))
  have ne1 : a1 ≠ b10 := (Nat.ne_of_lt (Nat.lt_of_lt_of_le (Nat.lt_of_lt_of_le Fc.lt E5.1) (Nat.le_of_eq g10.symm)))
  have ne2 : ca ≠ b5 := (Nat.ne_of_lt (Nat.lt_of_lt_of_le Ac.lt (Nat.le_of_eq g5.symm)))
  have ne3 : ca ≠ b10 := (Nat.ne_of_lt (Nat.lt_of_lt_of_le (Nat.lt_of_lt_of_le Ac.lt E5.1) (Nat.le_of_eq g10.symm)))
  have ne4 : da ≠ b5 := (Nat.ne_of_lt (Nat.lt_of_lt_of_le Ad.lt (Nat.le_of_eq g5.symm)))
  have ne5 : da ≠ b10 := (Nat.ne_of_lt (Nat.lt_of_lt_of_le (Nat.lt_of_lt_of_le Ad.lt E5.1) (Nat.le_of_eq g10.symm)))
  have ne6 : b5 ≠ b10 := (Nat.ne_of_lt (Nat.lt_of_lt_of_le V5.lt (Nat.le_of_eq g10.symm)))
  have z_b5 : Arv Z h10 b5 k5 .long (3 : Int32) (own_rg (3 : Int32).toNatClampNeg (fun x => .long ((fun _ => (0 : Int64)) x))) (.long (0 : Int64)) := (V5.ext E10)
  have z_b10 : Arv Z h10 b10 k10 .int 3 (own_rg (3 : Int32).toNatClampNeg (fun x => .int ((fun _ => (0 : Int32)) x))) (.int 0) := V10
  have loop : ∀ (t : Nat) (sh : Int32) (y1 y2 y3 y4 : Addr) (q6 q7 q8 q9 q10 q11 : Slot) (f1 f2 : Int32 → Int64) (g1 g2 : Int32 → Int32) (Tl : State) (hl : Heap) (Ll : List Loc) (cn sn : Nat), Stand p l e (rO 1 10 2100 40) s m #[(.ref a1)] below meth c Tl Ll cn sn → cn + t ≤ 10 → sn + 257 * t ≤ 2100 → Tl.heap = hl → Fr n0 Ll → Keep h0 hl [ca, da] → Arv Z hl ca kc .long (3 : Int32) (own_rg (3 : Int32).toNatClampNeg (fun x => .long (f1 x))) (.long (0 : Int64)) → Arv Z hl da kd .int 3 (own_rg (3 : Int32).toNatClampNeg (fun x => .int (g1 x))) (.int 0) → Arv Z hl b5 k5 .long (3 : Int32) (own_rg (3 : Int32).toNatClampNeg (fun x => .long (f2 x))) (.long (0 : Int64)) → Arv Z hl b10 k10 .int 3 (own_rg (3 : Int32).toNatClampNeg (fun x => .int (g2 x))) (.int 0) → ((ca = y1 ∧ da = y2 ∧ b5 = y3 ∧ b10 = y4) ∨ (b5 = y1 ∧ b10 = y2 ∧ ca = y3 ∧ da = y4)) → own_fm q6 q7 q8 q9 q10 q11 → sh.toInt + 8 * t = 64 → OD p e s below (Q_rmSO Z a1 h0 n0 ca da kc kd) (rO 1 10 2100 40).cells (rO 1 10 2100 40).slots (Tl.setTop (mkF m 30 #[.val (.ref a1), .val (.ref y1), .val (.ref y2), .val (.ref y3), .val (.ref y4), .val (.int sh), q6, q7, q8, q9, q10, q11] [])) := by
    intro t
    induction t with
    | zero =>
      intro sh y1 y2 y3 y4 q6 q7 q8 q9 q10 q11 f1 f2 g1 g2 Tl hl Ll cn sn Xl hcn hsn el Nl Kl B1 B2 B3 B4 hor hfm hsh
      have Fcl := Fc.keep Kl (ninS nc (ninS nd nin0))
      have Fdl := Fd.keep Kl (ninS nc (ninS nd nin0))
      have hc := own_sh0 hsh
      rcases hor with ⟨rfl, rfl, rfl, rfl⟩ | ⟨rfl, rfl, rfl, rfl⟩
      · skip
        rcases hfm with ⟨rfl, rfl, rfl, rfl, rfl, rfl⟩ | ⟨r6, r7, lv, rfl, rfl, rfl, rfl, rfl, rfl⟩ | ⟨r6, r7, r8, lv, rfl, rfl, rfl, rfl, rfl, rfl⟩
        · show OD _ _ _ _ _ _ _ (Tl.setTop (mkF m 30 #[.val (.ref a1), .val (.ref ca), .val (.ref da), .val (.ref b5), .val (.ref b10), .val (.int sh), .unset, .unset, .unset, .unset, .unset, .unset] []))
          refine OD.go (B := (Tl.setTop (mkF m 236 #[.val (.ref a1), .val (.ref ca), .val (.ref da), .val (.ref b5), .val (.ref b10), .val (.int sh), .unset, .unset, .unset, .unset, .unset, .unset] [(.ref a1), (.ref da)]))) (fun t k => XS.iload Xl.here hx rfl (bd d14_30) rfl (XS.bipush Xl.here hx rfl (bd d14_32) (XS.icmpYes Xl.here hx rfl (pc0 := 34) (pc' := 234) rfl (bd d14_34) rfl (flt hc).2.1 (by decide) (by decide) (XS.aloadN Xl.here hx rfl (bd d14_234) rfl rfl (XS.aloadN Xl.here hx rfl (bd d14_235) rfl rfl k))))) ?_
          obtain ⟨T11, X11, e11, st11⟩ := getF Xl hx hZ hown (host := "") (Or.inl (Wd39 hw)) Via.refl el Fdl (g := (mkF m 236 #[.val (.ref a1), .val (.ref ca), .val (.ref da), .val (.ref b5), .val (.ref b10), .val (.int sh), .unset, .unset, .unset, .unset, .unset, .unset] [(.ref a1), (.ref da)])) rfl rfl (bd d14_236)
          refine OD.go st11 ?_
          refine OD.go (B := (T11.setTop (mkF m 272 #[.val (.ref a1), .val (.ref ca), .val (.ref da), .val (.ref b5), .val (.ref b10), .val (.int sh), .unset, .unset, .unset, .unset, .unset, .unset] []))) (fun t k => RoadKit.acmp X11 hx rfl (x := (.ref da)) (y := (.ref da)) rfl rfl (pc0 := 239) (pc' := 272) (same := true) rfl (bd d14_239) rfl (by simp) (by decide) (by decide) k) ?_
          exact OD.retV X11 hx hlk Bd.returns (bd d14_272) (by show cn ≤ (10 : Nat); omega) (by show sn ≤ (2100 : Nat); omega) ⟨_, _, rfl, Nl, by rw [e11]; exact Kl, by rw [e11]; exact B1, by rw [e11]; exact B2⟩
        · show OD _ _ _ _ _ _ _ (Tl.setTop (mkF m 30 #[.val (.ref a1), .val (.ref ca), .val (.ref da), .val (.ref b5), .val (.ref b10), .val (.int sh), .val (.ref r6), .val (.ref r7), .val (.int 3), .val (.int 3), .val (.long lv), .second] []))
          refine OD.go (B := (Tl.setTop (mkF m 236 #[.val (.ref a1), .val (.ref ca), .val (.ref da), .val (.ref b5), .val (.ref b10), .val (.int sh), .val (.ref r6), .val (.ref r7), .val (.int 3), .val (.int 3), .val (.long lv), .second] [(.ref a1), (.ref da)]))) (fun t k => XS.iload Xl.here hx rfl (bd d14_30) rfl (XS.bipush Xl.here hx rfl (bd d14_32) (XS.icmpYes Xl.here hx rfl (pc0 := 34) (pc' := 234) rfl (bd d14_34) rfl (flt hc).2.1 (by decide) (by decide) (XS.aloadN Xl.here hx rfl (bd d14_234) rfl rfl (XS.aloadN Xl.here hx rfl (bd d14_235) rfl rfl k))))) ?_
          obtain ⟨T12, X12, e12, st12⟩ := getF Xl hx hZ hown (host := "") (Or.inl (Wd39 hw)) Via.refl el Fdl (g := (mkF m 236 #[.val (.ref a1), .val (.ref ca), .val (.ref da), .val (.ref b5), .val (.ref b10), .val (.int sh), .val (.ref r6), .val (.ref r7), .val (.int 3), .val (.int 3), .val (.long lv), .second] [(.ref a1), (.ref da)])) rfl rfl (bd d14_236)
          refine OD.go st12 ?_
          refine OD.go (B := (T12.setTop (mkF m 272 #[.val (.ref a1), .val (.ref ca), .val (.ref da), .val (.ref b5), .val (.ref b10), .val (.int sh), .val (.ref r6), .val (.ref r7), .val (.int 3), .val (.int 3), .val (.long lv), .second] []))) (fun t k => RoadKit.acmp X12 hx rfl (x := (.ref da)) (y := (.ref da)) rfl rfl (pc0 := 239) (pc' := 272) (same := true) rfl (bd d14_239) rfl (by simp) (by decide) (by decide) k) ?_
          exact OD.retV X12 hx hlk Bd.returns (bd d14_272) (by show cn ≤ (10 : Nat); omega) (by show sn ≤ (2100 : Nat); omega) ⟨_, _, rfl, Nl, by rw [e12]; exact Kl, by rw [e12]; exact B1, by rw [e12]; exact B2⟩
        · show OD _ _ _ _ _ _ _ (Tl.setTop (mkF m 30 #[.val (.ref a1), .val (.ref ca), .val (.ref da), .val (.ref b5), .val (.ref b10), .val (.int sh), .val (.ref r6), .val (.ref r7), .val (.ref r8), .val (.int 3), .val (.long lv), .second] []))
          refine OD.go (B := (Tl.setTop (mkF m 236 #[.val (.ref a1), .val (.ref ca), .val (.ref da), .val (.ref b5), .val (.ref b10), .val (.int sh), .val (.ref r6), .val (.ref r7), .val (.ref r8), .val (.int 3), .val (.long lv), .second] [(.ref a1), (.ref da)]))) (fun t k => XS.iload Xl.here hx rfl (bd d14_30) rfl (XS.bipush Xl.here hx rfl (bd d14_32) (XS.icmpYes Xl.here hx rfl (pc0 := 34) (pc' := 234) rfl (bd d14_34) rfl (flt hc).2.1 (by decide) (by decide) (XS.aloadN Xl.here hx rfl (bd d14_234) rfl rfl (XS.aloadN Xl.here hx rfl (bd d14_235) rfl rfl k))))) ?_
          obtain ⟨T13, X13, e13, st13⟩ := getF Xl hx hZ hown (host := "") (Or.inl (Wd39 hw)) Via.refl el Fdl (g := (mkF m 236 #[.val (.ref a1), .val (.ref ca), .val (.ref da), .val (.ref b5), .val (.ref b10), .val (.int sh), .val (.ref r6), .val (.ref r7), .val (.ref r8), .val (.int 3), .val (.long lv), .second] [(.ref a1), (.ref da)])) rfl rfl (bd d14_236)
          refine OD.go st13 ?_
          refine OD.go (B := (T13.setTop (mkF m 272 #[.val (.ref a1), .val (.ref ca), .val (.ref da), .val (.ref b5), .val (.ref b10), .val (.int sh), .val (.ref r6), .val (.ref r7), .val (.ref r8), .val (.int 3), .val (.long lv), .second] []))) (fun t k => RoadKit.acmp X13 hx rfl (x := (.ref da)) (y := (.ref da)) rfl rfl (pc0 := 239) (pc' := 272) (same := true) rfl (bd d14_239) rfl (by simp) (by decide) (by decide) k) ?_
          exact OD.retV X13 hx hlk Bd.returns (bd d14_272) (by show cn ≤ (10 : Nat); omega) (by show sn ≤ (2100 : Nat); omega) ⟨_, _, rfl, Nl, by rw [e13]; exact Kl, by rw [e13]; exact B1, by rw [e13]; exact B2⟩
      · skip
        rcases hfm with ⟨rfl, rfl, rfl, rfl, rfl, rfl⟩ | ⟨r6, r7, lv, rfl, rfl, rfl, rfl, rfl, rfl⟩ | ⟨r6, r7, r8, lv, rfl, rfl, rfl, rfl, rfl, rfl⟩
        · show OD _ _ _ _ _ _ _ (Tl.setTop (mkF m 30 #[.val (.ref a1), .val (.ref b5), .val (.ref b10), .val (.ref ca), .val (.ref da), .val (.int sh), .unset, .unset, .unset, .unset, .unset, .unset] []))
          refine OD.go (B := (Tl.setTop (mkF m 236 #[.val (.ref a1), .val (.ref b5), .val (.ref b10), .val (.ref ca), .val (.ref da), .val (.int sh), .unset, .unset, .unset, .unset, .unset, .unset] [(.ref a1), (.ref b10)]))) (fun t k => XS.iload Xl.here hx rfl (bd d14_30) rfl (XS.bipush Xl.here hx rfl (bd d14_32) (XS.icmpYes Xl.here hx rfl (pc0 := 34) (pc' := 234) rfl (bd d14_34) rfl (flt hc).2.1 (by decide) (by decide) (XS.aloadN Xl.here hx rfl (bd d14_234) rfl rfl (XS.aloadN Xl.here hx rfl (bd d14_235) rfl rfl k))))) ?_
          obtain ⟨T14, X14, e14, st14⟩ := getF Xl hx hZ hown (host := "") (Or.inl (Wd39 hw)) Via.refl el Fdl (g := (mkF m 236 #[.val (.ref a1), .val (.ref b5), .val (.ref b10), .val (.ref ca), .val (.ref da), .val (.int sh), .unset, .unset, .unset, .unset, .unset, .unset] [(.ref a1), (.ref b10)])) rfl rfl (bd d14_236)
          refine OD.go st14 ?_
          refine OD.go (B := (T14.setTop (mkF m 245 #[.val (.ref a1), .val (.ref b5), .val (.ref b10), .val (.ref ca), .val (.ref da), .val (.int sh), .unset, .unset, .unset, .unset, .unset, .unset] [(.ref a1), (.int 0), (.ref b5)]))) (fun t k => RoadKit.acmp X14 hx rfl (x := (.ref b10)) (y := (.ref da)) rfl rfl (pc0 := 239) (pc' := 242) (same := false) rfl (bd d14_239) rfl (by have q_ := (Ne.symm ne5); simp [q_]) (by decide) (by decide) (XS.aloadN X14.here hx rfl (bd d14_242) rfl rfl (XS.iconst X14.here hx rfl (bd d14_243) (XS.aloadN X14.here hx rfl (bd d14_244) rfl rfl k)))) ?_
          obtain ⟨T15, X15, e15, st15⟩ := getF X14 hx hZ hown (host := "") (Or.inl (Wd41 hw)) Via.refl e14 Fcl (g := (mkF m 245 #[.val (.ref a1), .val (.ref b5), .val (.ref b10), .val (.ref ca), .val (.ref da), .val (.int sh), .unset, .unset, .unset, .unset, .unset, .unset] [(.ref a1), (.int 0), (.ref b5)])) rfl rfl (bd d14_245)
          refine OD.go st15 ?_
          refine OD.go (B := (T15.setTop (mkF m 250 #[.val (.ref a1), .val (.ref b5), .val (.ref b10), .val (.ref ca), .val (.ref da), .val (.int sh), .unset, .unset, .unset, .unset, .unset, .unset] [(.ref a1), (.int 0), (.ref ca), (.int 0), (.ref b5)]))) (fun t k => XS.iconst X15.here hx rfl (bd d14_248) (XS.aloadN X15.here hx rfl (bd d14_249) rfl rfl k)) ?_
          obtain ⟨T16, X16, e16, st16⟩ := getF X15 hx hZ hown (host := "") (Or.inl (Wd39 hw)) Via.refl e15 Fdl (g := (mkF m 250 #[.val (.ref a1), .val (.ref b5), .val (.ref b10), .val (.ref ca), .val (.ref da), .val (.int sh), .unset, .unset, .unset, .unset, .unset, .unset] [(.ref a1), (.int 0), (.ref ca), (.int 0), (.ref b5)])) rfl rfl (bd d14_250)
          refine OD.go (B := (T16.setTop (mkF m 253 #[.val (.ref a1), .val (.ref b5), .val (.ref b10), .val (.ref ca), .val (.ref da), .val (.int sh), .unset, .unset, .unset, .unset, .unset, .unset] [(.ref da), (.int 0), (.ref ca), (.int 0), (.ref b5)]))) st16 ?_
          obtain ⟨cl17, Ar17, hl17⟩ := own_len B2
          refine OD.go (B := (T16.setTop (mkF m 254 #[.val (.ref a1), .val (.ref b5), .val (.ref b10), .val (.ref ca), .val (.ref da), .val (.int sh), .unset, .unset, .unset, .unset, .unset, .unset] [(.int 3), (.int 0), (.ref ca), (.int 0), (.ref b5)]))) (fun t k => X16.arraylength hx (by rw [e16]; exact Ar17.1) (State.isArrayOf_alike hZ.alike Ar17.2.1) (g := (mkF m 253 #[.val (.ref a1), .val (.ref b5), .val (.ref b10), .val (.ref ca), .val (.ref da), .val (.int sh), .unset, .unset, .unset, .unset, .unset, .unset] [(.ref da), (.int 0), (.ref ca), (.int 0), (.ref b5)])) rfl rfl (bd d14_253) _ (by rw [hl17]; exact k)) ?_
          obtain ⟨T18, h18, L18, X18, e18, N18, K18, A18, st18⟩ := cpA X16 hx hZ hown (Wd144 hw) (Wd147 hw) (Wd145 hw) (Wd146 hw) e16 B3 B1 (Or.inl ⟨rfl, rfl⟩) (sp := (0 : Int32)) (dp := (0 : Int32)) (nn := (3 : Int32)) (by decide) (by decide) (by decide) (by decide) (by decide) (us := (own_rg (3 : Int32).toNatClampNeg (fun x => .long (f2 x)))) rfl (by rw [own_rg_len]; decide) Nl gc (g := (mkF m 254 #[.val (.ref a1), .val (.ref b5), .val (.ref b10), .val (.ref ca), .val (.ref da), .val (.int sh), .unset, .unset, .unset, .unset, .unset, .unset] [(.int 3), (.int 0), (.ref ca), (.int 0), (.ref b5)])) rfl (by rw [hml]; rfl) rfl (bd d14_254) (by decide) (W := 0) (by show 2 * 0 + _ ≤ _; exact Nat.le_of_eq rfl) (by decide)
          have A18 : Arv Z h18 ca kc .long (3 : Int32) (own_rg (3 : Int32).toNatClampNeg (fun x => .long (f2 x))) (.long (0 : Int64)) := A18
          refine OD.go st18 ?_
          refine OD.go (B := (T18.setTop (mkF m 260 #[.val (.ref a1), .val (.ref b5), .val (.ref b10), .val (.ref ca), .val (.ref da), .val (.int sh), .unset, .unset, .unset, .unset, .unset, .unset] [(.ref a1), (.int 0), (.ref b10)]))) (fun t k => XS.aloadN X18.here hx rfl (bd d14_257) rfl rfl (XS.iconst X18.here hx rfl (bd d14_258) (XS.aloadN X18.here hx rfl (bd d14_259) rfl rfl k))) ?_
          have f19 := (Fdl.keep K18 (ninS nc nin0))
          obtain ⟨T20, X20, e20, st20⟩ := getF X18 hx hZ hown (host := "") (Or.inl (Wd39 hw)) Via.refl e18 f19 (g := (mkF m 260 #[.val (.ref a1), .val (.ref b5), .val (.ref b10), .val (.ref ca), .val (.ref da), .val (.int sh), .unset, .unset, .unset, .unset, .unset, .unset] [(.ref a1), (.int 0), (.ref b10)])) rfl rfl (bd d14_260)
          refine OD.go st20 ?_
          refine OD.go (B := (T20.setTop (mkF m 265 #[.val (.ref a1), .val (.ref b5), .val (.ref b10), .val (.ref ca), .val (.ref da), .val (.int sh), .unset, .unset, .unset, .unset, .unset, .unset] [(.ref a1), (.int 0), (.ref da), (.int 0), (.ref b10)]))) (fun t k => XS.iconst X20.here hx rfl (bd d14_263) (XS.aloadN X20.here hx rfl (bd d14_264) rfl rfl k)) ?_
          obtain ⟨T21, X21, e21, st21⟩ := getF X20 hx hZ hown (host := "") (Or.inl (Wd39 hw)) Via.refl e20 f19 (g := (mkF m 265 #[.val (.ref a1), .val (.ref b5), .val (.ref b10), .val (.ref ca), .val (.ref da), .val (.int sh), .unset, .unset, .unset, .unset, .unset, .unset] [(.ref a1), (.int 0), (.ref da), (.int 0), (.ref b10)])) rfl rfl (bd d14_265)
          refine OD.go (B := (T21.setTop (mkF m 268 #[.val (.ref a1), .val (.ref b5), .val (.ref b10), .val (.ref ca), .val (.ref da), .val (.int sh), .unset, .unset, .unset, .unset, .unset, .unset] [(.ref da), (.int 0), (.ref da), (.int 0), (.ref b10)]))) st21 ?_
          have f22 := (B2.keep K18 (ninS (Ne.symm ncd) nin0))
          obtain ⟨cl23, Ar23, hl23⟩ := own_len f22
          refine OD.go (B := (T21.setTop (mkF m 269 #[.val (.ref a1), .val (.ref b5), .val (.ref b10), .val (.ref ca), .val (.ref da), .val (.int sh), .unset, .unset, .unset, .unset, .unset, .unset] [(.int 3), (.int 0), (.ref da), (.int 0), (.ref b10)]))) (fun t k => X21.arraylength hx (by rw [e21]; exact Ar23.1) (State.isArrayOf_alike hZ.alike Ar23.2.1) (g := (mkF m 268 #[.val (.ref a1), .val (.ref b5), .val (.ref b10), .val (.ref ca), .val (.ref da), .val (.int sh), .unset, .unset, .unset, .unset, .unset, .unset] [(.ref da), (.int 0), (.ref da), (.int 0), (.ref b10)])) rfl rfl (bd d14_268) _ (by rw [hl23]; exact k)) ?_
          have f25 := (B4.keep K18 (ninS (Ne.symm ne3) nin0))
          obtain ⟨T24, h24, L24, X24, e24, N24, K24, A24, st24⟩ := cpA X21 hx hZ hown (Wd144 hw) (Wd147 hw) (Wd145 hw) (Wd146 hw) e21 f25 f22 (Or.inl ⟨rfl, rfl⟩) (sp := (0 : Int32)) (dp := (0 : Int32)) (nn := (3 : Int32)) (by decide) (by decide) (by decide) (by decide) (by decide) (us := (own_rg (3 : Int32).toNatClampNeg (fun x => .int (g2 x)))) rfl (by rw [own_rg_len]; decide) N18 gd (g := (mkF m 269 #[.val (.ref a1), .val (.ref b5), .val (.ref b10), .val (.ref ca), .val (.ref da), .val (.int sh), .unset, .unset, .unset, .unset, .unset, .unset] [(.int 3), (.int 0), (.ref da), (.int 0), (.ref b10)])) rfl (by rw [hml]; rfl) rfl (bd d14_269) (by decide) (W := 0) (by show 2 * 0 + _ ≤ _; exact Nat.le_of_eq rfl) (by decide)
          have A24 : Arv Z h24 da kd .int 3 (own_rg (3 : Int32).toNatClampNeg (fun x => .int (g2 x))) (.int 0) := A24
          refine OD.go (B := (T24.setTop (mkF m 272 #[.val (.ref a1), .val (.ref b5), .val (.ref b10), .val (.ref ca), .val (.ref da), .val (.int sh), .unset, .unset, .unset, .unset, .unset, .unset] []))) st24 ?_
          exact OD.retV X24 hx hlk Bd.returns (bd d14_272) (by show cn ≤ (10 : Nat); omega) (by show sn ≤ (2100 : Nat); omega) ⟨_, _, rfl, N24, by rw [e24]; exact ((Kl.trans K18 (allS (Or.inl (List.mem_of_getElem? (i := 0) rfl)) all0)).trans K24 (allS (Or.inl (List.mem_of_getElem? (i := 1) rfl)) all0)), by rw [e24]; exact (A18.keep K24 (ninS ncd nin0)), by rw [e24]; exact A24⟩
        · show OD _ _ _ _ _ _ _ (Tl.setTop (mkF m 30 #[.val (.ref a1), .val (.ref b5), .val (.ref b10), .val (.ref ca), .val (.ref da), .val (.int sh), .val (.ref r6), .val (.ref r7), .val (.int 3), .val (.int 3), .val (.long lv), .second] []))
          refine OD.go (B := (Tl.setTop (mkF m 236 #[.val (.ref a1), .val (.ref b5), .val (.ref b10), .val (.ref ca), .val (.ref da), .val (.int sh), .val (.ref r6), .val (.ref r7), .val (.int 3), .val (.int 3), .val (.long lv), .second] [(.ref a1), (.ref b10)]))) (fun t k => XS.iload Xl.here hx rfl (bd d14_30) rfl (XS.bipush Xl.here hx rfl (bd d14_32) (XS.icmpYes Xl.here hx rfl (pc0 := 34) (pc' := 234) rfl (bd d14_34) rfl (flt hc).2.1 (by decide) (by decide) (XS.aloadN Xl.here hx rfl (bd d14_234) rfl rfl (XS.aloadN Xl.here hx rfl (bd d14_235) rfl rfl k))))) ?_
          obtain ⟨T26, X26, e26, st26⟩ := getF Xl hx hZ hown (host := "") (Or.inl (Wd39 hw)) Via.refl el Fdl (g := (mkF m 236 #[.val (.ref a1), .val (.ref b5), .val (.ref b10), .val (.ref ca), .val (.ref da), .val (.int sh), .val (.ref r6), .val (.ref r7), .val (.int 3), .val (.int 3), .val (.long lv), .second] [(.ref a1), (.ref b10)])) rfl rfl (bd d14_236)
          refine OD.go st26 ?_
          refine OD.go (B := (T26.setTop (mkF m 245 #[.val (.ref a1), .val (.ref b5), .val (.ref b10), .val (.ref ca), .val (.ref da), .val (.int sh), .val (.ref r6), .val (.ref r7), .val (.int 3), .val (.int 3), .val (.long lv), .second] [(.ref a1), (.int 0), (.ref b5)]))) (fun t k => RoadKit.acmp X26 hx rfl (x := (.ref b10)) (y := (.ref da)) rfl rfl (pc0 := 239) (pc' := 242) (same := false) rfl (bd d14_239) rfl (by have q_ := (Ne.symm ne5); simp [q_]) (by decide) (by decide) (XS.aloadN X26.here hx rfl (bd d14_242) rfl rfl (XS.iconst X26.here hx rfl (bd d14_243) (XS.aloadN X26.here hx rfl (bd d14_244) rfl rfl k)))) ?_
          obtain ⟨T27, X27, e27, st27⟩ := getF X26 hx hZ hown (host := "") (Or.inl (Wd41 hw)) Via.refl e26 Fcl (g := (mkF m 245 #[.val (.ref a1), .val (.ref b5), .val (.ref b10), .val (.ref ca), .val (.ref da), .val (.int sh), .val (.ref r6), .val (.ref r7), .val (.int 3), .val (.int 3), .val (.long lv), .second] [(.ref a1), (.int 0), (.ref b5)])) rfl rfl (bd d14_245)
          refine OD.go st27 ?_
          refine OD.go (B := (T27.setTop (mkF m 250 #[.val (.ref a1), .val (.ref b5), .val (.ref b10), .val (.ref ca), .val (.ref da), .val (.int sh), .val (.ref r6), .val (.ref r7), .val (.int 3), .val (.int 3), .val (.long lv), .second] [(.ref a1), (.int 0), (.ref ca), (.int 0), (.ref b5)]))) (fun t k => XS.iconst X27.here hx rfl (bd d14_248) (XS.aloadN X27.here hx rfl (bd d14_249) rfl rfl k)) ?_
          obtain ⟨T28, X28, e28, st28⟩ := getF X27 hx hZ hown (host := "") (Or.inl (Wd39 hw)) Via.refl e27 Fdl (g := (mkF m 250 #[.val (.ref a1), .val (.ref b5), .val (.ref b10), .val (.ref ca), .val (.ref da), .val (.int sh), .val (.ref r6), .val (.ref r7), .val (.int 3), .val (.int 3), .val (.long lv), .second] [(.ref a1), (.int 0), (.ref ca), (.int 0), (.ref b5)])) rfl rfl (bd d14_250)
          refine OD.go (B := (T28.setTop (mkF m 253 #[.val (.ref a1), .val (.ref b5), .val (.ref b10), .val (.ref ca), .val (.ref da), .val (.int sh), .val (.ref r6), .val (.ref r7), .val (.int 3), .val (.int 3), .val (.long lv), .second] [(.ref da), (.int 0), (.ref ca), (.int 0), (.ref b5)]))) st28 ?_
          obtain ⟨cl29, Ar29, hl29⟩ := own_len B2
          refine OD.go (B := (T28.setTop (mkF m 254 #[.val (.ref a1), .val (.ref b5), .val (.ref b10), .val (.ref ca), .val (.ref da), .val (.int sh), .val (.ref r6), .val (.ref r7), .val (.int 3), .val (.int 3), .val (.long lv), .second] [(.int 3), (.int 0), (.ref ca), (.int 0), (.ref b5)]))) (fun t k => X28.arraylength hx (by rw [e28]; exact Ar29.1) (State.isArrayOf_alike hZ.alike Ar29.2.1) (g := (mkF m 253 #[.val (.ref a1), .val (.ref b5), .val (.ref b10), .val (.ref ca), .val (.ref da), .val (.int sh), .val (.ref r6), .val (.ref r7), .val (.int 3), .val (.int 3), .val (.long lv), .second] [(.ref da), (.int 0), (.ref ca), (.int 0), (.ref b5)])) rfl rfl (bd d14_253) _ (by rw [hl29]; exact k)) ?_
          obtain ⟨T30, h30, L30, X30, e30, N30, K30, A30, st30⟩ := cpA X28 hx hZ hown (Wd144 hw) (Wd147 hw) (Wd145 hw) (Wd146 hw) e28 B3 B1 (Or.inl ⟨rfl, rfl⟩) (sp := (0 : Int32)) (dp := (0 : Int32)) (nn := (3 : Int32)) (by decide) (by decide) (by decide) (by decide) (by decide) (us := (own_rg (3 : Int32).toNatClampNeg (fun x => .long (f2 x)))) rfl (by rw [own_rg_len]; decide) Nl gc (g := (mkF m 254 #[.val (.ref a1), .val (.ref b5), .val (.ref b10), .val (.ref ca), .val (.ref da), .val (.int sh), .val (.ref r6), .val (.ref r7), .val (.int 3), .val (.int 3), .val (.long lv), .second] [(.int 3), (.int 0), (.ref ca), (.int 0), (.ref b5)])) rfl (by rw [hml]; rfl) rfl (bd d14_254) (by decide) (W := 0) (by show 2 * 0 + _ ≤ _; exact Nat.le_of_eq rfl) (by decide)
          have A30 : Arv Z h30 ca kc .long (3 : Int32) (own_rg (3 : Int32).toNatClampNeg (fun x => .long (f2 x))) (.long (0 : Int64)) := A30
          refine OD.go st30 ?_
          refine OD.go (B := (T30.setTop (mkF m 260 #[.val (.ref a1), .val (.ref b5), .val (.ref b10), .val (.ref ca), .val (.ref da), .val (.int sh), .val (.ref r6), .val (.ref r7), .val (.int 3), .val (.int 3), .val (.long lv), .second] [(.ref a1), (.int 0), (.ref b10)]))) (fun t k => XS.aloadN X30.here hx rfl (bd d14_257) rfl rfl (XS.iconst X30.here hx rfl (bd d14_258) (XS.aloadN X30.here hx rfl (bd d14_259) rfl rfl k))) ?_
          have f31 := (Fdl.keep K30 (ninS nc nin0))
          obtain ⟨T32, X32, e32, st32⟩ := getF X30 hx hZ hown (host := "") (Or.inl (Wd39 hw)) Via.refl e30 f31 (g := (mkF m 260 #[.val (.ref a1), .val (.ref b5), .val (.ref b10), .val (.ref ca), .val (.ref da), .val (.int sh), .val (.ref r6), .val (.ref r7), .val (.int 3), .val (.int 3), .val (.long lv), .second] [(.ref a1), (.int 0), (.ref b10)])) rfl rfl (bd d14_260)
          refine OD.go st32 ?_
          refine OD.go (B := (T32.setTop (mkF m 265 #[.val (.ref a1), .val (.ref b5), .val (.ref b10), .val (.ref ca), .val (.ref da), .val (.int sh), .val (.ref r6), .val (.ref r7), .val (.int 3), .val (.int 3), .val (.long lv), .second] [(.ref a1), (.int 0), (.ref da), (.int 0), (.ref b10)]))) (fun t k => XS.iconst X32.here hx rfl (bd d14_263) (XS.aloadN X32.here hx rfl (bd d14_264) rfl rfl k)) ?_
          obtain ⟨T33, X33, e33, st33⟩ := getF X32 hx hZ hown (host := "") (Or.inl (Wd39 hw)) Via.refl e32 f31 (g := (mkF m 265 #[.val (.ref a1), .val (.ref b5), .val (.ref b10), .val (.ref ca), .val (.ref da), .val (.int sh), .val (.ref r6), .val (.ref r7), .val (.int 3), .val (.int 3), .val (.long lv), .second] [(.ref a1), (.int 0), (.ref da), (.int 0), (.ref b10)])) rfl rfl (bd d14_265)
          refine OD.go (B := (T33.setTop (mkF m 268 #[.val (.ref a1), .val (.ref b5), .val (.ref b10), .val (.ref ca), .val (.ref da), .val (.int sh), .val (.ref r6), .val (.ref r7), .val (.int 3), .val (.int 3), .val (.long lv), .second] [(.ref da), (.int 0), (.ref da), (.int 0), (.ref b10)]))) st33 ?_
          have f34 := (B2.keep K30 (ninS (Ne.symm ncd) nin0))
          obtain ⟨cl35, Ar35, hl35⟩ := own_len f34
          refine OD.go (B := (T33.setTop (mkF m 269 #[.val (.ref a1), .val (.ref b5), .val (.ref b10), .val (.ref ca), .val (.ref da), .val (.int sh), .val (.ref r6), .val (.ref r7), .val (.int 3), .val (.int 3), .val (.long lv), .second] [(.int 3), (.int 0), (.ref da), (.int 0), (.ref b10)]))) (fun t k => X33.arraylength hx (by rw [e33]; exact Ar35.1) (State.isArrayOf_alike hZ.alike Ar35.2.1) (g := (mkF m 268 #[.val (.ref a1), .val (.ref b5), .val (.ref b10), .val (.ref ca), .val (.ref da), .val (.int sh), .val (.ref r6), .val (.ref r7), .val (.int 3), .val (.int 3), .val (.long lv), .second] [(.ref da), (.int 0), (.ref da), (.int 0), (.ref b10)])) rfl rfl (bd d14_268) _ (by rw [hl35]; exact k)) ?_
          have f37 := (B4.keep K30 (ninS (Ne.symm ne3) nin0))
          obtain ⟨T36, h36, L36, X36, e36, N36, K36, A36, st36⟩ := cpA X33 hx hZ hown (Wd144 hw) (Wd147 hw) (Wd145 hw) (Wd146 hw) e33 f37 f34 (Or.inl ⟨rfl, rfl⟩) (sp := (0 : Int32)) (dp := (0 : Int32)) (nn := (3 : Int32)) (by decide) (by decide) (by decide) (by decide) (by decide) (us := (own_rg (3 : Int32).toNatClampNeg (fun x => .int (g2 x)))) rfl (by rw [own_rg_len]; decide) N30 gd (g := (mkF m 269 #[.val (.ref a1), .val (.ref b5), .val (.ref b10), .val (.ref ca), .val (.ref da), .val (.int sh), .val (.ref r6), .val (.ref r7), .val (.int 3), .val (.int 3), .val (.long lv), .second] [(.int 3), (.int 0), (.ref da), (.int 0), (.ref b10)])) rfl (by rw [hml]; rfl) rfl (bd d14_269) (by decide) (W := 0) (by show 2 * 0 + _ ≤ _; exact Nat.le_of_eq rfl) (by decide)
          have A36 : Arv Z h36 da kd .int 3 (own_rg (3 : Int32).toNatClampNeg (fun x => .int (g2 x))) (.int 0) := A36
          refine OD.go (B := (T36.setTop (mkF m 272 #[.val (.ref a1), .val (.ref b5), .val (.ref b10), .val (.ref ca), .val (.ref da), .val (.int sh), .val (.ref r6), .val (.ref r7), .val (.int 3), .val (.int 3), .val (.long lv), .second] []))) st36 ?_
          exact OD.retV X36 hx hlk Bd.returns (bd d14_272) (by show cn ≤ (10 : Nat); omega) (by show sn ≤ (2100 : Nat); omega) ⟨_, _, rfl, N36, by rw [e36]; exact ((Kl.trans K30 (allS (Or.inl (List.mem_of_getElem? (i := 0) rfl)) all0)).trans K36 (allS (Or.inl (List.mem_of_getElem? (i := 1) rfl)) all0)), by rw [e36]; exact (A30.keep K36 (ninS ncd nin0)), by rw [e36]; exact A36⟩
        · show OD _ _ _ _ _ _ _ (Tl.setTop (mkF m 30 #[.val (.ref a1), .val (.ref b5), .val (.ref b10), .val (.ref ca), .val (.ref da), .val (.int sh), .val (.ref r6), .val (.ref r7), .val (.ref r8), .val (.int 3), .val (.long lv), .second] []))
          refine OD.go (B := (Tl.setTop (mkF m 236 #[.val (.ref a1), .val (.ref b5), .val (.ref b10), .val (.ref ca), .val (.ref da), .val (.int sh), .val (.ref r6), .val (.ref r7), .val (.ref r8), .val (.int 3), .val (.long lv), .second] [(.ref a1), (.ref b10)]))) (fun t k => XS.iload Xl.here hx rfl (bd d14_30) rfl (XS.bipush Xl.here hx rfl (bd d14_32) (XS.icmpYes Xl.here hx rfl (pc0 := 34) (pc' := 234) rfl (bd d14_34) rfl (flt hc).2.1 (by decide) (by decide) (XS.aloadN Xl.here hx rfl (bd d14_234) rfl rfl (XS.aloadN Xl.here hx rfl (bd d14_235) rfl rfl k))))) ?_
          obtain ⟨T38, X38, e38, st38⟩ := getF Xl hx hZ hown (host := "") (Or.inl (Wd39 hw)) Via.refl el Fdl (g := (mkF m 236 #[.val (.ref a1), .val (.ref b5), .val (.ref b10), .val (.ref ca), .val (.ref da), .val (.int sh), .val (.ref r6), .val (.ref r7), .val (.ref r8), .val (.int 3), .val (.long lv), .second] [(.ref a1), (.ref b10)])) rfl rfl (bd d14_236)
          refine OD.go st38 ?_
          refine OD.go (B := (T38.setTop (mkF m 245 #[.val (.ref a1), .val (.ref b5), .val (.ref b10), .val (.ref ca), .val (.ref da), .val (.int sh), .val (.ref r6), .val (.ref r7), .val (.ref r8), .val (.int 3), .val (.long lv), .second] [(.ref a1), (.int 0), (.ref b5)]))) (fun t k => RoadKit.acmp X38 hx rfl (x := (.ref b10)) (y := (.ref da)) rfl rfl (pc0 := 239) (pc' := 242) (same := false) rfl (bd d14_239) rfl (by have q_ := (Ne.symm ne5); simp [q_]) (by decide) (by decide) (XS.aloadN X38.here hx rfl (bd d14_242) rfl rfl (XS.iconst X38.here hx rfl (bd d14_243) (XS.aloadN X38.here hx rfl (bd d14_244) rfl rfl k)))) ?_
          obtain ⟨T39, X39, e39, st39⟩ := getF X38 hx hZ hown (host := "") (Or.inl (Wd41 hw)) Via.refl e38 Fcl (g := (mkF m 245 #[.val (.ref a1), .val (.ref b5), .val (.ref b10), .val (.ref ca), .val (.ref da), .val (.int sh), .val (.ref r6), .val (.ref r7), .val (.ref r8), .val (.int 3), .val (.long lv), .second] [(.ref a1), (.int 0), (.ref b5)])) rfl rfl (bd d14_245)
          refine OD.go st39 ?_
          refine OD.go (B := (T39.setTop (mkF m 250 #[.val (.ref a1), .val (.ref b5), .val (.ref b10), .val (.ref ca), .val (.ref da), .val (.int sh), .val (.ref r6), .val (.ref r7), .val (.ref r8), .val (.int 3), .val (.long lv), .second] [(.ref a1), (.int 0), (.ref ca), (.int 0), (.ref b5)]))) (fun t k => XS.iconst X39.here hx rfl (bd d14_248) (XS.aloadN X39.here hx rfl (bd d14_249) rfl rfl k)) ?_
          obtain ⟨T40, X40, e40, st40⟩ := getF X39 hx hZ hown (host := "") (Or.inl (Wd39 hw)) Via.refl e39 Fdl (g := (mkF m 250 #[.val (.ref a1), .val (.ref b5), .val (.ref b10), .val (.ref ca), .val (.ref da), .val (.int sh), .val (.ref r6), .val (.ref r7), .val (.ref r8), .val (.int 3), .val (.long lv), .second] [(.ref a1), (.int 0), (.ref ca), (.int 0), (.ref b5)])) rfl rfl (bd d14_250)
          refine OD.go (B := (T40.setTop (mkF m 253 #[.val (.ref a1), .val (.ref b5), .val (.ref b10), .val (.ref ca), .val (.ref da), .val (.int sh), .val (.ref r6), .val (.ref r7), .val (.ref r8), .val (.int 3), .val (.long lv), .second] [(.ref da), (.int 0), (.ref ca), (.int 0), (.ref b5)]))) st40 ?_
          obtain ⟨cl41, Ar41, hl41⟩ := own_len B2
          refine OD.go (B := (T40.setTop (mkF m 254 #[.val (.ref a1), .val (.ref b5), .val (.ref b10), .val (.ref ca), .val (.ref da), .val (.int sh), .val (.ref r6), .val (.ref r7), .val (.ref r8), .val (.int 3), .val (.long lv), .second] [(.int 3), (.int 0), (.ref ca), (.int 0), (.ref b5)]))) (fun t k => X40.arraylength hx (by rw [e40]; exact Ar41.1) (State.isArrayOf_alike hZ.alike Ar41.2.1) (g := (mkF m 253 #[.val (.ref a1), .val (.ref b5), .val (.ref b10), .val (.ref ca), .val (.ref da), .val (.int sh), .val (.ref r6), .val (.ref r7), .val (.ref r8), .val (.int 3), .val (.long lv), .second] [(.ref da), (.int 0), (.ref ca), (.int 0), (.ref b5)])) rfl rfl (bd d14_253) _ (by rw [hl41]; exact k)) ?_
          obtain ⟨T42, h42, L42, X42, e42, N42, K42, A42, st42⟩ := cpA X40 hx hZ hown (Wd144 hw) (Wd147 hw) (Wd145 hw) (Wd146 hw) e40 B3 B1 (Or.inl ⟨rfl, rfl⟩) (sp := (0 : Int32)) (dp := (0 : Int32)) (nn := (3 : Int32)) (by decide) (by decide) (by decide) (by decide) (by decide) (us := (own_rg (3 : Int32).toNatClampNeg (fun x => .long (f2 x)))) rfl (by rw [own_rg_len]; decide) Nl gc (g := (mkF m 254 #[.val (.ref a1), .val (.ref b5), .val (.ref b10), .val (.ref ca), .val (.ref da), .val (.int sh), .val (.ref r6), .val (.ref r7), .val (.ref r8), .val (.int 3), .val (.long lv), .second] [(.int 3), (.int 0), (.ref ca), (.int 0), (.ref b5)])) rfl (by rw [hml]; rfl) rfl (bd d14_254) (by decide) (W := 0) (by show 2 * 0 + _ ≤ _; exact Nat.le_of_eq rfl) (by decide)
          have A42 : Arv Z h42 ca kc .long (3 : Int32) (own_rg (3 : Int32).toNatClampNeg (fun x => .long (f2 x))) (.long (0 : Int64)) := A42
          refine OD.go st42 ?_
          refine OD.go (B := (T42.setTop (mkF m 260 #[.val (.ref a1), .val (.ref b5), .val (.ref b10), .val (.ref ca), .val (.ref da), .val (.int sh), .val (.ref r6), .val (.ref r7), .val (.ref r8), .val (.int 3), .val (.long lv), .second] [(.ref a1), (.int 0), (.ref b10)]))) (fun t k => XS.aloadN X42.here hx rfl (bd d14_257) rfl rfl (XS.iconst X42.here hx rfl (bd d14_258) (XS.aloadN X42.here hx rfl (bd d14_259) rfl rfl k))) ?_
          have f43 := (Fdl.keep K42 (ninS nc nin0))
          obtain ⟨T44, X44, e44, st44⟩ := getF X42 hx hZ hown (host := "") (Or.inl (Wd39 hw)) Via.refl e42 f43 (g := (mkF m 260 #[.val (.ref a1), .val (.ref b5), .val (.ref b10), .val (.ref ca), .val (.ref da), .val (.int sh), .val (.ref r6), .val (.ref r7), .val (.ref r8), .val (.int 3), .val (.long lv), .second] [(.ref a1), (.int 0), (.ref b10)])) rfl rfl (bd d14_260)
          refine OD.go st44 ?_
          refine OD.go (B := (T44.setTop (mkF m 265 #[.val (.ref a1), .val (.ref b5), .val (.ref b10), .val (.ref ca), .val (.ref da), .val (.int sh), .val (.ref r6), .val (.ref r7), .val (.ref r8), .val (.int 3), .val (.long lv), .second] [(.ref a1), (.int 0), (.ref da), (.int 0), (.ref b10)]))) (fun t k => XS.iconst X44.here hx rfl (bd d14_263) (XS.aloadN X44.here hx rfl (bd d14_264) rfl rfl k)) ?_
          obtain ⟨T45, X45, e45, st45⟩ := getF X44 hx hZ hown (host := "") (Or.inl (Wd39 hw)) Via.refl e44 f43 (g := (mkF m 265 #[.val (.ref a1), .val (.ref b5), .val (.ref b10), .val (.ref ca), .val (.ref da), .val (.int sh), .val (.ref r6), .val (.ref r7), .val (.ref r8), .val (.int 3), .val (.long lv), .second] [(.ref a1), (.int 0), (.ref da), (.int 0), (.ref b10)])) rfl rfl (bd d14_265)
          refine OD.go (B := (T45.setTop (mkF m 268 #[.val (.ref a1), .val (.ref b5), .val (.ref b10), .val (.ref ca), .val (.ref da), .val (.int sh), .val (.ref r6), .val (.ref r7), .val (.ref r8), .val (.int 3), .val (.long lv), .second] [(.ref da), (.int 0), (.ref da), (.int 0), (.ref b10)]))) st45 ?_
          have f46 := (B2.keep K42 (ninS (Ne.symm ncd) nin0))
          obtain ⟨cl47, Ar47, hl47⟩ := own_len f46
          refine OD.go (B := (T45.setTop (mkF m 269 #[.val (.ref a1), .val (.ref b5), .val (.ref b10), .val (.ref ca), .val (.ref da), .val (.int sh), .val (.ref r6), .val (.ref r7), .val (.ref r8), .val (.int 3), .val (.long lv), .second] [(.int 3), (.int 0), (.ref da), (.int 0), (.ref b10)]))) (fun t k => X45.arraylength hx (by rw [e45]; exact Ar47.1) (State.isArrayOf_alike hZ.alike Ar47.2.1) (g := (mkF m 268 #[.val (.ref a1), .val (.ref b5), .val (.ref b10), .val (.ref ca), .val (.ref da), .val (.int sh), .val (.ref r6), .val (.ref r7), .val (.ref r8), .val (.int 3), .val (.long lv), .second] [(.ref da), (.int 0), (.ref da), (.int 0), (.ref b10)])) rfl rfl (bd d14_268) _ (by rw [hl47]; exact k)) ?_
          have f49 := (B4.keep K42 (ninS (Ne.symm ne3) nin0))
          obtain ⟨T48, h48, L48, X48, e48, N48, K48, A48, st48⟩ := cpA X45 hx hZ hown (Wd144 hw) (Wd147 hw) (Wd145 hw) (Wd146 hw) e45 f49 f46 (Or.inl ⟨rfl, rfl⟩) (sp := (0 : Int32)) (dp := (0 : Int32)) (nn := (3 : Int32)) (by decide) (by decide) (by decide) (by decide) (by decide) (us := (own_rg (3 : Int32).toNatClampNeg (fun x => .int (g2 x)))) rfl (by rw [own_rg_len]; decide) N42 gd (g := (mkF m 269 #[.val (.ref a1), .val (.ref b5), .val (.ref b10), .val (.ref ca), .val (.ref da), .val (.int sh), .val (.ref r6), .val (.ref r7), .val (.ref r8), .val (.int 3), .val (.long lv), .second] [(.int 3), (.int 0), (.ref da), (.int 0), (.ref b10)])) rfl (by rw [hml]; rfl) rfl (bd d14_269) (by decide) (W := 0) (by show 2 * 0 + _ ≤ _; exact Nat.le_of_eq rfl) (by decide)
          have A48 : Arv Z h48 da kd .int 3 (own_rg (3 : Int32).toNatClampNeg (fun x => .int (g2 x))) (.int 0) := A48
          refine OD.go (B := (T48.setTop (mkF m 272 #[.val (.ref a1), .val (.ref b5), .val (.ref b10), .val (.ref ca), .val (.ref da), .val (.int sh), .val (.ref r6), .val (.ref r7), .val (.ref r8), .val (.int 3), .val (.long lv), .second] []))) st48 ?_
          exact OD.retV X48 hx hlk Bd.returns (bd d14_272) (by show cn ≤ (10 : Nat); omega) (by show sn ≤ (2100 : Nat); omega) ⟨_, _, rfl, N48, by rw [e48]; exact ((Kl.trans K42 (allS (Or.inl (List.mem_of_getElem? (i := 0) rfl)) all0)).trans K48 (allS (Or.inl (List.mem_of_getElem? (i := 1) rfl)) all0)), by rw [e48]; exact (A42.keep K48 (ninS ncd nin0)), by rw [e48]; exact A48⟩
    | succ t ih =>
      intro sh y1 y2 y3 y4 q6 q7 q8 q9 q10 q11 f1 f2 g1 g2 Tl hl Ll cn sn Xl hcn hsn el Nl Kl B1 B2 B3 B4 hor hfm hsh
      have Fcl := Fc.keep Kl (ninS nc (ninS nd nin0))
      have Fdl := Fd.keep Kl (ninS nc (ninS nd nin0))
      have hc := own_shL hsh
      rcases hor with ⟨rfl, rfl, rfl, rfl⟩ | ⟨rfl, rfl, rfl, rfl⟩
      · skip
        have mid : ∀ (Tm : State) (hm : Heap) (Lm : List Loc) (kk : Addr) (kK : ClassId) (Xm : Stand p l e (rO 1 10 2100 40) s m #[(.ref a1)] below meth c Tm Lm (cn + 1) (sn + 257)) (em : Tm.heap = hm) (Nm : Fr n0 Lm) (Km : Keep hl hm []) (gkk : n0 ≤ kk) (okk : h0.size ≤ kk) (nkk_a1 : a1 ≠ kk) (nkk_ca : ca ≠ kk) (nkk_da : da ≠ kk) (nkk_b5 : b5 ≠ kk) (nkk_b10 : b10 ≠ kk) (Vk : Arv Z hm kk kK .int 257 (own_rg (257 : Int32).toNatClampNeg (fun x => .int (own_zero x))) (.int 0)), OD p e s below (Q_rmSO Z a1 h0 n0 ca da kc kd) (rO 1 10 2100 40).cells (rO 1 10 2100 40).slots (Tm.setTop (mkF m 77 #[.val (.ref a1), .val (.ref ca), .val (.ref da), .val (.ref b5), .val (.ref b10), .val (.int sh), .val (.ref kk), .val (.ref ca), .val (.int 3), .val (.int 0), .val (.long (f1 (0 : Int32))), .second] [])) := by
          intro Tm hm Lm kk kK Xm em Nm Km gkk okk nkk_a1 nkk_ca nkk_da nkk_b5 nkk_b10 Vk
          refine OD.go (B := (Tm.setTop (mkF m 83 #[.val (.ref a1), .val (.ref ca), .val (.ref da), .val (.ref b5), .val (.ref b10), .val (.int sh), .val (.ref kk), .val (.ref ca), .val (.int 3), .val (.int 0), .val (.long (f1 (0 : Int32))), .second] [(.int sh), (.long (f1 (0 : Int32))), (.ref kk)]))) (fun t k => XS.aload Xm.here hx rfl (bd d14_77) rfl rfl (XS.lload Xm.here hx rfl (bd d14_79) rfl (XS.iload Xm.here hx rfl (bd d14_81) rfl k))) ?_
          obtain ⟨_, _, ⟨T50, L50, k50, n50⟩, -, X50, ⟨Lc50, hQ50, l50, y50, z50⟩, st50⟩ := Jvm.LawKit.callS Xm hx (y := (⟨zZ0, "sortingByte", "(JI)I"⟩ : MethodName)) hown (mvT hZ (Wd97 hw)) (mvT hZ (Wd98 hw)) (mvT hZ (Wd4 hw)) (mvT hZ (Wd99 hw)) (by decide) (backOf (W := 1) (rmSB l Z a0 hw [] (f1 (0 : Int32)) sh hm) hZ (Wd99 hw) (Wd4 hw) (by decide) (by decide)) (g := (mkF m 83 #[.val (.ref a1), .val (.ref ca), .val (.ref da), .val (.ref b5), .val (.ref b10), .val (.int sh), .val (.ref kk), .val (.ref ca), .val (.int 3), .val (.int 0), .val (.long (f1 (0 : Int32))), .second] [(.int sh), (.long (f1 (0 : Int32))), (.ref kk)])) rfl (by rw [hml]; rfl) (argsL := [(.long (f1 (0 : Int32))), (.int sh)]) (rest := [(.ref kk)]) (lenOf pd4 rfl) rfl (by show 2 * 0 + _ ≤ _; exact Nat.le_of_eq rfl) (bd d14_83) (fun _ _ => ⟨rfl, em, (by first | (show cn + 1 + 0 ≤ (10 : Nat); omega) | (show sn + 257 + 0 ≤ (2100 : Nat); omega)), (by first | (show cn + 1 + 0 ≤ (10 : Nat); omega) | (show sn + 257 + 0 ≤ (2100 : Nat); omega))⟩)
          dsimp only [Pt.U, Pt.locs, Pt.cells, Pt.slots] at X50 l50 y50 z50 st50 hQ50
          subst l50 y50 z50
          obtain ⟨rfl, rfl, e50⟩ := hQ50
          have N50 := Fr.app Nm (Fr.nil _)
          refine OD.go st50 ?_
          refine OD.go (B := (T50.setTop (mkF m 89 #[.val (.ref a1), .val (.ref ca), .val (.ref da), .val (.ref b5), .val (.ref b10), .val (.int sh), .val (.ref kk), .val (.ref ca), .val (.int 3), .val (.int 0), .val (.long (f1 (0 : Int32))), .second] [(.int ((own_sb (f1 (0 : Int32)) sh) + (1 : Int32))), (.ref kk), (.int ((own_sb (f1 (0 : Int32)) sh) + (1 : Int32))), (.ref kk)]))) (fun t k => XS.iconst X50.here hx rfl (bd d14_86) (XS.iadd X50.here hx rfl (bd d14_87) rfl (XT.dup2 X50.here hx rfl (bd d14_88) rfl rfl rfl k))) ?_
          obtain ⟨cl51, Ar51, hi51, ha51⟩ := own_at Vk (j := ((own_sb (f1 (0 : Int32)) sh) + (1 : Int32))) (v := (.int (own_zero ((own_sb (f1 (0 : Int32)) sh) + (1 : Int32))))) (own_sbB _ _) (own_rg_at (own_sbB _ _) _ _)
          refine OD.go (B := (T50.setTop (mkF m 92 #[.val (.ref a1), .val (.ref ca), .val (.ref da), .val (.ref b5), .val (.ref b10), .val (.int sh), .val (.ref kk), .val (.ref ca), .val (.int 3), .val (.int 0), .val (.long (f1 (0 : Int32))), .second] [(.int ((own_zero ((own_sb (f1 (0 : Int32)) sh) + (1 : Int32))) + (1 : Int32))), (.int ((own_sb (f1 (0 : Int32)) sh) + (1 : Int32))), (.ref kk)]))) (fun t k => X50.iaload hx (j := ((own_sb (f1 (0 : Int32)) sh) + (1 : Int32))) (v := (.int (own_zero ((own_sb (f1 (0 : Int32)) sh) + (1 : Int32))))) (by rw [e50]; exact Ar51.1) (State.isArrayOf_alike hZ.alike Ar51.2.1) Ar51.2.2 hi51 ha51 (g := (mkF m 89 #[.val (.ref a1), .val (.ref ca), .val (.ref da), .val (.ref b5), .val (.ref b10), .val (.int sh), .val (.ref kk), .val (.ref ca), .val (.int 3), .val (.int 0), .val (.long (f1 (0 : Int32))), .second] [(.int ((own_sb (f1 (0 : Int32)) sh) + (1 : Int32))), (.ref kk), (.int ((own_sb (f1 (0 : Int32)) sh) + (1 : Int32))), (.ref kk)])) rfl rfl (bd d14_89) _ (XS.iconst X50.here hx rfl (bd d14_90) (XS.iadd X50.here hx rfl (bd d14_91) rfl k))) ?_
          obtain ⟨cl53, Ar53, q53, S53, M53, H53, G53⟩ := id Vk
          obtain ⟨T53, h53, X53, e53, W53, st53⟩ := stI X50 hx hZ e50 Ar53 (j := ((own_sb (f1 (0 : Int32)) sh) + (1 : Int32))) (inb_of S53 (own_sbB _ _)) (g := (mkF m 92 #[.val (.ref a1), .val (.ref ca), .val (.ref da), .val (.ref b5), .val (.ref b10), .val (.int sh), .val (.ref kk), .val (.ref ca), .val (.int 3), .val (.int 0), .val (.long (f1 (0 : Int32))), .second] [(.int ((own_zero ((own_sb (f1 (0 : Int32)) sh) + (1 : Int32))) + (1 : Int32))), (.int ((own_sb (f1 (0 : Int32)) sh) + (1 : Int32))), (.ref kk)])) rfl rfl (bd d14_92)
          have V53 : Arv Z h53 kk kK .int 257 (own_rg (257 : Int32).toNatClampNeg (fun x => .int ((own_k1 f1 sh) x))) (.int 0) := own_put (fun x => .int ((own_k1 f1 sh) x)) Ar53 q53 S53 M53 H53 G53 rfl W53 (own_sbB _ _) (congrArg Value.int (own_up_at _ _ _)) (fun x q => congrArg Value.int (own_up_ne _ _ q))
          have N53 := Fr.snoc X53 N50 gkk
          refine OD.go st53 ?_
          refine OD.go (B := (T53.setTop (mkF m 74 #[.val (.ref a1), .val (.ref ca), .val (.ref da), .val (.ref b5), .val (.ref b10), .val (.int sh), .val (.ref kk), .val (.ref ca), .val (.int 3), .val (.int 1), .val (.long (f1 (0 : Int32))), .second] [(.int 1), (.ref ca)]))) (fun t k => XS.iinc X53.here hx rfl (bd d14_93) rfl (l' := #[.val (.ref a1), .val (.ref ca), .val (.ref da), .val (.ref b5), .val (.ref b10), .val (.int sh), .val (.ref kk), .val (.ref ca), .val (.int 3), .val (.int 1), .val (.long (f1 (0 : Int32))), .second]) rfl (XS.goto X53.here hx rfl (pc0 := 96) (pc' := 63) rfl (bd d14_96) (by decide) (by decide) (XS.iload X53.here hx rfl (bd d14_63) rfl (XS.iload X53.here hx rfl (bd d14_65) rfl (XS.icmpNo X53.here hx rfl (bd d14_67) rfl (tlt (by decide : (1 : Int32) < (3 : Int32))).2.1 (XS.aload X53.here hx rfl (bd d14_70) rfl rfl (XS.iload X53.here hx rfl (bd d14_72) rfl k))))))) ?_
          have f54 := ((B1.keep Km nin0).other W53 nkk_ca)
          obtain ⟨cl55, Ar55, hi55, ha55⟩ := own_at f54 (j := (1 : Int32)) (v := (.long (f1 (1 : Int32)))) ⟨by decide, by decide⟩ (own_rg_at ⟨by decide, by decide⟩ _ _)
          refine OD.go (B := (T53.setTop (mkF m 83 #[.val (.ref a1), .val (.ref ca), .val (.ref da), .val (.ref b5), .val (.ref b10), .val (.int sh), .val (.ref kk), .val (.ref ca), .val (.int 3), .val (.int 1), .val (.long (f1 (1 : Int32))), .second] [(.int sh), (.long (f1 (1 : Int32))), (.ref kk)]))) (fun t k => X53.laload hx (j := (1 : Int32)) (v := (.long (f1 (1 : Int32)))) (by rw [e53]; exact Ar55.1) (State.isArrayOf_alike hZ.alike Ar55.2.1) Ar55.2.2 hi55 ha55 (g := (mkF m 74 #[.val (.ref a1), .val (.ref ca), .val (.ref da), .val (.ref b5), .val (.ref b10), .val (.int sh), .val (.ref kk), .val (.ref ca), .val (.int 3), .val (.int 1), .val (.long (f1 (0 : Int32))), .second] [(.int 1), (.ref ca)])) rfl rfl (bd d14_74) _ (XS.lstore X53.here hx rfl (bd d14_75) rfl (l' := #[.val (.ref a1), .val (.ref ca), .val (.ref da), .val (.ref b5), .val (.ref b10), .val (.int sh), .val (.ref kk), .val (.ref ca), .val (.int 3), .val (.int 1), .val (.long (f1 (1 : Int32))), .second]) rfl (XS.aload X53.here hx rfl (bd d14_77) rfl rfl (XS.lload X53.here hx rfl (bd d14_79) rfl (XS.iload X53.here hx rfl (bd d14_81) rfl k))))) ?_
          obtain ⟨_, _, ⟨T56, L56, k56, n56⟩, -, X56, ⟨Lc56, hQ56, l56, y56, z56⟩, st56⟩ := Jvm.LawKit.callS X53 hx (y := (⟨zZ0, "sortingByte", "(JI)I"⟩ : MethodName)) hown (mvT hZ (Wd97 hw)) (mvT hZ (Wd98 hw)) (mvT hZ (Wd4 hw)) (mvT hZ (Wd99 hw)) (by decide) (backOf (W := 1) (rmSB l Z a0 hw [] (f1 (1 : Int32)) sh h53) hZ (Wd99 hw) (Wd4 hw) (by decide) (by decide)) (g := (mkF m 83 #[.val (.ref a1), .val (.ref ca), .val (.ref da), .val (.ref b5), .val (.ref b10), .val (.int sh), .val (.ref kk), .val (.ref ca), .val (.int 3), .val (.int 1), .val (.long (f1 (1 : Int32))), .second] [(.int sh), (.long (f1 (1 : Int32))), (.ref kk)])) rfl (by rw [hml]; rfl) (argsL := [(.long (f1 (1 : Int32))), (.int sh)]) (rest := [(.ref kk)]) (lenOf pd4 rfl) rfl (by show 2 * 0 + _ ≤ _; exact Nat.le_of_eq rfl) (bd d14_83) (fun _ _ => ⟨rfl, e53, (by first | (show cn + 1 + 0 ≤ (10 : Nat); omega) | (show sn + 257 + 0 ≤ (2100 : Nat); omega)), (by first | (show cn + 1 + 0 ≤ (10 : Nat); omega) | (show sn + 257 + 0 ≤ (2100 : Nat); omega))⟩)
          dsimp only [Pt.U, Pt.locs, Pt.cells, Pt.slots] at X56 l56 y56 z56 st56 hQ56
          subst l56 y56 z56
          obtain ⟨rfl, rfl, e56⟩ := hQ56
          have N56 := Fr.app N53 (Fr.nil _)
          refine OD.go st56 ?_
          refine OD.go (B := (T56.setTop (mkF m 89 #[.val (.ref a1), .val (.ref ca), .val (.ref da), .val (.ref b5), .val (.ref b10), .val (.int sh), .val (.ref kk), .val (.ref ca), .val (.int 3), .val (.int 1), .val (.long (f1 (1 : Int32))), .second] [(.int ((own_sb (f1 (1 : Int32)) sh) + (1 : Int32))), (.ref kk), (.int ((own_sb (f1 (1 : Int32)) sh) + (1 : Int32))), (.ref kk)]))) (fun t k => XS.iconst X56.here hx rfl (bd d14_86) (XS.iadd X56.here hx rfl (bd d14_87) rfl (XT.dup2 X56.here hx rfl (bd d14_88) rfl rfl rfl k))) ?_
          obtain ⟨cl57, Ar57, hi57, ha57⟩ := own_at V53 (j := ((own_sb (f1 (1 : Int32)) sh) + (1 : Int32))) (v := (.int ((own_k1 f1 sh) ((own_sb (f1 (1 : Int32)) sh) + (1 : Int32))))) (own_sbB _ _) (own_rg_at (own_sbB _ _) _ _)
          refine OD.go (B := (T56.setTop (mkF m 92 #[.val (.ref a1), .val (.ref ca), .val (.ref da), .val (.ref b5), .val (.ref b10), .val (.int sh), .val (.ref kk), .val (.ref ca), .val (.int 3), .val (.int 1), .val (.long (f1 (1 : Int32))), .second] [(.int (((own_k1 f1 sh) ((own_sb (f1 (1 : Int32)) sh) + (1 : Int32))) + (1 : Int32))), (.int ((own_sb (f1 (1 : Int32)) sh) + (1 : Int32))), (.ref kk)]))) (fun t k => X56.iaload hx (j := ((own_sb (f1 (1 : Int32)) sh) + (1 : Int32))) (v := (.int ((own_k1 f1 sh) ((own_sb (f1 (1 : Int32)) sh) + (1 : Int32))))) (by rw [e56]; exact Ar57.1) (State.isArrayOf_alike hZ.alike Ar57.2.1) Ar57.2.2 hi57 ha57 (g := (mkF m 89 #[.val (.ref a1), .val (.ref ca), .val (.ref da), .val (.ref b5), .val (.ref b10), .val (.int sh), .val (.ref kk), .val (.ref ca), .val (.int 3), .val (.int 1), .val (.long (f1 (1 : Int32))), .second] [(.int ((own_sb (f1 (1 : Int32)) sh) + (1 : Int32))), (.ref kk), (.int ((own_sb (f1 (1 : Int32)) sh) + (1 : Int32))), (.ref kk)])) rfl rfl (bd d14_89) _ (XS.iconst X56.here hx rfl (bd d14_90) (XS.iadd X56.here hx rfl (bd d14_91) rfl k))) ?_
          obtain ⟨cl59, Ar59, q59, S59, M59, H59, G59⟩ := id V53
          obtain ⟨T59, h59, X59, e59, W59, st59⟩ := stI X56 hx hZ e56 Ar59 (j := ((own_sb (f1 (1 : Int32)) sh) + (1 : Int32))) (inb_of S59 (own_sbB _ _)) (g := (mkF m 92 #[.val (.ref a1), .val (.ref ca), .val (.ref da), .val (.ref b5), .val (.ref b10), .val (.int sh), .val (.ref kk), .val (.ref ca), .val (.int 3), .val (.int 1), .val (.long (f1 (1 : Int32))), .second] [(.int (((own_k1 f1 sh) ((own_sb (f1 (1 : Int32)) sh) + (1 : Int32))) + (1 : Int32))), (.int ((own_sb (f1 (1 : Int32)) sh) + (1 : Int32))), (.ref kk)])) rfl rfl (bd d14_92)
          have V59 : Arv Z h59 kk kK .int 257 (own_rg (257 : Int32).toNatClampNeg (fun x => .int ((own_k2 f1 sh) x))) (.int 0) := own_put (fun x => .int ((own_k2 f1 sh) x)) Ar59 q59 S59 M59 H59 G59 rfl W59 (own_sbB _ _) (congrArg Value.int (own_up_at _ _ _)) (fun x q => congrArg Value.int (own_up_ne _ _ q))
          have N59 := Fr.snoc X59 N56 gkk
          refine OD.go st59 ?_
          refine OD.go (B := (T59.setTop (mkF m 74 #[.val (.ref a1), .val (.ref ca), .val (.ref da), .val (.ref b5), .val (.ref b10), .val (.int sh), .val (.ref kk), .val (.ref ca), .val (.int 3), .val (.int 2), .val (.long (f1 (1 : Int32))), .second] [(.int 2), (.ref ca)]))) (fun t k => XS.iinc X59.here hx rfl (bd d14_93) rfl (l' := #[.val (.ref a1), .val (.ref ca), .val (.ref da), .val (.ref b5), .val (.ref b10), .val (.int sh), .val (.ref kk), .val (.ref ca), .val (.int 3), .val (.int 2), .val (.long (f1 (1 : Int32))), .second]) rfl (XS.goto X59.here hx rfl (pc0 := 96) (pc' := 63) rfl (bd d14_96) (by decide) (by decide) (XS.iload X59.here hx rfl (bd d14_63) rfl (XS.iload X59.here hx rfl (bd d14_65) rfl (XS.icmpNo X59.here hx rfl (bd d14_67) rfl (tlt (by decide : (2 : Int32) < (3 : Int32))).2.1 (XS.aload X59.here hx rfl (bd d14_70) rfl rfl (XS.iload X59.here hx rfl (bd d14_72) rfl k))))))) ?_
          have f60 := (f54.other W59 nkk_ca)
          obtain ⟨cl61, Ar61, hi61, ha61⟩ := own_at f60 (j := (2 : Int32)) (v := (.long (f1 (2 : Int32)))) ⟨by decide, by decide⟩ (own_rg_at ⟨by decide, by decide⟩ _ _)
          refine OD.go (B := (T59.setTop (mkF m 83 #[.val (.ref a1), .val (.ref ca), .val (.ref da), .val (.ref b5), .val (.ref b10), .val (.int sh), .val (.ref kk), .val (.ref ca), .val (.int 3), .val (.int 2), .val (.long (f1 (2 : Int32))), .second] [(.int sh), (.long (f1 (2 : Int32))), (.ref kk)]))) (fun t k => X59.laload hx (j := (2 : Int32)) (v := (.long (f1 (2 : Int32)))) (by rw [e59]; exact Ar61.1) (State.isArrayOf_alike hZ.alike Ar61.2.1) Ar61.2.2 hi61 ha61 (g := (mkF m 74 #[.val (.ref a1), .val (.ref ca), .val (.ref da), .val (.ref b5), .val (.ref b10), .val (.int sh), .val (.ref kk), .val (.ref ca), .val (.int 3), .val (.int 2), .val (.long (f1 (1 : Int32))), .second] [(.int 2), (.ref ca)])) rfl rfl (bd d14_74) _ (XS.lstore X59.here hx rfl (bd d14_75) rfl (l' := #[.val (.ref a1), .val (.ref ca), .val (.ref da), .val (.ref b5), .val (.ref b10), .val (.int sh), .val (.ref kk), .val (.ref ca), .val (.int 3), .val (.int 2), .val (.long (f1 (2 : Int32))), .second]) rfl (XS.aload X59.here hx rfl (bd d14_77) rfl rfl (XS.lload X59.here hx rfl (bd d14_79) rfl (XS.iload X59.here hx rfl (bd d14_81) rfl k))))) ?_
          obtain ⟨_, _, ⟨T62, L62, k62, n62⟩, -, X62, ⟨Lc62, hQ62, l62, y62, z62⟩, st62⟩ := Jvm.LawKit.callS X59 hx (y := (⟨zZ0, "sortingByte", "(JI)I"⟩ : MethodName)) hown (mvT hZ (Wd97 hw)) (mvT hZ (Wd98 hw)) (mvT hZ (Wd4 hw)) (mvT hZ (Wd99 hw)) (by decide) (backOf (W := 1) (rmSB l Z a0 hw [] (f1 (2 : Int32)) sh h59) hZ (Wd99 hw) (Wd4 hw) (by decide) (by decide)) (g := (mkF m 83 #[.val (.ref a1), .val (.ref ca), .val (.ref da), .val (.ref b5), .val (.ref b10), .val (.int sh), .val (.ref kk), .val (.ref ca), .val (.int 3), .val (.int 2), .val (.long (f1 (2 : Int32))), .second] [(.int sh), (.long (f1 (2 : Int32))), (.ref kk)])) rfl (by rw [hml]; rfl) (argsL := [(.long (f1 (2 : Int32))), (.int sh)]) (rest := [(.ref kk)]) (lenOf pd4 rfl) rfl (by show 2 * 0 + _ ≤ _; exact Nat.le_of_eq rfl) (bd d14_83) (fun _ _ => ⟨rfl, e59, (by first | (show cn + 1 + 0 ≤ (10 : Nat); omega) | (show sn + 257 + 0 ≤ (2100 : Nat); omega)), (by first | (show cn + 1 + 0 ≤ (10 : Nat); omega) | (show sn + 257 + 0 ≤ (2100 : Nat); omega))⟩)
          dsimp only [Pt.U, Pt.locs, Pt.cells, Pt.slots] at X62 l62 y62 z62 st62 hQ62
          subst l62 y62 z62
          obtain ⟨rfl, rfl, e62⟩ := hQ62
          have N62 := Fr.app N59 (Fr.nil _)
          refine OD.go st62 ?_
          refine OD.go (B := (T62.setTop (mkF m 89 #[.val (.ref a1), .val (.ref ca), .val (.ref da), .val (.ref b5), .val (.ref b10), .val (.int sh), .val (.ref kk), .val (.ref ca), .val (.int 3), .val (.int 2), .val (.long (f1 (2 : Int32))), .second] [(.int ((own_sb (f1 (2 : Int32)) sh) + (1 : Int32))), (.ref kk), (.int ((own_sb (f1 (2 : Int32)) sh) + (1 : Int32))), (.ref kk)]))) (fun t k => XS.iconst X62.here hx rfl (bd d14_86) (XS.iadd X62.here hx rfl (bd d14_87) rfl (XT.dup2 X62.here hx rfl (bd d14_88) rfl rfl rfl k))) ?_
          obtain ⟨cl63, Ar63, hi63, ha63⟩ := own_at V59 (j := ((own_sb (f1 (2 : Int32)) sh) + (1 : Int32))) (v := (.int ((own_k2 f1 sh) ((own_sb (f1 (2 : Int32)) sh) + (1 : Int32))))) (own_sbB _ _) (own_rg_at (own_sbB _ _) _ _)
          refine OD.go (B := (T62.setTop (mkF m 92 #[.val (.ref a1), .val (.ref ca), .val (.ref da), .val (.ref b5), .val (.ref b10), .val (.int sh), .val (.ref kk), .val (.ref ca), .val (.int 3), .val (.int 2), .val (.long (f1 (2 : Int32))), .second] [(.int (((own_k2 f1 sh) ((own_sb (f1 (2 : Int32)) sh) + (1 : Int32))) + (1 : Int32))), (.int ((own_sb (f1 (2 : Int32)) sh) + (1 : Int32))), (.ref kk)]))) (fun t k => X62.iaload hx (j := ((own_sb (f1 (2 : Int32)) sh) + (1 : Int32))) (v := (.int ((own_k2 f1 sh) ((own_sb (f1 (2 : Int32)) sh) + (1 : Int32))))) (by rw [e62]; exact Ar63.1) (State.isArrayOf_alike hZ.alike Ar63.2.1) Ar63.2.2 hi63 ha63 (g := (mkF m 89 #[.val (.ref a1), .val (.ref ca), .val (.ref da), .val (.ref b5), .val (.ref b10), .val (.int sh), .val (.ref kk), .val (.ref ca), .val (.int 3), .val (.int 2), .val (.long (f1 (2 : Int32))), .second] [(.int ((own_sb (f1 (2 : Int32)) sh) + (1 : Int32))), (.ref kk), (.int ((own_sb (f1 (2 : Int32)) sh) + (1 : Int32))), (.ref kk)])) rfl rfl (bd d14_89) _ (XS.iconst X62.here hx rfl (bd d14_90) (XS.iadd X62.here hx rfl (bd d14_91) rfl k))) ?_
          obtain ⟨cl65, Ar65, q65, S65, M65, H65, G65⟩ := id V59
          obtain ⟨T65, h65, X65, e65, W65, st65⟩ := stI X62 hx hZ e62 Ar65 (j := ((own_sb (f1 (2 : Int32)) sh) + (1 : Int32))) (inb_of S65 (own_sbB _ _)) (g := (mkF m 92 #[.val (.ref a1), .val (.ref ca), .val (.ref da), .val (.ref b5), .val (.ref b10), .val (.int sh), .val (.ref kk), .val (.ref ca), .val (.int 3), .val (.int 2), .val (.long (f1 (2 : Int32))), .second] [(.int (((own_k2 f1 sh) ((own_sb (f1 (2 : Int32)) sh) + (1 : Int32))) + (1 : Int32))), (.int ((own_sb (f1 (2 : Int32)) sh) + (1 : Int32))), (.ref kk)])) rfl rfl (bd d14_92)
          have V65 : Arv Z h65 kk kK .int 257 (own_rg (257 : Int32).toNatClampNeg (fun x => .int ((own_k3 f1 sh) x))) (.int 0) := own_put (fun x => .int ((own_k3 f1 sh) x)) Ar65 q65 S65 M65 H65 G65 rfl W65 (own_sbB _ _) (congrArg Value.int (own_up_at _ _ _)) (fun x q => congrArg Value.int (own_up_ne _ _ q))
          have N65 := Fr.snoc X65 N62 gkk
          refine OD.go st65 ?_
          refine OD.go (B := (T65.setTop (mkF m 103 #[.val (.ref a1), .val (.ref ca), .val (.ref da), .val (.ref b5), .val (.ref b10), .val (.int sh), .val (.ref kk), .val (.ref ca), .val (.int 3), .val (.int 3), .val (.long (f1 (2 : Int32))), .second] [(.int 0), (.ref ca), (.ref kk)]))) (fun t k => XS.iinc X65.here hx rfl (bd d14_93) rfl (l' := #[.val (.ref a1), .val (.ref ca), .val (.ref da), .val (.ref b5), .val (.ref b10), .val (.int sh), .val (.ref kk), .val (.ref ca), .val (.int 3), .val (.int 3), .val (.long (f1 (2 : Int32))), .second]) rfl (XS.goto X65.here hx rfl (pc0 := 96) (pc' := 63) rfl (bd d14_96) (by decide) (by decide) (XS.iload X65.here hx rfl (bd d14_63) rfl (XS.iload X65.here hx rfl (bd d14_65) rfl (XS.icmpYes X65.here hx rfl (pc0 := 67) (pc' := 99) rfl (bd d14_67) rfl (flt (by decide : ¬ (3 : Int32) < (3 : Int32))).2.1 (by decide) (by decide) (XS.aload X65.here hx rfl (bd d14_99) rfl rfl (XS.aloadN X65.here hx rfl (bd d14_101) rfl rfl (XS.iconst X65.here hx rfl (bd d14_102) k)))))))) ?_
          have f66 := (f60.other W65 nkk_ca)
          obtain ⟨cl67, Ar67, hi67, ha67⟩ := own_at f66 (j := (0 : Int32)) (v := (.long (f1 (0 : Int32)))) ⟨by decide, by decide⟩ (own_rg_at ⟨by decide, by decide⟩ _ _)
          refine OD.go (B := (T65.setTop (mkF m 106 #[.val (.ref a1), .val (.ref ca), .val (.ref da), .val (.ref b5), .val (.ref b10), .val (.int sh), .val (.ref kk), .val (.ref ca), .val (.int 3), .val (.int 3), .val (.long (f1 (2 : Int32))), .second] [(.int sh), (.long (f1 (0 : Int32))), (.ref kk)]))) (fun t k => X65.laload hx (j := (0 : Int32)) (v := (.long (f1 (0 : Int32)))) (by rw [e65]; exact Ar67.1) (State.isArrayOf_alike hZ.alike Ar67.2.1) Ar67.2.2 hi67 ha67 (g := (mkF m 103 #[.val (.ref a1), .val (.ref ca), .val (.ref da), .val (.ref b5), .val (.ref b10), .val (.int sh), .val (.ref kk), .val (.ref ca), .val (.int 3), .val (.int 3), .val (.long (f1 (2 : Int32))), .second] [(.int 0), (.ref ca), (.ref kk)])) rfl rfl (bd d14_103) _ (XS.iload X65.here hx rfl (bd d14_104) rfl k)) ?_
          obtain ⟨_, _, ⟨T68, L68, k68, n68⟩, -, X68, ⟨Lc68, hQ68, l68, y68, z68⟩, st68⟩ := Jvm.LawKit.callS X65 hx (y := (⟨zZ0, "sortingByte", "(JI)I"⟩ : MethodName)) hown (mvT hZ (Wd97 hw)) (mvT hZ (Wd98 hw)) (mvT hZ (Wd4 hw)) (mvT hZ (Wd99 hw)) (by decide) (backOf (W := 1) (rmSB l Z a0 hw [] (f1 (0 : Int32)) sh h65) hZ (Wd99 hw) (Wd4 hw) (by decide) (by decide)) (g := (mkF m 106 #[.val (.ref a1), .val (.ref ca), .val (.ref da), .val (.ref b5), .val (.ref b10), .val (.int sh), .val (.ref kk), .val (.ref ca), .val (.int 3), .val (.int 3), .val (.long (f1 (2 : Int32))), .second] [(.int sh), (.long (f1 (0 : Int32))), (.ref kk)])) rfl (by rw [hml]; rfl) (argsL := [(.long (f1 (0 : Int32))), (.int sh)]) (rest := [(.ref kk)]) (lenOf pd4 rfl) rfl (by show 2 * 0 + _ ≤ _; exact Nat.le_of_eq rfl) (bd d14_106) (fun _ _ => ⟨rfl, e65, (by first | (show cn + 1 + 0 ≤ (10 : Nat); omega) | (show sn + 257 + 0 ≤ (2100 : Nat); omega)), (by first | (show cn + 1 + 0 ≤ (10 : Nat); omega) | (show sn + 257 + 0 ≤ (2100 : Nat); omega))⟩)
          dsimp only [Pt.U, Pt.locs, Pt.cells, Pt.slots] at X68 l68 y68 z68 st68 hQ68
          subst l68 y68 z68
          obtain ⟨rfl, rfl, e68⟩ := hQ68
          have N68 := Fr.app N65 (Fr.nil _)
          refine OD.go st68 ?_
          refine OD.go (B := (T68.setTop (mkF m 111 #[.val (.ref a1), .val (.ref ca), .val (.ref da), .val (.ref b5), .val (.ref b10), .val (.int sh), .val (.ref kk), .val (.ref ca), .val (.int 3), .val (.int 3), .val (.long (f1 (2 : Int32))), .second] [(.int ((own_sb (f1 (0 : Int32)) sh) + (1 : Int32))), (.ref kk)]))) (fun t k => XS.iconst X68.here hx rfl (bd d14_109) (XS.iadd X68.here hx rfl (bd d14_110) rfl k)) ?_
          obtain ⟨cl69, Ar69, hi69, ha69⟩ := own_at V65 (j := ((own_sb (f1 (0 : Int32)) sh) + (1 : Int32))) (v := (.int ((own_k3 f1 sh) ((own_sb (f1 (0 : Int32)) sh) + (1 : Int32))))) (own_sbB _ _) (own_rg_at (own_sbB _ _) _ _)
          refine OD.go (B := (T68.setTop (mkF m 113 #[.val (.ref a1), .val (.ref ca), .val (.ref da), .val (.ref b5), .val (.ref b10), .val (.int sh), .val (.ref kk), .val (.ref ca), .val (.int 3), .val (.int 3), .val (.long (f1 (2 : Int32))), .second] [(.ref a1), (.int ((own_k3 f1 sh) ((own_sb (f1 (0 : Int32)) sh) + (1 : Int32))))]))) (fun t k => X68.iaload hx (j := ((own_sb (f1 (0 : Int32)) sh) + (1 : Int32))) (v := (.int ((own_k3 f1 sh) ((own_sb (f1 (0 : Int32)) sh) + (1 : Int32))))) (by rw [e68]; exact Ar69.1) (State.isArrayOf_alike hZ.alike Ar69.2.1) Ar69.2.2 hi69 ha69 (g := (mkF m 111 #[.val (.ref a1), .val (.ref ca), .val (.ref da), .val (.ref b5), .val (.ref b10), .val (.int sh), .val (.ref kk), .val (.ref ca), .val (.int 3), .val (.int 3), .val (.long (f1 (2 : Int32))), .second] [(.int ((own_sb (f1 (0 : Int32)) sh) + (1 : Int32))), (.ref kk)])) rfl rfl (bd d14_111) _ (XS.aloadN X68.here hx rfl (bd d14_112) rfl rfl k)) ?_
          have f70 := ((((Fdl.keep Km nin0).other W53 (Or.inl nkk_a1)).other W59 (Or.inl nkk_a1)).other W65 (Or.inl nkk_a1))
          obtain ⟨T71, X71, e71, st71⟩ := getF X68 hx hZ hown (host := "") (Or.inl (Wd39 hw)) Via.refl e68 f70 (g := (mkF m 113 #[.val (.ref a1), .val (.ref ca), .val (.ref da), .val (.ref b5), .val (.ref b10), .val (.int sh), .val (.ref kk), .val (.ref ca), .val (.int 3), .val (.int 3), .val (.long (f1 (2 : Int32))), .second] [(.ref a1), (.int ((own_k3 f1 sh) ((own_sb (f1 (0 : Int32)) sh) + (1 : Int32))))])) rfl rfl (bd d14_113)
          refine OD.go (B := (T71.setTop (mkF m 116 #[.val (.ref a1), .val (.ref ca), .val (.ref da), .val (.ref b5), .val (.ref b10), .val (.int sh), .val (.ref kk), .val (.ref ca), .val (.int 3), .val (.int 3), .val (.long (f1 (2 : Int32))), .second] [(.ref da), (.int ((own_k3 f1 sh) ((own_sb (f1 (0 : Int32)) sh) + (1 : Int32))))]))) st71 ?_
          have f72 := ((((B2.keep Km nin0).other W53 nkk_da).other W59 nkk_da).other W65 nkk_da)
          obtain ⟨cl73, Ar73, hl73⟩ := own_len f72
          refine OD.go (B := (T71.setTop (mkF m 117 #[.val (.ref a1), .val (.ref ca), .val (.ref da), .val (.ref b5), .val (.ref b10), .val (.int sh), .val (.ref kk), .val (.ref ca), .val (.int 3), .val (.int 3), .val (.long (f1 (2 : Int32))), .second] [(.int 3), (.int ((own_k3 f1 sh) ((own_sb (f1 (0 : Int32)) sh) + (1 : Int32))))]))) (fun t k => X71.arraylength hx (by rw [e71]; exact Ar73.1) (State.isArrayOf_alike hZ.alike Ar73.2.1) (g := (mkF m 116 #[.val (.ref a1), .val (.ref ca), .val (.ref da), .val (.ref b5), .val (.ref b10), .val (.int sh), .val (.ref kk), .val (.ref ca), .val (.int 3), .val (.int 3), .val (.long (f1 (2 : Int32))), .second] [(.ref da), (.int ((own_k3 f1 sh) ((own_sb (f1 (0 : Int32)) sh) + (1 : Int32))))])) rfl rfl (bd d14_116) _ (by rw [hl73]; exact k)) ?_
          by_cases c117_74 : ((own_k3 f1 sh) ((own_sb (f1 (0 : Int32)) sh) + (1 : Int32))) = (3 : Int32)
          · refine OD.go (B := (T71.setTop (mkF m 30 #[.val (.ref a1), .val (.ref ca), .val (.ref da), .val (.ref b5), .val (.ref b10), .val (.int (sh + (8 : Int32))), .val (.ref kk), .val (.ref ca), .val (.int 3), .val (.int 3), .val (.long (f1 (2 : Int32))), .second] []))) (fun t k => XS.icmpNo X71.here hx rfl (bd d14_117) rfl (teq c117_74).2 (XS.goto X71.here hx rfl (pc0 := 120) (pc' := 228) rfl (bd d14_120) (by decide) (by decide) (XS.iinc X71.here hx rfl (bd d14_228) rfl (l' := #[.val (.ref a1), .val (.ref ca), .val (.ref da), .val (.ref b5), .val (.ref b10), .val (.int (sh + (8 : Int32))), .val (.ref kk), .val (.ref ca), .val (.int 3), .val (.int 3), .val (.long (f1 (2 : Int32))), .second]) rfl (XS.goto X71.here hx rfl (pc0 := 231) (pc' := 30) rfl (bd d14_231) (by decide) (by decide) k)))) ?_
            exact ih _ _ _ _ _ _ _ _ _ _ _ _ _ _ _ _ _ _ _ _ X71 (by omega) (by omega) e71 N68 ((((Kl.trans Km all0).wr W53 (Or.inr okk)).wr W59 (Or.inr okk)).wr W65 (Or.inr okk)) f66 f72 ((((B3.keep Km nin0).other W53 nkk_b5).other W59 nkk_b5).other W65 nkk_b5) ((((B4.keep Km nin0).other W53 nkk_b10).other W59 nkk_b10).other W65 nkk_b10) (Or.inl ⟨rfl, rfl, rfl, rfl⟩) (Or.inr (Or.inl ⟨_, _, _, rfl, rfl, rfl, rfl, rfl, rfl⟩)) (own_sh8 hsh)
          · refine OD.go (B := (T71.setTop (mkF m 126 #[.val (.ref a1), .val (.ref ca), .val (.ref da), .val (.ref b5), .val (.ref b10), .val (.int sh), .val (.ref kk), .val (.int 0), .val (.int 3), .val (.int 3), .val (.long (f1 (2 : Int32))), .second] []))) (fun t k => XS.icmpYes X71.here hx rfl (pc0 := 117) (pc' := 123) rfl (bd d14_117) rfl (feq c117_74).2 (by decide) (by decide) (XS.iconst X71.here hx rfl (bd d14_123) (XS.istore X71.here hx rfl (bd d14_124) rfl (l' := #[.val (.ref a1), .val (.ref ca), .val (.ref da), .val (.ref b5), .val (.ref b10), .val (.int sh), .val (.ref kk), .val (.int 0), .val (.int 3), .val (.int 3), .val (.long (f1 (2 : Int32))), .second]) rfl k))) ?_
            have pre : ∀ (fu : Nat) (iv : Int32) (G : Int32 → Int32) (Tp : State) (hp : Heap) (Lp : List Loc), Stand p l e (rO 1 10 2100 40) s m #[(.ref a1)] below meth c Tp Lp (cn + 1) (sn + 257) → Tp.heap = hp → Fr n0 Lp → Keep h65 hp [kk] → Arv Z hp kk kK .int 257 (own_rg (257 : Int32).toNatClampNeg (fun x => .int (G x))) (.int 0) → (0 ≤ iv.toInt ∧ iv.toInt + fu = 256) → own_pl fu iv G = own_PF f1 sh → OD p e s below (Q_rmSO Z a1 h0 n0 ca da kc kd) (rO 1 10 2100 40).cells (rO 1 10 2100 40).slots (Tp.setTop (mkF m 126 #[.val (.ref a1), .val (.ref ca), .val (.ref da), .val (.ref b5), .val (.ref b10), .val (.int sh), .val (.ref kk), .val (.int iv), .val (.int 3), .val (.int 3), .val (.long (f1 (2 : Int32))), .second] [])) := by
              intro fu
              induction fu with
              | zero =>
                intro iv G Tp hp Lp Xp ep Np Kp Vp hiv hG
                have hc2 := own_iv0 hiv
                have Vp : Arv Z hp kk kK .int 257 (own_rg (257 : Int32).toNatClampNeg (fun x => .int ((own_PF f1 sh) x))) (.int 0) := (show G = own_PF f1 sh from hG) ▸ Vp
                refine OD.go (B := (Tp.setTop (mkF m 161 #[.val (.ref a1), .val (.ref ca), .val (.ref da), .val (.ref b5), .val (.ref b10), .val (.int sh), .val (.ref kk), .val (.int 0), .val (.int 3), .val (.int 3), .val (.long (f1 (2 : Int32))), .second] [(.ref a1), (.int 0)]))) (fun t k => XS.iload Xp.here hx rfl (bd d14_126) rfl (XS.sipush Xp.here hx rfl (bd d14_128) (XS.icmpYes Xp.here hx rfl (pc0 := 131) (pc' := 155) rfl (bd d14_131) rfl (flt hc2).2.1 (by decide) (by decide) (XS.iconst Xp.here hx rfl (bd d14_155) (XS.istore Xp.here hx rfl (bd d14_156) rfl (l' := #[.val (.ref a1), .val (.ref ca), .val (.ref da), .val (.ref b5), .val (.ref b10), .val (.int sh), .val (.ref kk), .val (.int 0), .val (.int 3), .val (.int 3), .val (.long (f1 (2 : Int32))), .second]) rfl (XS.iload Xp.here hx rfl (bd d14_158) rfl (XS.aloadN Xp.here hx rfl (bd d14_160) rfl rfl k))))))) ?_
                have f75 := (f70.keep Kp (ninS nkk_a1 nin0))
                obtain ⟨T76, X76, e76, st76⟩ := getF Xp hx hZ hown (host := "") (Or.inl (Wd39 hw)) Via.refl ep f75 (g := (mkF m 161 #[.val (.ref a1), .val (.ref ca), .val (.ref da), .val (.ref b5), .val (.ref b10), .val (.int sh), .val (.ref kk), .val (.int 0), .val (.int 3), .val (.int 3), .val (.long (f1 (2 : Int32))), .second] [(.ref a1), (.int 0)])) rfl rfl (bd d14_161)
                refine OD.go (B := (T76.setTop (mkF m 164 #[.val (.ref a1), .val (.ref ca), .val (.ref da), .val (.ref b5), .val (.ref b10), .val (.int sh), .val (.ref kk), .val (.int 0), .val (.int 3), .val (.int 3), .val (.long (f1 (2 : Int32))), .second] [(.ref da), (.int 0)]))) st76 ?_
                have f77 := (f72.keep Kp (ninS nkk_da nin0))
                obtain ⟨cl78, Ar78, hl78⟩ := own_len f77
                refine OD.go (B := (T76.setTop (mkF m 165 #[.val (.ref a1), .val (.ref ca), .val (.ref da), .val (.ref b5), .val (.ref b10), .val (.int sh), .val (.ref kk), .val (.int 0), .val (.int 3), .val (.int 3), .val (.long (f1 (2 : Int32))), .second] [(.int 3), (.int 0)]))) (fun t k => X76.arraylength hx (by rw [e76]; exact Ar78.1) (State.isArrayOf_alike hZ.alike Ar78.2.1) (g := (mkF m 164 #[.val (.ref a1), .val (.ref ca), .val (.ref da), .val (.ref b5), .val (.ref b10), .val (.int sh), .val (.ref kk), .val (.int 0), .val (.int 3), .val (.int 3), .val (.long (f1 (2 : Int32))), .second] [(.ref da), (.int 0)])) rfl rfl (bd d14_164) _ (by rw [hl78]; exact k)) ?_
                refine OD.go (B := (T76.setTop (mkF m 173 #[.val (.ref a1), .val (.ref ca), .val (.ref da), .val (.ref b5), .val (.ref b10), .val (.int sh), .val (.ref kk), .val (.int 0), .val (.int 3), .val (.int 3), .val (.long (f1 (2 : Int32))), .second] [(.int 0), (.ref ca), (.ref kk)]))) (fun t k => XS.icmpNo X76.here hx rfl (bd d14_165) rfl (tlt (by decide : (0 : Int32) < (3 : Int32))).2.1 (XS.aload X76.here hx rfl (bd d14_168) rfl rfl (XS.aloadN X76.here hx rfl (bd d14_170) rfl rfl (XS.iload X76.here hx rfl (bd d14_171) rfl k)))) ?_
                have f79 := (f66.keep Kp (ninS nkk_ca nin0))
                obtain ⟨cl80, Ar80, hi80, ha80⟩ := own_at f79 (j := (0 : Int32)) (v := (.long (f1 (0 : Int32)))) ⟨by decide, by decide⟩ (own_rg_at ⟨by decide, by decide⟩ _ _)
                refine OD.go (B := (T76.setTop (mkF m 176 #[.val (.ref a1), .val (.ref ca), .val (.ref da), .val (.ref b5), .val (.ref b10), .val (.int sh), .val (.ref kk), .val (.int 0), .val (.int 3), .val (.int 3), .val (.long (f1 (2 : Int32))), .second] [(.int sh), (.long (f1 (0 : Int32))), (.ref kk)]))) (fun t k => X76.laload hx (j := (0 : Int32)) (v := (.long (f1 (0 : Int32)))) (by rw [e76]; exact Ar80.1) (State.isArrayOf_alike hZ.alike Ar80.2.1) Ar80.2.2 hi80 ha80 (g := (mkF m 173 #[.val (.ref a1), .val (.ref ca), .val (.ref da), .val (.ref b5), .val (.ref b10), .val (.int sh), .val (.ref kk), .val (.int 0), .val (.int 3), .val (.int 3), .val (.long (f1 (2 : Int32))), .second] [(.int 0), (.ref ca), (.ref kk)])) rfl rfl (bd d14_173) _ (XS.iload X76.here hx rfl (bd d14_174) rfl k)) ?_
                obtain ⟨_, _, ⟨T81, L81, k81, n81⟩, -, X81, ⟨Lc81, hQ81, l81, y81, z81⟩, st81⟩ := Jvm.LawKit.callS X76 hx (y := (⟨zZ0, "sortingByte", "(JI)I"⟩ : MethodName)) hown (mvT hZ (Wd97 hw)) (mvT hZ (Wd98 hw)) (mvT hZ (Wd4 hw)) (mvT hZ (Wd99 hw)) (by decide) (backOf (W := 1) (rmSB l Z a0 hw [] (f1 (0 : Int32)) sh hp) hZ (Wd99 hw) (Wd4 hw) (by decide) (by decide)) (g := (mkF m 176 #[.val (.ref a1), .val (.ref ca), .val (.ref da), .val (.ref b5), .val (.ref b10), .val (.int sh), .val (.ref kk), .val (.int 0), .val (.int 3), .val (.int 3), .val (.long (f1 (2 : Int32))), .second] [(.int sh), (.long (f1 (0 : Int32))), (.ref kk)])) rfl (by rw [hml]; rfl) (argsL := [(.long (f1 (0 : Int32))), (.int sh)]) (rest := [(.ref kk)]) (lenOf pd4 rfl) rfl (by show 2 * 0 + _ ≤ _; exact Nat.le_of_eq rfl) (bd d14_176) (fun _ _ => ⟨rfl, e76, (by first | (show cn + 1 + 0 ≤ (10 : Nat); omega) | (show sn + 257 + 0 ≤ (2100 : Nat); omega)), (by first | (show cn + 1 + 0 ≤ (10 : Nat); omega) | (show sn + 257 + 0 ≤ (2100 : Nat); omega))⟩)
                dsimp only [Pt.U, Pt.locs, Pt.cells, Pt.slots] at X81 l81 y81 z81 st81 hQ81
                subst l81 y81 z81
                obtain ⟨rfl, rfl, e81⟩ := hQ81
                have N81 := Fr.app Np (Fr.nil _)
                refine OD.go st81 ?_
                refine OD.go (B := (T81.setTop (mkF m 180 #[.val (.ref a1), .val (.ref ca), .val (.ref da), .val (.ref b5), .val (.ref b10), .val (.int sh), .val (.ref kk), .val (.int 0), .val (.int 3), .val (.int 3), .val (.long (f1 (2 : Int32))), .second] [(.int (own_sb (f1 (0 : Int32)) sh)), (.ref kk), (.int (own_sb (f1 (0 : Int32)) sh)), (.ref kk)]))) (fun t k => XT.dup2 X81.here hx rfl (bd d14_179) rfl rfl rfl k) ?_
                obtain ⟨cl82, Ar82, hi82, ha82⟩ := own_at Vp (j := (own_sb (f1 (0 : Int32)) sh)) (v := (.int ((own_PF f1 sh) (own_sb (f1 (0 : Int32)) sh)))) (own_sbC _ _) (own_rg_at (own_sbC _ _) _ _)
                refine OD.go (B := (T81.setTop (mkF m 184 #[.val (.ref a1), .val (.ref ca), .val (.ref da), .val (.ref b5), .val (.ref b10), .val (.int sh), .val (.ref kk), .val (.int 0), .val (.int 3), .val (.int 3), .val (.long (f1 (2 : Int32))), .second] [(.int (((own_PF f1 sh) (own_sb (f1 (0 : Int32)) sh)) + (1 : Int32))), (.int (own_sb (f1 (0 : Int32)) sh)), (.ref kk), (.int ((own_PF f1 sh) (own_sb (f1 (0 : Int32)) sh)))]))) (fun t k => X81.iaload hx (j := (own_sb (f1 (0 : Int32)) sh)) (v := (.int ((own_PF f1 sh) (own_sb (f1 (0 : Int32)) sh)))) (by rw [e81]; exact Ar82.1) (State.isArrayOf_alike hZ.alike Ar82.2.1) Ar82.2.2 hi82 ha82 (g := (mkF m 180 #[.val (.ref a1), .val (.ref ca), .val (.ref da), .val (.ref b5), .val (.ref b10), .val (.int sh), .val (.ref kk), .val (.int 0), .val (.int 3), .val (.int 3), .val (.long (f1 (2 : Int32))), .second] [(.int (own_sb (f1 (0 : Int32)) sh)), (.ref kk), (.int (own_sb (f1 (0 : Int32)) sh)), (.ref kk)])) rfl rfl (bd d14_180) _ (own_dupX2 X81.here hx rfl (bd d14_181) rfl rfl rfl rfl (XS.iconst X81.here hx rfl (bd d14_182) (XS.iadd X81.here hx rfl (bd d14_183) rfl k)))) ?_
                obtain ⟨cl84, Ar84, q84, S84, M84, H84, G84⟩ := id Vp
                obtain ⟨T84, h84, X84, e84, W84, st84⟩ := stI X81 hx hZ e81 Ar84 (j := (own_sb (f1 (0 : Int32)) sh)) (inb_of S84 (own_sbC _ _)) (g := (mkF m 184 #[.val (.ref a1), .val (.ref ca), .val (.ref da), .val (.ref b5), .val (.ref b10), .val (.int sh), .val (.ref kk), .val (.int 0), .val (.int 3), .val (.int 3), .val (.long (f1 (2 : Int32))), .second] [(.int (((own_PF f1 sh) (own_sb (f1 (0 : Int32)) sh)) + (1 : Int32))), (.int (own_sb (f1 (0 : Int32)) sh)), (.ref kk), (.int ((own_PF f1 sh) (own_sb (f1 (0 : Int32)) sh)))])) rfl rfl (bd d14_184)
                have V84 : Arv Z h84 kk kK .int 257 (own_rg (257 : Int32).toNatClampNeg (fun x => .int ((own_s1 f1 sh) x))) (.int 0) := own_put (fun x => .int ((own_s1 f1 sh) x)) Ar84 q84 S84 M84 H84 G84 rfl W84 (own_sbC _ _) (congrArg Value.int (own_up_at _ _ _)) (fun x q => congrArg Value.int (own_up_ne _ _ q))
                have N84 := Fr.snoc X84 N81 gkk
                refine OD.go st84 ?_
                refine OD.go (B := (T84.setTop (mkF m 193 #[.val (.ref a1), .val (.ref ca), .val (.ref da), .val (.ref b5), .val (.ref b10), .val (.int sh), .val (.ref kk), .val (.int 0), .val (.int ((own_PF f1 sh) (own_sb (f1 (0 : Int32)) sh))), .val (.int 3), .val (.long (f1 (2 : Int32))), .second] [(.int 0), (.ref ca), (.int ((own_PF f1 sh) (own_sb (f1 (0 : Int32)) sh))), (.ref b5)]))) (fun t k => XS.istore X84.here hx rfl (bd d14_185) rfl (l' := #[.val (.ref a1), .val (.ref ca), .val (.ref da), .val (.ref b5), .val (.ref b10), .val (.int sh), .val (.ref kk), .val (.int 0), .val (.int ((own_PF f1 sh) (own_sb (f1 (0 : Int32)) sh))), .val (.int 3), .val (.long (f1 (2 : Int32))), .second]) rfl (XS.aloadN X84.here hx rfl (bd d14_187) rfl rfl (XS.iload X84.here hx rfl (bd d14_188) rfl (XS.aloadN X84.here hx rfl (bd d14_190) rfl rfl (XS.iload X84.here hx rfl (bd d14_191) rfl k))))) ?_
                have f85 := (f79.other W84 nkk_ca)
                obtain ⟨cl86, Ar86, hi86, ha86⟩ := own_at f85 (j := (0 : Int32)) (v := (.long (f1 (0 : Int32)))) ⟨by decide, by decide⟩ (own_rg_at ⟨by decide, by decide⟩ _ _)
                refine OD.go (B := (T84.setTop (mkF m 194 #[.val (.ref a1), .val (.ref ca), .val (.ref da), .val (.ref b5), .val (.ref b10), .val (.int sh), .val (.ref kk), .val (.int 0), .val (.int ((own_PF f1 sh) (own_sb (f1 (0 : Int32)) sh))), .val (.int 3), .val (.long (f1 (2 : Int32))), .second] [(.long (f1 (0 : Int32))), (.int ((own_PF f1 sh) (own_sb (f1 (0 : Int32)) sh))), (.ref b5)]))) (fun t k => X84.laload hx (j := (0 : Int32)) (v := (.long (f1 (0 : Int32)))) (by rw [e84]; exact Ar86.1) (State.isArrayOf_alike hZ.alike Ar86.2.1) Ar86.2.2 hi86 ha86 (g := (mkF m 193 #[.val (.ref a1), .val (.ref ca), .val (.ref da), .val (.ref b5), .val (.ref b10), .val (.int sh), .val (.ref kk), .val (.int 0), .val (.int ((own_PF f1 sh) (own_sb (f1 (0 : Int32)) sh))), .val (.int 3), .val (.long (f1 (2 : Int32))), .second] [(.int 0), (.ref ca), (.int ((own_PF f1 sh) (own_sb (f1 (0 : Int32)) sh))), (.ref b5)])) rfl rfl (bd d14_193) _ k) ?_
                have f87 := ((((((B3.keep Km nin0).other W53 nkk_b5).other W59 nkk_b5).other W65 nkk_b5).keep Kp (ninS nkk_b5 nin0)).other W84 nkk_b5)
                obtain ⟨cl89, Ar89, q89, S89, M89, H89, G89⟩ := id f87
                obtain ⟨T89, h89, X89, e89, W89, st89⟩ := stJ X84 hx hZ e84 Ar89 (j := ((own_PF f1 sh) (own_sb (f1 (0 : Int32)) sh))) (inb_of S89 (own_place0 f1 sh)) (g := (mkF m 194 #[.val (.ref a1), .val (.ref ca), .val (.ref da), .val (.ref b5), .val (.ref b10), .val (.int sh), .val (.ref kk), .val (.int 0), .val (.int ((own_PF f1 sh) (own_sb (f1 (0 : Int32)) sh))), .val (.int 3), .val (.long (f1 (2 : Int32))), .second] [(.long (f1 (0 : Int32))), (.int ((own_PF f1 sh) (own_sb (f1 (0 : Int32)) sh))), (.ref b5)])) rfl rfl (bd d14_194)
                have V89 : Arv Z h89 b5 k5 .long (3 : Int32) (own_rg (3 : Int32).toNatClampNeg (fun x => .long ((own_up f2 ((own_PF f1 sh) (own_sb (f1 (0 : Int32)) sh)) (f1 (0 : Int32))) x))) (.long (0 : Int64)) := own_put (fun x => .long ((own_up f2 ((own_PF f1 sh) (own_sb (f1 (0 : Int32)) sh)) (f1 (0 : Int32))) x)) Ar89 q89 S89 M89 H89 G89 rfl W89 (own_place0 f1 sh) (congrArg Value.long (own_up_at _ _ _)) (fun x q => congrArg Value.long (own_up_ne _ _ q))
                have N89 := Fr.snoc X89 N84 gcc
                refine OD.go st89 ?_
                refine OD.go (B := (T89.setTop (mkF m 202 #[.val (.ref a1), .val (.ref ca), .val (.ref da), .val (.ref b5), .val (.ref b10), .val (.int sh), .val (.ref kk), .val (.int 0), .val (.int ((own_PF f1 sh) (own_sb (f1 (0 : Int32)) sh))), .val (.int 3), .val (.long (f1 (2 : Int32))), .second] [(.int 0), (.ref da), (.int ((own_PF f1 sh) (own_sb (f1 (0 : Int32)) sh))), (.ref b10)]))) (fun t k => XS.aload X89.here hx rfl (bd d14_195) rfl rfl (XS.iload X89.here hx rfl (bd d14_197) rfl (XS.aloadN X89.here hx rfl (bd d14_199) rfl rfl (XS.iload X89.here hx rfl (bd d14_200) rfl k)))) ?_
                have f90 := ((f77.other W84 nkk_da).other W89 ne4)
                obtain ⟨cl91, Ar91, hi91, ha91⟩ := own_at f90 (j := (0 : Int32)) (v := (.int (g1 (0 : Int32)))) ⟨by decide, by decide⟩ (own_rg_at ⟨by decide, by decide⟩ _ _)
                refine OD.go (B := (T89.setTop (mkF m 203 #[.val (.ref a1), .val (.ref ca), .val (.ref da), .val (.ref b5), .val (.ref b10), .val (.int sh), .val (.ref kk), .val (.int 0), .val (.int ((own_PF f1 sh) (own_sb (f1 (0 : Int32)) sh))), .val (.int 3), .val (.long (f1 (2 : Int32))), .second] [(.int (g1 (0 : Int32))), (.int ((own_PF f1 sh) (own_sb (f1 (0 : Int32)) sh))), (.ref b10)]))) (fun t k => X89.iaload hx (j := (0 : Int32)) (v := (.int (g1 (0 : Int32)))) (by rw [e89]; exact Ar91.1) (State.isArrayOf_alike hZ.alike Ar91.2.1) Ar91.2.2 hi91 ha91 (g := (mkF m 202 #[.val (.ref a1), .val (.ref ca), .val (.ref da), .val (.ref b5), .val (.ref b10), .val (.int sh), .val (.ref kk), .val (.int 0), .val (.int ((own_PF f1 sh) (own_sb (f1 (0 : Int32)) sh))), .val (.int 3), .val (.long (f1 (2 : Int32))), .second] [(.int 0), (.ref da), (.int ((own_PF f1 sh) (own_sb (f1 (0 : Int32)) sh))), (.ref b10)])) rfl rfl (bd d14_202) _ k) ?_
                have f92 := (((((((B4.keep Km nin0).other W53 nkk_b10).other W59 nkk_b10).other W65 nkk_b10).keep Kp (ninS nkk_b10 nin0)).other W84 nkk_b10).other W89 (Ne.symm ne6))
                obtain ⟨cl94, Ar94, q94, S94, M94, H94, G94⟩ := id f92
                obtain ⟨T94, h94, X94, e94, W94, st94⟩ := stI X89 hx hZ e89 Ar94 (j := ((own_PF f1 sh) (own_sb (f1 (0 : Int32)) sh))) (inb_of S94 (own_place0 f1 sh)) (g := (mkF m 203 #[.val (.ref a1), .val (.ref ca), .val (.ref da), .val (.ref b5), .val (.ref b10), .val (.int sh), .val (.ref kk), .val (.int 0), .val (.int ((own_PF f1 sh) (own_sb (f1 (0 : Int32)) sh))), .val (.int 3), .val (.long (f1 (2 : Int32))), .second] [(.int (g1 (0 : Int32))), (.int ((own_PF f1 sh) (own_sb (f1 (0 : Int32)) sh))), (.ref b10)])) rfl rfl (bd d14_203)
                have V94 : Arv Z h94 b10 k10 .int 3 (own_rg (3 : Int32).toNatClampNeg (fun x => .int ((own_up g2 ((own_PF f1 sh) (own_sb (f1 (0 : Int32)) sh)) (g1 (0 : Int32))) x))) (.int 0) := own_put (fun x => .int ((own_up g2 ((own_PF f1 sh) (own_sb (f1 (0 : Int32)) sh)) (g1 (0 : Int32))) x)) Ar94 q94 S94 M94 H94 G94 rfl W94 (own_place0 f1 sh) (congrArg Value.int (own_up_at _ _ _)) (fun x q => congrArg Value.int (own_up_ne _ _ q))
                have N94 := Fr.snoc X94 N89 gdd
                refine OD.go st94 ?_
                refine OD.go (B := (T94.setTop (mkF m 161 #[.val (.ref a1), .val (.ref ca), .val (.ref da), .val (.ref b5), .val (.ref b10), .val (.int sh), .val (.ref kk), .val (.int 1), .val (.int ((own_PF f1 sh) (own_sb (f1 (0 : Int32)) sh))), .val (.int 3), .val (.long (f1 (2 : Int32))), .second] [(.ref a1), (.int 1)]))) (fun t k => XS.iinc X94.here hx rfl (bd d14_204) rfl (l' := #[.val (.ref a1), .val (.ref ca), .val (.ref da), .val (.ref b5), .val (.ref b10), .val (.int sh), .val (.ref kk), .val (.int 1), .val (.int ((own_PF f1 sh) (own_sb (f1 (0 : Int32)) sh))), .val (.int 3), .val (.long (f1 (2 : Int32))), .second]) rfl (XS.goto X94.here hx rfl (pc0 := 207) (pc' := 158) rfl (bd d14_207) (by decide) (by decide) (XS.iload X94.here hx rfl (bd d14_158) rfl (XS.aloadN X94.here hx rfl (bd d14_160) rfl rfl k)))) ?_
                have f95 := (((f75.other W84 (Or.inl nkk_a1)).other W89 (Or.inl ne0)).other W94 (Or.inl ne1))
                obtain ⟨T96, X96, e96, st96⟩ := getF X94 hx hZ hown (host := "") (Or.inl (Wd39 hw)) Via.refl e94 f95 (g := (mkF m 161 #[.val (.ref a1), .val (.ref ca), .val (.ref da), .val (.ref b5), .val (.ref b10), .val (.int sh), .val (.ref kk), .val (.int 1), .val (.int ((own_PF f1 sh) (own_sb (f1 (0 : Int32)) sh))), .val (.int 3), .val (.long (f1 (2 : Int32))), .second] [(.ref a1), (.int 1)])) rfl rfl (bd d14_161)
                refine OD.go (B := (T96.setTop (mkF m 164 #[.val (.ref a1), .val (.ref ca), .val (.ref da), .val (.ref b5), .val (.ref b10), .val (.int sh), .val (.ref kk), .val (.int 1), .val (.int ((own_PF f1 sh) (own_sb (f1 (0 : Int32)) sh))), .val (.int 3), .val (.long (f1 (2 : Int32))), .second] [(.ref da), (.int 1)]))) st96 ?_
                have f97 := (f90.other W94 ne5)
                obtain ⟨cl98, Ar98, hl98⟩ := own_len f97
                refine OD.go (B := (T96.setTop (mkF m 165 #[.val (.ref a1), .val (.ref ca), .val (.ref da), .val (.ref b5), .val (.ref b10), .val (.int sh), .val (.ref kk), .val (.int 1), .val (.int ((own_PF f1 sh) (own_sb (f1 (0 : Int32)) sh))), .val (.int 3), .val (.long (f1 (2 : Int32))), .second] [(.int 3), (.int 1)]))) (fun t k => X96.arraylength hx (by rw [e96]; exact Ar98.1) (State.isArrayOf_alike hZ.alike Ar98.2.1) (g := (mkF m 164 #[.val (.ref a1), .val (.ref ca), .val (.ref da), .val (.ref b5), .val (.ref b10), .val (.int sh), .val (.ref kk), .val (.int 1), .val (.int ((own_PF f1 sh) (own_sb (f1 (0 : Int32)) sh))), .val (.int 3), .val (.long (f1 (2 : Int32))), .second] [(.ref da), (.int 1)])) rfl rfl (bd d14_164) _ (by rw [hl98]; exact k)) ?_
                refine OD.go (B := (T96.setTop (mkF m 173 #[.val (.ref a1), .val (.ref ca), .val (.ref da), .val (.ref b5), .val (.ref b10), .val (.int sh), .val (.ref kk), .val (.int 1), .val (.int ((own_PF f1 sh) (own_sb (f1 (0 : Int32)) sh))), .val (.int 3), .val (.long (f1 (2 : Int32))), .second] [(.int 1), (.ref ca), (.ref kk)]))) (fun t k => XS.icmpNo X96.here hx rfl (bd d14_165) rfl (tlt (by decide : (1 : Int32) < (3 : Int32))).2.1 (XS.aload X96.here hx rfl (bd d14_168) rfl rfl (XS.aloadN X96.here hx rfl (bd d14_170) rfl rfl (XS.iload X96.here hx rfl (bd d14_171) rfl k)))) ?_
                have f99 := ((f85.other W89 ne2).other W94 ne3)
                obtain ⟨cl100, Ar100, hi100, ha100⟩ := own_at f99 (j := (1 : Int32)) (v := (.long (f1 (1 : Int32)))) ⟨by decide, by decide⟩ (own_rg_at ⟨by decide, by decide⟩ _ _)
                refine OD.go (B := (T96.setTop (mkF m 176 #[.val (.ref a1), .val (.ref ca), .val (.ref da), .val (.ref b5), .val (.ref b10), .val (.int sh), .val (.ref kk), .val (.int 1), .val (.int ((own_PF f1 sh) (own_sb (f1 (0 : Int32)) sh))), .val (.int 3), .val (.long (f1 (2 : Int32))), .second] [(.int sh), (.long (f1 (1 : Int32))), (.ref kk)]))) (fun t k => X96.laload hx (j := (1 : Int32)) (v := (.long (f1 (1 : Int32)))) (by rw [e96]; exact Ar100.1) (State.isArrayOf_alike hZ.alike Ar100.2.1) Ar100.2.2 hi100 ha100 (g := (mkF m 173 #[.val (.ref a1), .val (.ref ca), .val (.ref da), .val (.ref b5), .val (.ref b10), .val (.int sh), .val (.ref kk), .val (.int 1), .val (.int ((own_PF f1 sh) (own_sb (f1 (0 : Int32)) sh))), .val (.int 3), .val (.long (f1 (2 : Int32))), .second] [(.int 1), (.ref ca), (.ref kk)])) rfl rfl (bd d14_173) _ (XS.iload X96.here hx rfl (bd d14_174) rfl k)) ?_
                obtain ⟨_, _, ⟨T101, L101, k101, n101⟩, -, X101, ⟨Lc101, hQ101, l101, y101, z101⟩, st101⟩ := Jvm.LawKit.callS X96 hx (y := (⟨zZ0, "sortingByte", "(JI)I"⟩ : MethodName)) hown (mvT hZ (Wd97 hw)) (mvT hZ (Wd98 hw)) (mvT hZ (Wd4 hw)) (mvT hZ (Wd99 hw)) (by decide) (backOf (W := 1) (rmSB l Z a0 hw [] (f1 (1 : Int32)) sh h94) hZ (Wd99 hw) (Wd4 hw) (by decide) (by decide)) (g := (mkF m 176 #[.val (.ref a1), .val (.ref ca), .val (.ref da), .val (.ref b5), .val (.ref b10), .val (.int sh), .val (.ref kk), .val (.int 1), .val (.int ((own_PF f1 sh) (own_sb (f1 (0 : Int32)) sh))), .val (.int 3), .val (.long (f1 (2 : Int32))), .second] [(.int sh), (.long (f1 (1 : Int32))), (.ref kk)])) rfl (by rw [hml]; rfl) (argsL := [(.long (f1 (1 : Int32))), (.int sh)]) (rest := [(.ref kk)]) (lenOf pd4 rfl) rfl (by show 2 * 0 + _ ≤ _; exact Nat.le_of_eq rfl) (bd d14_176) (fun _ _ => ⟨rfl, e96, (by first | (show cn + 1 + 0 ≤ (10 : Nat); omega) | (show sn + 257 + 0 ≤ (2100 : Nat); omega)), (by first | (show cn + 1 + 0 ≤ (10 : Nat); omega) | (show sn + 257 + 0 ≤ (2100 : Nat); omega))⟩)
                dsimp only [Pt.U, Pt.locs, Pt.cells, Pt.slots] at X101 l101 y101 z101 st101 hQ101
                subst l101 y101 z101
                obtain ⟨rfl, rfl, e101⟩ := hQ101
                have N101 := Fr.app N94 (Fr.nil _)
                refine OD.go st101 ?_
                refine OD.go (B := (T101.setTop (mkF m 180 #[.val (.ref a1), .val (.ref ca), .val (.ref da), .val (.ref b5), .val (.ref b10), .val (.int sh), .val (.ref kk), .val (.int 1), .val (.int ((own_PF f1 sh) (own_sb (f1 (0 : Int32)) sh))), .val (.int 3), .val (.long (f1 (2 : Int32))), .second] [(.int (own_sb (f1 (1 : Int32)) sh)), (.ref kk), (.int (own_sb (f1 (1 : Int32)) sh)), (.ref kk)]))) (fun t k => XT.dup2 X101.here hx rfl (bd d14_179) rfl rfl rfl k) ?_
                have f102 := ((V84.other W89 (Ne.symm nkk_b5)).other W94 (Ne.symm nkk_b10))
                obtain ⟨cl103, Ar103, hi103, ha103⟩ := own_at f102 (j := (own_sb (f1 (1 : Int32)) sh)) (v := (.int ((own_s1 f1 sh) (own_sb (f1 (1 : Int32)) sh)))) (own_sbC _ _) (own_rg_at (own_sbC _ _) _ _)
                refine OD.go (B := (T101.setTop (mkF m 184 #[.val (.ref a1), .val (.ref ca), .val (.ref da), .val (.ref b5), .val (.ref b10), .val (.int sh), .val (.ref kk), .val (.int 1), .val (.int ((own_PF f1 sh) (own_sb (f1 (0 : Int32)) sh))), .val (.int 3), .val (.long (f1 (2 : Int32))), .second] [(.int (((own_s1 f1 sh) (own_sb (f1 (1 : Int32)) sh)) + (1 : Int32))), (.int (own_sb (f1 (1 : Int32)) sh)), (.ref kk), (.int ((own_s1 f1 sh) (own_sb (f1 (1 : Int32)) sh)))]))) (fun t k => X101.iaload hx (j := (own_sb (f1 (1 : Int32)) sh)) (v := (.int ((own_s1 f1 sh) (own_sb (f1 (1 : Int32)) sh)))) (by rw [e101]; exact Ar103.1) (State.isArrayOf_alike hZ.alike Ar103.2.1) Ar103.2.2 hi103 ha103 (g := (mkF m 180 #[.val (.ref a1), .val (.ref ca), .val (.ref da), .val (.ref b5), .val (.ref b10), .val (.int sh), .val (.ref kk), .val (.int 1), .val (.int ((own_PF f1 sh) (own_sb (f1 (0 : Int32)) sh))), .val (.int 3), .val (.long (f1 (2 : Int32))), .second] [(.int (own_sb (f1 (1 : Int32)) sh)), (.ref kk), (.int (own_sb (f1 (1 : Int32)) sh)), (.ref kk)])) rfl rfl (bd d14_180) _ (own_dupX2 X101.here hx rfl (bd d14_181) rfl rfl rfl rfl (XS.iconst X101.here hx rfl (bd d14_182) (XS.iadd X101.here hx rfl (bd d14_183) rfl k)))) ?_
                obtain ⟨cl105, Ar105, q105, S105, M105, H105, G105⟩ := id f102
                obtain ⟨T105, h105, X105, e105, W105, st105⟩ := stI X101 hx hZ e101 Ar105 (j := (own_sb (f1 (1 : Int32)) sh)) (inb_of S105 (own_sbC _ _)) (g := (mkF m 184 #[.val (.ref a1), .val (.ref ca), .val (.ref da), .val (.ref b5), .val (.ref b10), .val (.int sh), .val (.ref kk), .val (.int 1), .val (.int ((own_PF f1 sh) (own_sb (f1 (0 : Int32)) sh))), .val (.int 3), .val (.long (f1 (2 : Int32))), .second] [(.int (((own_s1 f1 sh) (own_sb (f1 (1 : Int32)) sh)) + (1 : Int32))), (.int (own_sb (f1 (1 : Int32)) sh)), (.ref kk), (.int ((own_s1 f1 sh) (own_sb (f1 (1 : Int32)) sh)))])) rfl rfl (bd d14_184)
                have V105 : Arv Z h105 kk kK .int 257 (own_rg (257 : Int32).toNatClampNeg (fun x => .int ((own_s2 f1 sh) x))) (.int 0) := own_put (fun x => .int ((own_s2 f1 sh) x)) Ar105 q105 S105 M105 H105 G105 rfl W105 (own_sbC _ _) (congrArg Value.int (own_up_at _ _ _)) (fun x q => congrArg Value.int (own_up_ne _ _ q))
                have N105 := Fr.snoc X105 N101 gkk
                refine OD.go st105 ?_
                refine OD.go (B := (T105.setTop (mkF m 193 #[.val (.ref a1), .val (.ref ca), .val (.ref da), .val (.ref b5), .val (.ref b10), .val (.int sh), .val (.ref kk), .val (.int 1), .val (.int ((own_s1 f1 sh) (own_sb (f1 (1 : Int32)) sh))), .val (.int 3), .val (.long (f1 (2 : Int32))), .second] [(.int 1), (.ref ca), (.int ((own_s1 f1 sh) (own_sb (f1 (1 : Int32)) sh))), (.ref b5)]))) (fun t k => XS.istore X105.here hx rfl (bd d14_185) rfl (l' := #[.val (.ref a1), .val (.ref ca), .val (.ref da), .val (.ref b5), .val (.ref b10), .val (.int sh), .val (.ref kk), .val (.int 1), .val (.int ((own_s1 f1 sh) (own_sb (f1 (1 : Int32)) sh))), .val (.int 3), .val (.long (f1 (2 : Int32))), .second]) rfl (XS.aloadN X105.here hx rfl (bd d14_187) rfl rfl (XS.iload X105.here hx rfl (bd d14_188) rfl (XS.aloadN X105.here hx rfl (bd d14_190) rfl rfl (XS.iload X105.here hx rfl (bd d14_191) rfl k))))) ?_
                have f106 := (f99.other W105 nkk_ca)
                obtain ⟨cl107, Ar107, hi107, ha107⟩ := own_at f106 (j := (1 : Int32)) (v := (.long (f1 (1 : Int32)))) ⟨by decide, by decide⟩ (own_rg_at ⟨by decide, by decide⟩ _ _)
                refine OD.go (B := (T105.setTop (mkF m 194 #[.val (.ref a1), .val (.ref ca), .val (.ref da), .val (.ref b5), .val (.ref b10), .val (.int sh), .val (.ref kk), .val (.int 1), .val (.int ((own_s1 f1 sh) (own_sb (f1 (1 : Int32)) sh))), .val (.int 3), .val (.long (f1 (2 : Int32))), .second] [(.long (f1 (1 : Int32))), (.int ((own_s1 f1 sh) (own_sb (f1 (1 : Int32)) sh))), (.ref b5)]))) (fun t k => X105.laload hx (j := (1 : Int32)) (v := (.long (f1 (1 : Int32)))) (by rw [e105]; exact Ar107.1) (State.isArrayOf_alike hZ.alike Ar107.2.1) Ar107.2.2 hi107 ha107 (g := (mkF m 193 #[.val (.ref a1), .val (.ref ca), .val (.ref da), .val (.ref b5), .val (.ref b10), .val (.int sh), .val (.ref kk), .val (.int 1), .val (.int ((own_s1 f1 sh) (own_sb (f1 (1 : Int32)) sh))), .val (.int 3), .val (.long (f1 (2 : Int32))), .second] [(.int 1), (.ref ca), (.int ((own_s1 f1 sh) (own_sb (f1 (1 : Int32)) sh))), (.ref b5)])) rfl rfl (bd d14_193) _ k) ?_
                have f108 := ((V89.other W94 ne6).other W105 nkk_b5)
                obtain ⟨cl110, Ar110, q110, S110, M110, H110, G110⟩ := id f108
                obtain ⟨T110, h110, X110, e110, W110, st110⟩ := stJ X105 hx hZ e105 Ar110 (j := ((own_s1 f1 sh) (own_sb (f1 (1 : Int32)) sh))) (inb_of S110 (own_place1 f1 sh)) (g := (mkF m 194 #[.val (.ref a1), .val (.ref ca), .val (.ref da), .val (.ref b5), .val (.ref b10), .val (.int sh), .val (.ref kk), .val (.int 1), .val (.int ((own_s1 f1 sh) (own_sb (f1 (1 : Int32)) sh))), .val (.int 3), .val (.long (f1 (2 : Int32))), .second] [(.long (f1 (1 : Int32))), (.int ((own_s1 f1 sh) (own_sb (f1 (1 : Int32)) sh))), (.ref b5)])) rfl rfl (bd d14_194)
                have V110 : Arv Z h110 b5 k5 .long (3 : Int32) (own_rg (3 : Int32).toNatClampNeg (fun x => .long ((own_up (own_up f2 ((own_PF f1 sh) (own_sb (f1 (0 : Int32)) sh)) (f1 (0 : Int32))) ((own_s1 f1 sh) (own_sb (f1 (1 : Int32)) sh)) (f1 (1 : Int32))) x))) (.long (0 : Int64)) := own_put (fun x => .long ((own_up (own_up f2 ((own_PF f1 sh) (own_sb (f1 (0 : Int32)) sh)) (f1 (0 : Int32))) ((own_s1 f1 sh) (own_sb (f1 (1 : Int32)) sh)) (f1 (1 : Int32))) x)) Ar110 q110 S110 M110 H110 G110 rfl W110 (own_place1 f1 sh) (congrArg Value.long (own_up_at _ _ _)) (fun x q => congrArg Value.long (own_up_ne _ _ q))
                have N110 := Fr.snoc X110 N105 gcc
                refine OD.go st110 ?_
                refine OD.go (B := (T110.setTop (mkF m 202 #[.val (.ref a1), .val (.ref ca), .val (.ref da), .val (.ref b5), .val (.ref b10), .val (.int sh), .val (.ref kk), .val (.int 1), .val (.int ((own_s1 f1 sh) (own_sb (f1 (1 : Int32)) sh))), .val (.int 3), .val (.long (f1 (2 : Int32))), .second] [(.int 1), (.ref da), (.int ((own_s1 f1 sh) (own_sb (f1 (1 : Int32)) sh))), (.ref b10)]))) (fun t k => XS.aload X110.here hx rfl (bd d14_195) rfl rfl (XS.iload X110.here hx rfl (bd d14_197) rfl (XS.aloadN X110.here hx rfl (bd d14_199) rfl rfl (XS.iload X110.here hx rfl (bd d14_200) rfl k)))) ?_
                have f111 := ((f97.other W105 nkk_da).other W110 ne4)
                obtain ⟨cl112, Ar112, hi112, ha112⟩ := own_at f111 (j := (1 : Int32)) (v := (.int (g1 (1 : Int32)))) ⟨by decide, by decide⟩ (own_rg_at ⟨by decide, by decide⟩ _ _)
                refine OD.go (B := (T110.setTop (mkF m 203 #[.val (.ref a1), .val (.ref ca), .val (.ref da), .val (.ref b5), .val (.ref b10), .val (.int sh), .val (.ref kk), .val (.int 1), .val (.int ((own_s1 f1 sh) (own_sb (f1 (1 : Int32)) sh))), .val (.int 3), .val (.long (f1 (2 : Int32))), .second] [(.int (g1 (1 : Int32))), (.int ((own_s1 f1 sh) (own_sb (f1 (1 : Int32)) sh))), (.ref b10)]))) (fun t k => X110.iaload hx (j := (1 : Int32)) (v := (.int (g1 (1 : Int32)))) (by rw [e110]; exact Ar112.1) (State.isArrayOf_alike hZ.alike Ar112.2.1) Ar112.2.2 hi112 ha112 (g := (mkF m 202 #[.val (.ref a1), .val (.ref ca), .val (.ref da), .val (.ref b5), .val (.ref b10), .val (.int sh), .val (.ref kk), .val (.int 1), .val (.int ((own_s1 f1 sh) (own_sb (f1 (1 : Int32)) sh))), .val (.int 3), .val (.long (f1 (2 : Int32))), .second] [(.int 1), (.ref da), (.int ((own_s1 f1 sh) (own_sb (f1 (1 : Int32)) sh))), (.ref b10)])) rfl rfl (bd d14_202) _ k) ?_
                have f113 := ((V94.other W105 nkk_b10).other W110 (Ne.symm ne6))
                obtain ⟨cl115, Ar115, q115, S115, M115, H115, G115⟩ := id f113
                obtain ⟨T115, h115, X115, e115, W115, st115⟩ := stI X110 hx hZ e110 Ar115 (j := ((own_s1 f1 sh) (own_sb (f1 (1 : Int32)) sh))) (inb_of S115 (own_place1 f1 sh)) (g := (mkF m 203 #[.val (.ref a1), .val (.ref ca), .val (.ref da), .val (.ref b5), .val (.ref b10), .val (.int sh), .val (.ref kk), .val (.int 1), .val (.int ((own_s1 f1 sh) (own_sb (f1 (1 : Int32)) sh))), .val (.int 3), .val (.long (f1 (2 : Int32))), .second] [(.int (g1 (1 : Int32))), (.int ((own_s1 f1 sh) (own_sb (f1 (1 : Int32)) sh))), (.ref b10)])) rfl rfl (bd d14_203)
                have V115 : Arv Z h115 b10 k10 .int 3 (own_rg (3 : Int32).toNatClampNeg (fun x => .int ((own_up (own_up g2 ((own_PF f1 sh) (own_sb (f1 (0 : Int32)) sh)) (g1 (0 : Int32))) ((own_s1 f1 sh) (own_sb (f1 (1 : Int32)) sh)) (g1 (1 : Int32))) x))) (.int 0) := own_put (fun x => .int ((own_up (own_up g2 ((own_PF f1 sh) (own_sb (f1 (0 : Int32)) sh)) (g1 (0 : Int32))) ((own_s1 f1 sh) (own_sb (f1 (1 : Int32)) sh)) (g1 (1 : Int32))) x)) Ar115 q115 S115 M115 H115 G115 rfl W115 (own_place1 f1 sh) (congrArg Value.int (own_up_at _ _ _)) (fun x q => congrArg Value.int (own_up_ne _ _ q))
                have N115 := Fr.snoc X115 N110 gdd
                refine OD.go st115 ?_
                refine OD.go (B := (T115.setTop (mkF m 161 #[.val (.ref a1), .val (.ref ca), .val (.ref da), .val (.ref b5), .val (.ref b10), .val (.int sh), .val (.ref kk), .val (.int 2), .val (.int ((own_s1 f1 sh) (own_sb (f1 (1 : Int32)) sh))), .val (.int 3), .val (.long (f1 (2 : Int32))), .second] [(.ref a1), (.int 2)]))) (fun t k => XS.iinc X115.here hx rfl (bd d14_204) rfl (l' := #[.val (.ref a1), .val (.ref ca), .val (.ref da), .val (.ref b5), .val (.ref b10), .val (.int sh), .val (.ref kk), .val (.int 2), .val (.int ((own_s1 f1 sh) (own_sb (f1 (1 : Int32)) sh))), .val (.int 3), .val (.long (f1 (2 : Int32))), .second]) rfl (XS.goto X115.here hx rfl (pc0 := 207) (pc' := 158) rfl (bd d14_207) (by decide) (by decide) (XS.iload X115.here hx rfl (bd d14_158) rfl (XS.aloadN X115.here hx rfl (bd d14_160) rfl rfl k)))) ?_
                have f116 := (((f95.other W105 (Or.inl nkk_a1)).other W110 (Or.inl ne0)).other W115 (Or.inl ne1))
                obtain ⟨T117, X117, e117, st117⟩ := getF X115 hx hZ hown (host := "") (Or.inl (Wd39 hw)) Via.refl e115 f116 (g := (mkF m 161 #[.val (.ref a1), .val (.ref ca), .val (.ref da), .val (.ref b5), .val (.ref b10), .val (.int sh), .val (.ref kk), .val (.int 2), .val (.int ((own_s1 f1 sh) (own_sb (f1 (1 : Int32)) sh))), .val (.int 3), .val (.long (f1 (2 : Int32))), .second] [(.ref a1), (.int 2)])) rfl rfl (bd d14_161)
                refine OD.go (B := (T117.setTop (mkF m 164 #[.val (.ref a1), .val (.ref ca), .val (.ref da), .val (.ref b5), .val (.ref b10), .val (.int sh), .val (.ref kk), .val (.int 2), .val (.int ((own_s1 f1 sh) (own_sb (f1 (1 : Int32)) sh))), .val (.int 3), .val (.long (f1 (2 : Int32))), .second] [(.ref da), (.int 2)]))) st117 ?_
                have f118 := (f111.other W115 ne5)
                obtain ⟨cl119, Ar119, hl119⟩ := own_len f118
                refine OD.go (B := (T117.setTop (mkF m 165 #[.val (.ref a1), .val (.ref ca), .val (.ref da), .val (.ref b5), .val (.ref b10), .val (.int sh), .val (.ref kk), .val (.int 2), .val (.int ((own_s1 f1 sh) (own_sb (f1 (1 : Int32)) sh))), .val (.int 3), .val (.long (f1 (2 : Int32))), .second] [(.int 3), (.int 2)]))) (fun t k => X117.arraylength hx (by rw [e117]; exact Ar119.1) (State.isArrayOf_alike hZ.alike Ar119.2.1) (g := (mkF m 164 #[.val (.ref a1), .val (.ref ca), .val (.ref da), .val (.ref b5), .val (.ref b10), .val (.int sh), .val (.ref kk), .val (.int 2), .val (.int ((own_s1 f1 sh) (own_sb (f1 (1 : Int32)) sh))), .val (.int 3), .val (.long (f1 (2 : Int32))), .second] [(.ref da), (.int 2)])) rfl rfl (bd d14_164) _ (by rw [hl119]; exact k)) ?_
                refine OD.go (B := (T117.setTop (mkF m 173 #[.val (.ref a1), .val (.ref ca), .val (.ref da), .val (.ref b5), .val (.ref b10), .val (.int sh), .val (.ref kk), .val (.int 2), .val (.int ((own_s1 f1 sh) (own_sb (f1 (1 : Int32)) sh))), .val (.int 3), .val (.long (f1 (2 : Int32))), .second] [(.int 2), (.ref ca), (.ref kk)]))) (fun t k => XS.icmpNo X117.here hx rfl (bd d14_165) rfl (tlt (by decide : (2 : Int32) < (3 : Int32))).2.1 (XS.aload X117.here hx rfl (bd d14_168) rfl rfl (XS.aloadN X117.here hx rfl (bd d14_170) rfl rfl (XS.iload X117.here hx rfl (bd d14_171) rfl k)))) ?_
                have f120 := ((f106.other W110 ne2).other W115 ne3)
                obtain ⟨cl121, Ar121, hi121, ha121⟩ := own_at f120 (j := (2 : Int32)) (v := (.long (f1 (2 : Int32)))) ⟨by decide, by decide⟩ (own_rg_at ⟨by decide, by decide⟩ _ _)
                refine OD.go (B := (T117.setTop (mkF m 176 #[.val (.ref a1), .val (.ref ca), .val (.ref da), .val (.ref b5), .val (.ref b10), .val (.int sh), .val (.ref kk), .val (.int 2), .val (.int ((own_s1 f1 sh) (own_sb (f1 (1 : Int32)) sh))), .val (.int 3), .val (.long (f1 (2 : Int32))), .second] [(.int sh), (.long (f1 (2 : Int32))), (.ref kk)]))) (fun t k => X117.laload hx (j := (2 : Int32)) (v := (.long (f1 (2 : Int32)))) (by rw [e117]; exact Ar121.1) (State.isArrayOf_alike hZ.alike Ar121.2.1) Ar121.2.2 hi121 ha121 (g := (mkF m 173 #[.val (.ref a1), .val (.ref ca), .val (.ref da), .val (.ref b5), .val (.ref b10), .val (.int sh), .val (.ref kk), .val (.int 2), .val (.int ((own_s1 f1 sh) (own_sb (f1 (1 : Int32)) sh))), .val (.int 3), .val (.long (f1 (2 : Int32))), .second] [(.int 2), (.ref ca), (.ref kk)])) rfl rfl (bd d14_173) _ (XS.iload X117.here hx rfl (bd d14_174) rfl k)) ?_
                obtain ⟨_, _, ⟨T122, L122, k122, n122⟩, -, X122, ⟨Lc122, hQ122, l122, y122, z122⟩, st122⟩ := Jvm.LawKit.callS X117 hx (y := (⟨zZ0, "sortingByte", "(JI)I"⟩ : MethodName)) hown (mvT hZ (Wd97 hw)) (mvT hZ (Wd98 hw)) (mvT hZ (Wd4 hw)) (mvT hZ (Wd99 hw)) (by decide) (backOf (W := 1) (rmSB l Z a0 hw [] (f1 (2 : Int32)) sh h115) hZ (Wd99 hw) (Wd4 hw) (by decide) (by decide)) (g := (mkF m 176 #[.val (.ref a1), .val (.ref ca), .val (.ref da), .val (.ref b5), .val (.ref b10), .val (.int sh), .val (.ref kk), .val (.int 2), .val (.int ((own_s1 f1 sh) (own_sb (f1 (1 : Int32)) sh))), .val (.int 3), .val (.long (f1 (2 : Int32))), .second] [(.int sh), (.long (f1 (2 : Int32))), (.ref kk)])) rfl (by rw [hml]; rfl) (argsL := [(.long (f1 (2 : Int32))), (.int sh)]) (rest := [(.ref kk)]) (lenOf pd4 rfl) rfl (by show 2 * 0 + _ ≤ _; exact Nat.le_of_eq rfl) (bd d14_176) (fun _ _ => ⟨rfl, e117, (by first | (show cn + 1 + 0 ≤ (10 : Nat); omega) | (show sn + 257 + 0 ≤ (2100 : Nat); omega)), (by first | (show cn + 1 + 0 ≤ (10 : Nat); omega) | (show sn + 257 + 0 ≤ (2100 : Nat); omega))⟩)
                dsimp only [Pt.U, Pt.locs, Pt.cells, Pt.slots] at X122 l122 y122 z122 st122 hQ122
                subst l122 y122 z122
                obtain ⟨rfl, rfl, e122⟩ := hQ122
                have N122 := Fr.app N115 (Fr.nil _)
                refine OD.go st122 ?_
                refine OD.go (B := (T122.setTop (mkF m 180 #[.val (.ref a1), .val (.ref ca), .val (.ref da), .val (.ref b5), .val (.ref b10), .val (.int sh), .val (.ref kk), .val (.int 2), .val (.int ((own_s1 f1 sh) (own_sb (f1 (1 : Int32)) sh))), .val (.int 3), .val (.long (f1 (2 : Int32))), .second] [(.int (own_sb (f1 (2 : Int32)) sh)), (.ref kk), (.int (own_sb (f1 (2 : Int32)) sh)), (.ref kk)]))) (fun t k => XT.dup2 X122.here hx rfl (bd d14_179) rfl rfl rfl k) ?_
                have f123 := ((V105.other W110 (Ne.symm nkk_b5)).other W115 (Ne.symm nkk_b10))
                obtain ⟨cl124, Ar124, hi124, ha124⟩ := own_at f123 (j := (own_sb (f1 (2 : Int32)) sh)) (v := (.int ((own_s2 f1 sh) (own_sb (f1 (2 : Int32)) sh)))) (own_sbC _ _) (own_rg_at (own_sbC _ _) _ _)
                refine OD.go (B := (T122.setTop (mkF m 184 #[.val (.ref a1), .val (.ref ca), .val (.ref da), .val (.ref b5), .val (.ref b10), .val (.int sh), .val (.ref kk), .val (.int 2), .val (.int ((own_s1 f1 sh) (own_sb (f1 (1 : Int32)) sh))), .val (.int 3), .val (.long (f1 (2 : Int32))), .second] [(.int (((own_s2 f1 sh) (own_sb (f1 (2 : Int32)) sh)) + (1 : Int32))), (.int (own_sb (f1 (2 : Int32)) sh)), (.ref kk), (.int ((own_s2 f1 sh) (own_sb (f1 (2 : Int32)) sh)))]))) (fun t k => X122.iaload hx (j := (own_sb (f1 (2 : Int32)) sh)) (v := (.int ((own_s2 f1 sh) (own_sb (f1 (2 : Int32)) sh)))) (by rw [e122]; exact Ar124.1) (State.isArrayOf_alike hZ.alike Ar124.2.1) Ar124.2.2 hi124 ha124 (g := (mkF m 180 #[.val (.ref a1), .val (.ref ca), .val (.ref da), .val (.ref b5), .val (.ref b10), .val (.int sh), .val (.ref kk), .val (.int 2), .val (.int ((own_s1 f1 sh) (own_sb (f1 (1 : Int32)) sh))), .val (.int 3), .val (.long (f1 (2 : Int32))), .second] [(.int (own_sb (f1 (2 : Int32)) sh)), (.ref kk), (.int (own_sb (f1 (2 : Int32)) sh)), (.ref kk)])) rfl rfl (bd d14_180) _ (own_dupX2 X122.here hx rfl (bd d14_181) rfl rfl rfl rfl (XS.iconst X122.here hx rfl (bd d14_182) (XS.iadd X122.here hx rfl (bd d14_183) rfl k)))) ?_
                obtain ⟨cl126, Ar126, q126, S126, M126, H126, G126⟩ := id f123
                obtain ⟨T126, h126, X126, e126, W126, st126⟩ := stI X122 hx hZ e122 Ar126 (j := (own_sb (f1 (2 : Int32)) sh)) (inb_of S126 (own_sbC _ _)) (g := (mkF m 184 #[.val (.ref a1), .val (.ref ca), .val (.ref da), .val (.ref b5), .val (.ref b10), .val (.int sh), .val (.ref kk), .val (.int 2), .val (.int ((own_s1 f1 sh) (own_sb (f1 (1 : Int32)) sh))), .val (.int 3), .val (.long (f1 (2 : Int32))), .second] [(.int (((own_s2 f1 sh) (own_sb (f1 (2 : Int32)) sh)) + (1 : Int32))), (.int (own_sb (f1 (2 : Int32)) sh)), (.ref kk), (.int ((own_s2 f1 sh) (own_sb (f1 (2 : Int32)) sh)))])) rfl rfl (bd d14_184)
                have V126 : Arv Z h126 kk kK .int 257 (own_rg (257 : Int32).toNatClampNeg (fun x => .int ((own_s3 f1 sh) x))) (.int 0) := own_put (fun x => .int ((own_s3 f1 sh) x)) Ar126 q126 S126 M126 H126 G126 rfl W126 (own_sbC _ _) (congrArg Value.int (own_up_at _ _ _)) (fun x q => congrArg Value.int (own_up_ne _ _ q))
                have N126 := Fr.snoc X126 N122 gkk
                refine OD.go st126 ?_
                refine OD.go (B := (T126.setTop (mkF m 193 #[.val (.ref a1), .val (.ref ca), .val (.ref da), .val (.ref b5), .val (.ref b10), .val (.int sh), .val (.ref kk), .val (.int 2), .val (.int ((own_s2 f1 sh) (own_sb (f1 (2 : Int32)) sh))), .val (.int 3), .val (.long (f1 (2 : Int32))), .second] [(.int 2), (.ref ca), (.int ((own_s2 f1 sh) (own_sb (f1 (2 : Int32)) sh))), (.ref b5)]))) (fun t k => XS.istore X126.here hx rfl (bd d14_185) rfl (l' := #[.val (.ref a1), .val (.ref ca), .val (.ref da), .val (.ref b5), .val (.ref b10), .val (.int sh), .val (.ref kk), .val (.int 2), .val (.int ((own_s2 f1 sh) (own_sb (f1 (2 : Int32)) sh))), .val (.int 3), .val (.long (f1 (2 : Int32))), .second]) rfl (XS.aloadN X126.here hx rfl (bd d14_187) rfl rfl (XS.iload X126.here hx rfl (bd d14_188) rfl (XS.aloadN X126.here hx rfl (bd d14_190) rfl rfl (XS.iload X126.here hx rfl (bd d14_191) rfl k))))) ?_
                have f127 := (f120.other W126 nkk_ca)
                obtain ⟨cl128, Ar128, hi128, ha128⟩ := own_at f127 (j := (2 : Int32)) (v := (.long (f1 (2 : Int32)))) ⟨by decide, by decide⟩ (own_rg_at ⟨by decide, by decide⟩ _ _)
                refine OD.go (B := (T126.setTop (mkF m 194 #[.val (.ref a1), .val (.ref ca), .val (.ref da), .val (.ref b5), .val (.ref b10), .val (.int sh), .val (.ref kk), .val (.int 2), .val (.int ((own_s2 f1 sh) (own_sb (f1 (2 : Int32)) sh))), .val (.int 3), .val (.long (f1 (2 : Int32))), .second] [(.long (f1 (2 : Int32))), (.int ((own_s2 f1 sh) (own_sb (f1 (2 : Int32)) sh))), (.ref b5)]))) (fun t k => X126.laload hx (j := (2 : Int32)) (v := (.long (f1 (2 : Int32)))) (by rw [e126]; exact Ar128.1) (State.isArrayOf_alike hZ.alike Ar128.2.1) Ar128.2.2 hi128 ha128 (g := (mkF m 193 #[.val (.ref a1), .val (.ref ca), .val (.ref da), .val (.ref b5), .val (.ref b10), .val (.int sh), .val (.ref kk), .val (.int 2), .val (.int ((own_s2 f1 sh) (own_sb (f1 (2 : Int32)) sh))), .val (.int 3), .val (.long (f1 (2 : Int32))), .second] [(.int 2), (.ref ca), (.int ((own_s2 f1 sh) (own_sb (f1 (2 : Int32)) sh))), (.ref b5)])) rfl rfl (bd d14_193) _ k) ?_
                have f129 := ((V110.other W115 ne6).other W126 nkk_b5)
                obtain ⟨cl131, Ar131, q131, S131, M131, H131, G131⟩ := id f129
                obtain ⟨T131, h131, X131, e131, W131, st131⟩ := stJ X126 hx hZ e126 Ar131 (j := ((own_s2 f1 sh) (own_sb (f1 (2 : Int32)) sh))) (inb_of S131 (own_place2 f1 sh)) (g := (mkF m 194 #[.val (.ref a1), .val (.ref ca), .val (.ref da), .val (.ref b5), .val (.ref b10), .val (.int sh), .val (.ref kk), .val (.int 2), .val (.int ((own_s2 f1 sh) (own_sb (f1 (2 : Int32)) sh))), .val (.int 3), .val (.long (f1 (2 : Int32))), .second] [(.long (f1 (2 : Int32))), (.int ((own_s2 f1 sh) (own_sb (f1 (2 : Int32)) sh))), (.ref b5)])) rfl rfl (bd d14_194)
                have V131 : Arv Z h131 b5 k5 .long (3 : Int32) (own_rg (3 : Int32).toNatClampNeg (fun x => .long ((own_up (own_up (own_up f2 ((own_PF f1 sh) (own_sb (f1 (0 : Int32)) sh)) (f1 (0 : Int32))) ((own_s1 f1 sh) (own_sb (f1 (1 : Int32)) sh)) (f1 (1 : Int32))) ((own_s2 f1 sh) (own_sb (f1 (2 : Int32)) sh)) (f1 (2 : Int32))) x))) (.long (0 : Int64)) := own_put (fun x => .long ((own_up (own_up (own_up f2 ((own_PF f1 sh) (own_sb (f1 (0 : Int32)) sh)) (f1 (0 : Int32))) ((own_s1 f1 sh) (own_sb (f1 (1 : Int32)) sh)) (f1 (1 : Int32))) ((own_s2 f1 sh) (own_sb (f1 (2 : Int32)) sh)) (f1 (2 : Int32))) x)) Ar131 q131 S131 M131 H131 G131 rfl W131 (own_place2 f1 sh) (congrArg Value.long (own_up_at _ _ _)) (fun x q => congrArg Value.long (own_up_ne _ _ q))
                have N131 := Fr.snoc X131 N126 gcc
                refine OD.go st131 ?_
                refine OD.go (B := (T131.setTop (mkF m 202 #[.val (.ref a1), .val (.ref ca), .val (.ref da), .val (.ref b5), .val (.ref b10), .val (.int sh), .val (.ref kk), .val (.int 2), .val (.int ((own_s2 f1 sh) (own_sb (f1 (2 : Int32)) sh))), .val (.int 3), .val (.long (f1 (2 : Int32))), .second] [(.int 2), (.ref da), (.int ((own_s2 f1 sh) (own_sb (f1 (2 : Int32)) sh))), (.ref b10)]))) (fun t k => XS.aload X131.here hx rfl (bd d14_195) rfl rfl (XS.iload X131.here hx rfl (bd d14_197) rfl (XS.aloadN X131.here hx rfl (bd d14_199) rfl rfl (XS.iload X131.here hx rfl (bd d14_200) rfl k)))) ?_
                have f132 := ((f118.other W126 nkk_da).other W131 ne4)
                obtain ⟨cl133, Ar133, hi133, ha133⟩ := own_at f132 (j := (2 : Int32)) (v := (.int (g1 (2 : Int32)))) ⟨by decide, by decide⟩ (own_rg_at ⟨by decide, by decide⟩ _ _)
                refine OD.go (B := (T131.setTop (mkF m 203 #[.val (.ref a1), .val (.ref ca), .val (.ref da), .val (.ref b5), .val (.ref b10), .val (.int sh), .val (.ref kk), .val (.int 2), .val (.int ((own_s2 f1 sh) (own_sb (f1 (2 : Int32)) sh))), .val (.int 3), .val (.long (f1 (2 : Int32))), .second] [(.int (g1 (2 : Int32))), (.int ((own_s2 f1 sh) (own_sb (f1 (2 : Int32)) sh))), (.ref b10)]))) (fun t k => X131.iaload hx (j := (2 : Int32)) (v := (.int (g1 (2 : Int32)))) (by rw [e131]; exact Ar133.1) (State.isArrayOf_alike hZ.alike Ar133.2.1) Ar133.2.2 hi133 ha133 (g := (mkF m 202 #[.val (.ref a1), .val (.ref ca), .val (.ref da), .val (.ref b5), .val (.ref b10), .val (.int sh), .val (.ref kk), .val (.int 2), .val (.int ((own_s2 f1 sh) (own_sb (f1 (2 : Int32)) sh))), .val (.int 3), .val (.long (f1 (2 : Int32))), .second] [(.int 2), (.ref da), (.int ((own_s2 f1 sh) (own_sb (f1 (2 : Int32)) sh))), (.ref b10)])) rfl rfl (bd d14_202) _ k) ?_
                have f134 := ((V115.other W126 nkk_b10).other W131 (Ne.symm ne6))
                obtain ⟨cl136, Ar136, q136, S136, M136, H136, G136⟩ := id f134
                obtain ⟨T136, h136, X136, e136, W136, st136⟩ := stI X131 hx hZ e131 Ar136 (j := ((own_s2 f1 sh) (own_sb (f1 (2 : Int32)) sh))) (inb_of S136 (own_place2 f1 sh)) (g := (mkF m 203 #[.val (.ref a1), .val (.ref ca), .val (.ref da), .val (.ref b5), .val (.ref b10), .val (.int sh), .val (.ref kk), .val (.int 2), .val (.int ((own_s2 f1 sh) (own_sb (f1 (2 : Int32)) sh))), .val (.int 3), .val (.long (f1 (2 : Int32))), .second] [(.int (g1 (2 : Int32))), (.int ((own_s2 f1 sh) (own_sb (f1 (2 : Int32)) sh))), (.ref b10)])) rfl rfl (bd d14_203)
                have V136 : Arv Z h136 b10 k10 .int 3 (own_rg (3 : Int32).toNatClampNeg (fun x => .int ((own_up (own_up (own_up g2 ((own_PF f1 sh) (own_sb (f1 (0 : Int32)) sh)) (g1 (0 : Int32))) ((own_s1 f1 sh) (own_sb (f1 (1 : Int32)) sh)) (g1 (1 : Int32))) ((own_s2 f1 sh) (own_sb (f1 (2 : Int32)) sh)) (g1 (2 : Int32))) x))) (.int 0) := own_put (fun x => .int ((own_up (own_up (own_up g2 ((own_PF f1 sh) (own_sb (f1 (0 : Int32)) sh)) (g1 (0 : Int32))) ((own_s1 f1 sh) (own_sb (f1 (1 : Int32)) sh)) (g1 (1 : Int32))) ((own_s2 f1 sh) (own_sb (f1 (2 : Int32)) sh)) (g1 (2 : Int32))) x)) Ar136 q136 S136 M136 H136 G136 rfl W136 (own_place2 f1 sh) (congrArg Value.int (own_up_at _ _ _)) (fun x q => congrArg Value.int (own_up_ne _ _ q))
                have N136 := Fr.snoc X136 N131 gdd
                refine OD.go st136 ?_
                refine OD.go (B := (T136.setTop (mkF m 161 #[.val (.ref a1), .val (.ref ca), .val (.ref da), .val (.ref b5), .val (.ref b10), .val (.int sh), .val (.ref kk), .val (.int 3), .val (.int ((own_s2 f1 sh) (own_sb (f1 (2 : Int32)) sh))), .val (.int 3), .val (.long (f1 (2 : Int32))), .second] [(.ref a1), (.int 3)]))) (fun t k => XS.iinc X136.here hx rfl (bd d14_204) rfl (l' := #[.val (.ref a1), .val (.ref ca), .val (.ref da), .val (.ref b5), .val (.ref b10), .val (.int sh), .val (.ref kk), .val (.int 3), .val (.int ((own_s2 f1 sh) (own_sb (f1 (2 : Int32)) sh))), .val (.int 3), .val (.long (f1 (2 : Int32))), .second]) rfl (XS.goto X136.here hx rfl (pc0 := 207) (pc' := 158) rfl (bd d14_207) (by decide) (by decide) (XS.iload X136.here hx rfl (bd d14_158) rfl (XS.aloadN X136.here hx rfl (bd d14_160) rfl rfl k)))) ?_
                have f137 := (((f116.other W126 (Or.inl nkk_a1)).other W131 (Or.inl ne0)).other W136 (Or.inl ne1))
                obtain ⟨T138, X138, e138, st138⟩ := getF X136 hx hZ hown (host := "") (Or.inl (Wd39 hw)) Via.refl e136 f137 (g := (mkF m 161 #[.val (.ref a1), .val (.ref ca), .val (.ref da), .val (.ref b5), .val (.ref b10), .val (.int sh), .val (.ref kk), .val (.int 3), .val (.int ((own_s2 f1 sh) (own_sb (f1 (2 : Int32)) sh))), .val (.int 3), .val (.long (f1 (2 : Int32))), .second] [(.ref a1), (.int 3)])) rfl rfl (bd d14_161)
                refine OD.go (B := (T138.setTop (mkF m 164 #[.val (.ref a1), .val (.ref ca), .val (.ref da), .val (.ref b5), .val (.ref b10), .val (.int sh), .val (.ref kk), .val (.int 3), .val (.int ((own_s2 f1 sh) (own_sb (f1 (2 : Int32)) sh))), .val (.int 3), .val (.long (f1 (2 : Int32))), .second] [(.ref da), (.int 3)]))) st138 ?_
                have f139 := (f132.other W136 ne5)
                obtain ⟨cl140, Ar140, hl140⟩ := own_len f139
                refine OD.go (B := (T138.setTop (mkF m 165 #[.val (.ref a1), .val (.ref ca), .val (.ref da), .val (.ref b5), .val (.ref b10), .val (.int sh), .val (.ref kk), .val (.int 3), .val (.int ((own_s2 f1 sh) (own_sb (f1 (2 : Int32)) sh))), .val (.int 3), .val (.long (f1 (2 : Int32))), .second] [(.int 3), (.int 3)]))) (fun t k => X138.arraylength hx (by rw [e138]; exact Ar140.1) (State.isArrayOf_alike hZ.alike Ar140.2.1) (g := (mkF m 164 #[.val (.ref a1), .val (.ref ca), .val (.ref da), .val (.ref b5), .val (.ref b10), .val (.int sh), .val (.ref kk), .val (.int 3), .val (.int ((own_s2 f1 sh) (own_sb (f1 (2 : Int32)) sh))), .val (.int 3), .val (.long (f1 (2 : Int32))), .second] [(.ref da), (.int 3)])) rfl rfl (bd d14_164) _ (by rw [hl140]; exact k)) ?_
                refine OD.go (B := (T138.setTop (mkF m 227 #[.val (.ref a1), .val (.ref b5), .val (.ref da), .val (.ref ca), .val (.ref da), .val (.int sh), .val (.ref kk), .val (.ref b5), .val (.ref b10), .val (.int 3), .val (.long (f1 (2 : Int32))), .second] [(.ref b10)]))) (fun t k => XS.icmpYes X138.here hx rfl (pc0 := 165) (pc' := 210) rfl (bd d14_165) rfl (flt (by decide : ¬ (3 : Int32) < (3 : Int32))).2.1 (by decide) (by decide) (XS.aloadN X138.here hx rfl (bd d14_210) rfl rfl (XS.astore X138.here hx rfl (bd d14_211) rfl rfl (l' := #[.val (.ref a1), .val (.ref ca), .val (.ref da), .val (.ref b5), .val (.ref b10), .val (.int sh), .val (.ref kk), .val (.ref b5), .val (.int ((own_s2 f1 sh) (own_sb (f1 (2 : Int32)) sh))), .val (.int 3), .val (.long (f1 (2 : Int32))), .second]) rfl (XS.aload X138.here hx rfl (bd d14_213) rfl rfl (XS.astore X138.here hx rfl (bd d14_215) rfl rfl (l' := #[.val (.ref a1), .val (.ref ca), .val (.ref da), .val (.ref b5), .val (.ref b10), .val (.int sh), .val (.ref kk), .val (.ref b5), .val (.ref b10), .val (.int 3), .val (.long (f1 (2 : Int32))), .second]) rfl (XS.aloadN X138.here hx rfl (bd d14_217) rfl rfl (XS.astoreN X138.here hx rfl (bd d14_218) rfl rfl (l' := #[.val (.ref a1), .val (.ref ca), .val (.ref da), .val (.ref ca), .val (.ref b10), .val (.int sh), .val (.ref kk), .val (.ref b5), .val (.ref b10), .val (.int 3), .val (.long (f1 (2 : Int32))), .second]) rfl (XS.aloadN X138.here hx rfl (bd d14_219) rfl rfl (XS.astore X138.here hx rfl (bd d14_220) rfl rfl (l' := #[.val (.ref a1), .val (.ref ca), .val (.ref da), .val (.ref ca), .val (.ref da), .val (.int sh), .val (.ref kk), .val (.ref b5), .val (.ref b10), .val (.int 3), .val (.long (f1 (2 : Int32))), .second]) rfl (XS.aload X138.here hx rfl (bd d14_222) rfl rfl (XS.astoreN X138.here hx rfl (bd d14_224) rfl rfl (l' := #[.val (.ref a1), .val (.ref b5), .val (.ref da), .val (.ref ca), .val (.ref da), .val (.int sh), .val (.ref kk), .val (.ref b5), .val (.ref b10), .val (.int 3), .val (.long (f1 (2 : Int32))), .second]) rfl (XS.aload X138.here hx rfl (bd d14_225) rfl rfl k)))))))))))) ?_
                refine OD.go (B := (T138.setTop (mkF m 30 #[.val (.ref a1), .val (.ref b5), .val (.ref b10), .val (.ref ca), .val (.ref da), .val (.int (sh + (8 : Int32))), .val (.ref kk), .val (.ref b5), .val (.ref b10), .val (.int 3), .val (.long (f1 (2 : Int32))), .second] []))) (fun t k => XS.astoreN X138.here hx rfl (bd d14_227) rfl rfl (l' := #[.val (.ref a1), .val (.ref b5), .val (.ref b10), .val (.ref ca), .val (.ref da), .val (.int sh), .val (.ref kk), .val (.ref b5), .val (.ref b10), .val (.int 3), .val (.long (f1 (2 : Int32))), .second]) rfl (XS.iinc X138.here hx rfl (bd d14_228) rfl (l' := #[.val (.ref a1), .val (.ref b5), .val (.ref b10), .val (.ref ca), .val (.ref da), .val (.int (sh + (8 : Int32))), .val (.ref kk), .val (.ref b5), .val (.ref b10), .val (.int 3), .val (.long (f1 (2 : Int32))), .second]) rfl (XS.goto X138.here hx rfl (pc0 := 231) (pc' := 30) rfl (bd d14_231) (by decide) (by decide) k))) ?_
                exact ih _ _ _ _ _ _ _ _ _ _ _ _ _ _ _ _ _ _ _ _ X138 (by omega) (by omega) e138 N136 ((((((((((((((Kl.trans Km all0).wr W53 (Or.inr okk)).wr W59 (Or.inr okk)).wr W65 (Or.inr okk)).trans Kp (allS (Or.inr okk) all0)).wr W84 (Or.inr okk)).wr W89 (Or.inr oc)).wr W94 (Or.inr od)).wr W105 (Or.inr okk)).wr W110 (Or.inr oc)).wr W115 (Or.inr od)).wr W126 (Or.inr okk)).wr W131 (Or.inr oc)).wr W136 (Or.inr od)) ((f127.other W131 ne2).other W136 ne3) f139 (V131.other W136 ne6) V136 (Or.inr ⟨rfl, rfl, rfl, rfl⟩) (Or.inr (Or.inr ⟨_, _, _, _, rfl, rfl, rfl, rfl, rfl, rfl⟩)) (own_sh8 hsh)
              | succ fu ihp =>
                intro iv G Tp hp Lp Xp ep Np Kp Vp hiv hG
                have hc2 := own_ivL hiv
                have hinb0 := own_ivA hiv
                have hinb1 := own_ivB hiv
                refine OD.go (B := (Tp.setTop (mkF m 141 #[.val (.ref a1), .val (.ref ca), .val (.ref da), .val (.ref b5), .val (.ref b10), .val (.int sh), .val (.ref kk), .val (.int iv), .val (.int 3), .val (.int 3), .val (.long (f1 (2 : Int32))), .second] [(.int (iv + (1 : Int32))), (.ref kk), (.int (iv + (1 : Int32))), (.ref kk)]))) (fun t k => XS.iload Xp.here hx rfl (bd d14_126) rfl (XS.sipush Xp.here hx rfl (bd d14_128) (XS.icmpNo Xp.here hx rfl (bd d14_131) rfl (tlt hc2).2.1 (XS.aload Xp.here hx rfl (bd d14_134) rfl rfl (XS.iload Xp.here hx rfl (bd d14_136) rfl (XS.iconst Xp.here hx rfl (bd d14_138) (XS.iadd Xp.here hx rfl (bd d14_139) rfl (XT.dup2 Xp.here hx rfl (bd d14_140) rfl rfl rfl k)))))))) ?_
                obtain ⟨cl141, Ar141, hi141, ha141⟩ := own_at Vp (j := (iv + (1 : Int32))) (v := (.int (G (iv + (1 : Int32))))) hinb1 (own_rg_at hinb1 _ _)
                refine OD.go (B := (Tp.setTop (mkF m 146 #[.val (.ref a1), .val (.ref ca), .val (.ref da), .val (.ref b5), .val (.ref b10), .val (.int sh), .val (.ref kk), .val (.int iv), .val (.int 3), .val (.int 3), .val (.long (f1 (2 : Int32))), .second] [(.int iv), (.ref kk), (.int (G (iv + (1 : Int32)))), (.int (iv + (1 : Int32))), (.ref kk)]))) (fun t k => Xp.iaload hx (j := (iv + (1 : Int32))) (v := (.int (G (iv + (1 : Int32))))) (by rw [ep]; exact Ar141.1) (State.isArrayOf_alike hZ.alike Ar141.2.1) Ar141.2.2 hi141 ha141 (g := (mkF m 141 #[.val (.ref a1), .val (.ref ca), .val (.ref da), .val (.ref b5), .val (.ref b10), .val (.int sh), .val (.ref kk), .val (.int iv), .val (.int 3), .val (.int 3), .val (.long (f1 (2 : Int32))), .second] [(.int (iv + (1 : Int32))), (.ref kk), (.int (iv + (1 : Int32))), (.ref kk)])) rfl rfl (bd d14_141) _ (XS.aload Xp.here hx rfl (bd d14_142) rfl rfl (XS.iload Xp.here hx rfl (bd d14_144) rfl k))) ?_
                obtain ⟨cl142, Ar142, hi142, ha142⟩ := own_at Vp (j := iv) (v := (.int (G iv))) hinb0 (own_rg_at hinb0 _ _)
                refine OD.go (B := (Tp.setTop (mkF m 148 #[.val (.ref a1), .val (.ref ca), .val (.ref da), .val (.ref b5), .val (.ref b10), .val (.int sh), .val (.ref kk), .val (.int iv), .val (.int 3), .val (.int 3), .val (.long (f1 (2 : Int32))), .second] [(.int ((G (iv + (1 : Int32))) + (G iv))), (.int (iv + (1 : Int32))), (.ref kk)]))) (fun t k => Xp.iaload hx (j := iv) (v := (.int (G iv))) (by rw [ep]; exact Ar142.1) (State.isArrayOf_alike hZ.alike Ar142.2.1) Ar142.2.2 hi142 ha142 (g := (mkF m 146 #[.val (.ref a1), .val (.ref ca), .val (.ref da), .val (.ref b5), .val (.ref b10), .val (.int sh), .val (.ref kk), .val (.int iv), .val (.int 3), .val (.int 3), .val (.long (f1 (2 : Int32))), .second] [(.int iv), (.ref kk), (.int (G (iv + (1 : Int32)))), (.int (iv + (1 : Int32))), (.ref kk)])) rfl rfl (bd d14_146) _ (XS.iadd Xp.here hx rfl (bd d14_147) rfl k)) ?_
                obtain ⟨cl144, Ar144, q144, S144, M144, H144, G144⟩ := id Vp
                obtain ⟨T144, h144, X144, e144, W144, st144⟩ := stI Xp hx hZ ep Ar144 (j := (iv + (1 : Int32))) (inb_of S144 hinb1) (g := (mkF m 148 #[.val (.ref a1), .val (.ref ca), .val (.ref da), .val (.ref b5), .val (.ref b10), .val (.int sh), .val (.ref kk), .val (.int iv), .val (.int 3), .val (.int 3), .val (.long (f1 (2 : Int32))), .second] [(.int ((G (iv + (1 : Int32))) + (G iv))), (.int (iv + (1 : Int32))), (.ref kk)])) rfl rfl (bd d14_148)
                have V144 : Arv Z h144 kk kK .int 257 (own_rg (257 : Int32).toNatClampNeg (fun x => .int ((own_up G (iv + (1 : Int32)) ((G (iv + (1 : Int32))) + (G iv))) x))) (.int 0) := own_put (fun x => .int ((own_up G (iv + (1 : Int32)) ((G (iv + (1 : Int32))) + (G iv))) x)) Ar144 q144 S144 M144 H144 G144 rfl W144 hinb1 (congrArg Value.int (own_up_at _ _ _)) (fun x q => congrArg Value.int (own_up_ne _ _ q))
                have N144 := Fr.snoc X144 Np gkk
                refine OD.go st144 ?_
                refine OD.go (B := (T144.setTop (mkF m 126 #[.val (.ref a1), .val (.ref ca), .val (.ref da), .val (.ref b5), .val (.ref b10), .val (.int sh), .val (.ref kk), .val (.int (iv + (1 : Int32))), .val (.int 3), .val (.int 3), .val (.long (f1 (2 : Int32))), .second] []))) (fun t k => XS.iinc X144.here hx rfl (bd d14_149) rfl (l' := #[.val (.ref a1), .val (.ref ca), .val (.ref da), .val (.ref b5), .val (.ref b10), .val (.int sh), .val (.ref kk), .val (.int (iv + (1 : Int32))), .val (.int 3), .val (.int 3), .val (.long (f1 (2 : Int32))), .second]) rfl (XS.goto X144.here hx rfl (pc0 := 152) (pc' := 126) rfl (bd d14_152) (by decide) (by decide) k)) ?_
                exact ihp _ _ _ _ _ X144 e144 N144 (Kp.wr W144 (Or.inl (List.mem_of_getElem? (i := 0) rfl))) V144 (own_iv1 hiv) (by rw [own_pl] at hG; exact hG)
            exact pre 256 _ _ _ _ _ X71 e71 N68 (Keep.refl _ _) V65 (by decide) rfl
        rcases hfm with ⟨rfl, rfl, rfl, rfl, rfl, rfl⟩ | ⟨r6, r7, lv, rfl, rfl, rfl, rfl, rfl, rfl⟩ | ⟨r6, r7, r8, lv, rfl, rfl, rfl, rfl, rfl, rfl⟩
        · show OD _ _ _ _ _ _ _ (Tl.setTop (mkF m 30 #[.val (.ref a1), .val (.ref ca), .val (.ref da), .val (.ref b5), .val (.ref b10), .val (.int sh), .unset, .unset, .unset, .unset, .unset, .unset] []))
          refine OD.go (B := (Tl.setTop (mkF m 38 #[.val (.ref a1), .val (.ref ca), .val (.ref da), .val (.ref b5), .val (.ref b10), .val (.int sh), .unset, .unset, .unset, .unset, .unset, .unset] [(.ref a1)]))) (fun t k => XS.iload Xl.here hx rfl (bd d14_30) rfl (XS.bipush Xl.here hx rfl (bd d14_32) (XS.icmpNo Xl.here hx rfl (bd d14_34) rfl (tlt hc).2.1 (XS.aloadN Xl.here hx rfl (bd d14_37) rfl rfl k)))) ?_
          obtain ⟨T145, X145, e145, st145⟩ := getF Xl hx hZ hown (host := "") (Or.inl (Wd39 hw)) Via.refl el Fdl (g := (mkF m 38 #[.val (.ref a1), .val (.ref ca), .val (.ref da), .val (.ref b5), .val (.ref b10), .val (.int sh), .unset, .unset, .unset, .unset, .unset, .unset] [(.ref a1)])) rfl rfl (bd d14_38)
          refine OD.go (B := (T145.setTop (mkF m 41 #[.val (.ref a1), .val (.ref ca), .val (.ref da), .val (.ref b5), .val (.ref b10), .val (.int sh), .unset, .unset, .unset, .unset, .unset, .unset] [(.ref da)]))) st145 ?_
          obtain ⟨cl146, Ar146, hl146⟩ := own_len B2
          refine OD.go (B := (T145.setTop (mkF m 42 #[.val (.ref a1), .val (.ref ca), .val (.ref da), .val (.ref b5), .val (.ref b10), .val (.int sh), .unset, .unset, .unset, .unset, .unset, .unset] [(.int 3)]))) (fun t k => X145.arraylength hx (by rw [e145]; exact Ar146.1) (State.isArrayOf_alike hZ.alike Ar146.2.1) (g := (mkF m 41 #[.val (.ref a1), .val (.ref ca), .val (.ref da), .val (.ref b5), .val (.ref b10), .val (.int sh), .unset, .unset, .unset, .unset, .unset, .unset] [(.ref da)])) rfl rfl (bd d14_41) _ (by rw [hl146]; exact k)) ?_
          refine OD.go (B := (T145.setTop (mkF m 48 #[.val (.ref a1), .val (.ref ca), .val (.ref da), .val (.ref b5), .val (.ref b10), .val (.int sh), .unset, .unset, .unset, .unset, .unset, .unset] [(.int 257)]))) (fun t k => XS.ifNo X145.here hx rfl (bd d14_42) rfl (by rw [if0]; exact (tlt (by decide : (0 : Int32) < (3 : Int32))).2.2.2) (XS.sipush X145.here hx rfl (bd d14_45) k)) ?_
          obtain ⟨T147, h147, k147, X147, e147, E147, A147, st147⟩ := newP X145 hx hZ (aty := .int) (Wd0 hw) e145 (g := (mkF m 48 #[.val (.ref a1), .val (.ref ca), .val (.ref da), .val (.ref b5), .val (.ref b10), .val (.int sh), .unset, .unset, .unset, .unset, .unset, .unset] [(.int 257)])) rfl (bd d14_48) rfl (by decide) (cap := 257) (by decide) (by decide) (by show cn + 1 ≤ (10 : Nat); omega) (by show sn + 257 ≤ (2100 : Nat); omega)
          obtain ⟨b147, g147⟩ : ∃ z, z = hl.size := ⟨_, rfl⟩
          rw [← g147] at A147 st147
          have V147 : Arv Z h147 b147 k147 .int 257 (own_rg (257 : Int32).toNatClampNeg (fun x => .int (own_zero x))) (.int 0) := own_fill (Arv.new A147 (by decide))
          have gk147 : n0 ≤ b147 := Nat.le_trans Z0 (Nat.le_trans Kl.1 (Nat.le_of_eq g147.symm))
          have ok147 : h0.size ≤ b147 := Nat.le_trans Kl.1 (Nat.le_of_eq g147.symm)
          have nk147_ca : ca ≠ b147 := Nat.ne_of_lt (Nat.lt_of_lt_of_le B1.lt (Nat.le_of_eq g147.symm))
          have nk147_da : da ≠ b147 := Nat.ne_of_lt (Nat.lt_of_lt_of_le B2.lt (Nat.le_of_eq g147.symm))
          have nk147_b5 : b5 ≠ b147 := Nat.ne_of_lt (Nat.lt_of_lt_of_le B3.lt (Nat.le_of_eq g147.symm))
          have nk147_b10 : b10 ≠ b147 := Nat.ne_of_lt (Nat.lt_of_lt_of_le B4.lt (Nat.le_of_eq g147.symm))
          have nk147_a1 : a1 ≠ b147 := Nat.ne_of_lt (Nat.lt_of_lt_of_le Fdl.lt (Nat.le_of_eq g147.symm))
          refine OD.go st147 ?_
          refine OD.go (B := (T147.setTop (mkF m 57 #[.val (.ref a1), .val (.ref ca), .val (.ref da), .val (.ref b5), .val (.ref b10), .val (.int sh), .val (.ref b147), .val (.ref ca), .unset, .unset, .unset, .unset] [(.ref ca)]))) (fun t k => XS.astore X147.here hx rfl (bd d14_50) rfl rfl (l' := #[.val (.ref a1), .val (.ref ca), .val (.ref da), .val (.ref b5), .val (.ref b10), .val (.int sh), .val (.ref b147), .unset, .unset, .unset, .unset, .unset]) rfl (XS.aloadN X147.here hx rfl (bd d14_52) rfl rfl (XS.astore X147.here hx rfl (bd d14_53) rfl rfl (l' := #[.val (.ref a1), .val (.ref ca), .val (.ref da), .val (.ref b5), .val (.ref b10), .val (.int sh), .val (.ref b147), .val (.ref ca), .unset, .unset, .unset, .unset]) rfl (XS.aload X147.here hx rfl (bd d14_55) rfl rfl k)))) ?_
          have f148 := (B1.ext E147)
          obtain ⟨cl149, Ar149, hl149⟩ := own_len f148
          refine OD.go (B := (T147.setTop (mkF m 58 #[.val (.ref a1), .val (.ref ca), .val (.ref da), .val (.ref b5), .val (.ref b10), .val (.int sh), .val (.ref b147), .val (.ref ca), .unset, .unset, .unset, .unset] [(.int 3)]))) (fun t k => X147.arraylength hx (by rw [e147]; exact Ar149.1) (State.isArrayOf_alike hZ.alike Ar149.2.1) (g := (mkF m 57 #[.val (.ref a1), .val (.ref ca), .val (.ref da), .val (.ref b5), .val (.ref b10), .val (.int sh), .val (.ref b147), .val (.ref ca), .unset, .unset, .unset, .unset] [(.ref ca)])) rfl rfl (bd d14_57) _ (by rw [hl149]; exact k)) ?_
          refine OD.go (B := (T147.setTop (mkF m 74 #[.val (.ref a1), .val (.ref ca), .val (.ref da), .val (.ref b5), .val (.ref b10), .val (.int sh), .val (.ref b147), .val (.ref ca), .val (.int 3), .val (.int 0), .unset, .unset] [(.int 0), (.ref ca)]))) (fun t k => XS.istore X147.here hx rfl (bd d14_58) rfl (l' := #[.val (.ref a1), .val (.ref ca), .val (.ref da), .val (.ref b5), .val (.ref b10), .val (.int sh), .val (.ref b147), .val (.ref ca), .val (.int 3), .unset, .unset, .unset]) rfl (XS.iconst X147.here hx rfl (bd d14_60) (XS.istore X147.here hx rfl (bd d14_61) rfl (l' := #[.val (.ref a1), .val (.ref ca), .val (.ref da), .val (.ref b5), .val (.ref b10), .val (.int sh), .val (.ref b147), .val (.ref ca), .val (.int 3), .val (.int 0), .unset, .unset]) rfl (XS.iload X147.here hx rfl (bd d14_63) rfl (XS.iload X147.here hx rfl (bd d14_65) rfl (XS.icmpNo X147.here hx rfl (bd d14_67) rfl (tlt (by decide : (0 : Int32) < (3 : Int32))).2.1 (XS.aload X147.here hx rfl (bd d14_70) rfl rfl (XS.iload X147.here hx rfl (bd d14_72) rfl k)))))))) ?_
          obtain ⟨cl150, Ar150, hi150, ha150⟩ := own_at f148 (j := (0 : Int32)) (v := (.long (f1 (0 : Int32)))) ⟨by decide, by decide⟩ (own_rg_at ⟨by decide, by decide⟩ _ _)
          refine OD.go (B := (T147.setTop (mkF m 77 #[.val (.ref a1), .val (.ref ca), .val (.ref da), .val (.ref b5), .val (.ref b10), .val (.int sh), .val (.ref b147), .val (.ref ca), .val (.int 3), .val (.int 0), .val (.long (f1 (0 : Int32))), .second] []))) (fun t k => X147.laload hx (j := (0 : Int32)) (v := (.long (f1 (0 : Int32)))) (by rw [e147]; exact Ar150.1) (State.isArrayOf_alike hZ.alike Ar150.2.1) Ar150.2.2 hi150 ha150 (g := (mkF m 74 #[.val (.ref a1), .val (.ref ca), .val (.ref da), .val (.ref b5), .val (.ref b10), .val (.int sh), .val (.ref b147), .val (.ref ca), .val (.int 3), .val (.int 0), .unset, .unset] [(.int 0), (.ref ca)])) rfl rfl (bd d14_74) _ (XS.lstore X147.here hx rfl (bd d14_75) rfl (l' := #[.val (.ref a1), .val (.ref ca), .val (.ref da), .val (.ref b5), .val (.ref b10), .val (.int sh), .val (.ref b147), .val (.ref ca), .val (.int 3), .val (.int 0), .val (.long (f1 (0 : Int32))), .second]) rfl k)) ?_
          exact mid _ _ _ _ _ X147 e147 Nl ((Keep.refl _ []).ext E147) gk147 ok147 nk147_a1 nk147_ca nk147_da nk147_b5 nk147_b10 V147
        · show OD _ _ _ _ _ _ _ (Tl.setTop (mkF m 30 #[.val (.ref a1), .val (.ref ca), .val (.ref da), .val (.ref b5), .val (.ref b10), .val (.int sh), .val (.ref r6), .val (.ref r7), .val (.int 3), .val (.int 3), .val (.long lv), .second] []))
          refine OD.go (B := (Tl.setTop (mkF m 38 #[.val (.ref a1), .val (.ref ca), .val (.ref da), .val (.ref b5), .val (.ref b10), .val (.int sh), .val (.ref r6), .val (.ref r7), .val (.int 3), .val (.int 3), .val (.long lv), .second] [(.ref a1)]))) (fun t k => XS.iload Xl.here hx rfl (bd d14_30) rfl (XS.bipush Xl.here hx rfl (bd d14_32) (XS.icmpNo Xl.here hx rfl (bd d14_34) rfl (tlt hc).2.1 (XS.aloadN Xl.here hx rfl (bd d14_37) rfl rfl k)))) ?_
          obtain ⟨T151, X151, e151, st151⟩ := getF Xl hx hZ hown (host := "") (Or.inl (Wd39 hw)) Via.refl el Fdl (g := (mkF m 38 #[.val (.ref a1), .val (.ref ca), .val (.ref da), .val (.ref b5), .val (.ref b10), .val (.int sh), .val (.ref r6), .val (.ref r7), .val (.int 3), .val (.int 3), .val (.long lv), .second] [(.ref a1)])) rfl rfl (bd d14_38)
          refine OD.go (B := (T151.setTop (mkF m 41 #[.val (.ref a1), .val (.ref ca), .val (.ref da), .val (.ref b5), .val (.ref b10), .val (.int sh), .val (.ref r6), .val (.ref r7), .val (.int 3), .val (.int 3), .val (.long lv), .second] [(.ref da)]))) st151 ?_
          obtain ⟨cl152, Ar152, hl152⟩ := own_len B2
          refine OD.go (B := (T151.setTop (mkF m 42 #[.val (.ref a1), .val (.ref ca), .val (.ref da), .val (.ref b5), .val (.ref b10), .val (.int sh), .val (.ref r6), .val (.ref r7), .val (.int 3), .val (.int 3), .val (.long lv), .second] [(.int 3)]))) (fun t k => X151.arraylength hx (by rw [e151]; exact Ar152.1) (State.isArrayOf_alike hZ.alike Ar152.2.1) (g := (mkF m 41 #[.val (.ref a1), .val (.ref ca), .val (.ref da), .val (.ref b5), .val (.ref b10), .val (.int sh), .val (.ref r6), .val (.ref r7), .val (.int 3), .val (.int 3), .val (.long lv), .second] [(.ref da)])) rfl rfl (bd d14_41) _ (by rw [hl152]; exact k)) ?_
          refine OD.go (B := (T151.setTop (mkF m 48 #[.val (.ref a1), .val (.ref ca), .val (.ref da), .val (.ref b5), .val (.ref b10), .val (.int sh), .val (.ref r6), .val (.ref r7), .val (.int 3), .val (.int 3), .val (.long lv), .second] [(.int 257)]))) (fun t k => XS.ifNo X151.here hx rfl (bd d14_42) rfl (by rw [if0]; exact (tlt (by decide : (0 : Int32) < (3 : Int32))).2.2.2) (XS.sipush X151.here hx rfl (bd d14_45) k)) ?_
          obtain ⟨T153, h153, k153, X153, e153, E153, A153, st153⟩ := newP X151 hx hZ (aty := .int) (Wd0 hw) e151 (g := (mkF m 48 #[.val (.ref a1), .val (.ref ca), .val (.ref da), .val (.ref b5), .val (.ref b10), .val (.int sh), .val (.ref r6), .val (.ref r7), .val (.int 3), .val (.int 3), .val (.long lv), .second] [(.int 257)])) rfl (bd d14_48) rfl (by decide) (cap := 257) (by decide) (by decide) (by show cn + 1 ≤ (10 : Nat); omega) (by show sn + 257 ≤ (2100 : Nat); omega)
          obtain ⟨b153, g153⟩ : ∃ z, z = hl.size := ⟨_, rfl⟩
          rw [← g153] at A153 st153
          have V153 : Arv Z h153 b153 k153 .int 257 (own_rg (257 : Int32).toNatClampNeg (fun x => .int (own_zero x))) (.int 0) := own_fill (Arv.new A153 (by decide))
          have gk153 : n0 ≤ b153 := Nat.le_trans Z0 (Nat.le_trans Kl.1 (Nat.le_of_eq g153.symm))
          have ok153 : h0.size ≤ b153 := Nat.le_trans Kl.1 (Nat.le_of_eq g153.symm)
          have nk153_ca : ca ≠ b153 := Nat.ne_of_lt (Nat.lt_of_lt_of_le B1.lt (Nat.le_of_eq g153.symm))
          have nk153_da : da ≠ b153 := Nat.ne_of_lt (Nat.lt_of_lt_of_le B2.lt (Nat.le_of_eq g153.symm))
          have nk153_b5 : b5 ≠ b153 := Nat.ne_of_lt (Nat.lt_of_lt_of_le B3.lt (Nat.le_of_eq g153.symm))
          have nk153_b10 : b10 ≠ b153 := Nat.ne_of_lt (Nat.lt_of_lt_of_le B4.lt (Nat.le_of_eq g153.symm))
          have nk153_a1 : a1 ≠ b153 := Nat.ne_of_lt (Nat.lt_of_lt_of_le Fdl.lt (Nat.le_of_eq g153.symm))
          refine OD.go st153 ?_
          refine OD.go (B := (T153.setTop (mkF m 57 #[.val (.ref a1), .val (.ref ca), .val (.ref da), .val (.ref b5), .val (.ref b10), .val (.int sh), .val (.ref b153), .val (.ref ca), .val (.int 3), .val (.int 3), .val (.long lv), .second] [(.ref ca)]))) (fun t k => XS.astore X153.here hx rfl (bd d14_50) rfl rfl (l' := #[.val (.ref a1), .val (.ref ca), .val (.ref da), .val (.ref b5), .val (.ref b10), .val (.int sh), .val (.ref b153), .val (.ref r7), .val (.int 3), .val (.int 3), .val (.long lv), .second]) rfl (XS.aloadN X153.here hx rfl (bd d14_52) rfl rfl (XS.astore X153.here hx rfl (bd d14_53) rfl rfl (l' := #[.val (.ref a1), .val (.ref ca), .val (.ref da), .val (.ref b5), .val (.ref b10), .val (.int sh), .val (.ref b153), .val (.ref ca), .val (.int 3), .val (.int 3), .val (.long lv), .second]) rfl (XS.aload X153.here hx rfl (bd d14_55) rfl rfl k)))) ?_
          have f154 := (B1.ext E153)
          obtain ⟨cl155, Ar155, hl155⟩ := own_len f154
          refine OD.go (B := (T153.setTop (mkF m 58 #[.val (.ref a1), .val (.ref ca), .val (.ref da), .val (.ref b5), .val (.ref b10), .val (.int sh), .val (.ref b153), .val (.ref ca), .val (.int 3), .val (.int 3), .val (.long lv), .second] [(.int 3)]))) (fun t k => X153.arraylength hx (by rw [e153]; exact Ar155.1) (State.isArrayOf_alike hZ.alike Ar155.2.1) (g := (mkF m 57 #[.val (.ref a1), .val (.ref ca), .val (.ref da), .val (.ref b5), .val (.ref b10), .val (.int sh), .val (.ref b153), .val (.ref ca), .val (.int 3), .val (.int 3), .val (.long lv), .second] [(.ref ca)])) rfl rfl (bd d14_57) _ (by rw [hl155]; exact k)) ?_
          refine OD.go (B := (T153.setTop (mkF m 74 #[.val (.ref a1), .val (.ref ca), .val (.ref da), .val (.ref b5), .val (.ref b10), .val (.int sh), .val (.ref b153), .val (.ref ca), .val (.int 3), .val (.int 0), .val (.long lv), .second] [(.int 0), (.ref ca)]))) (fun t k => XS.istore X153.here hx rfl (bd d14_58) rfl (l' := #[.val (.ref a1), .val (.ref ca), .val (.ref da), .val (.ref b5), .val (.ref b10), .val (.int sh), .val (.ref b153), .val (.ref ca), .val (.int 3), .val (.int 3), .val (.long lv), .second]) rfl (XS.iconst X153.here hx rfl (bd d14_60) (XS.istore X153.here hx rfl (bd d14_61) rfl (l' := #[.val (.ref a1), .val (.ref ca), .val (.ref da), .val (.ref b5), .val (.ref b10), .val (.int sh), .val (.ref b153), .val (.ref ca), .val (.int 3), .val (.int 0), .val (.long lv), .second]) rfl (XS.iload X153.here hx rfl (bd d14_63) rfl (XS.iload X153.here hx rfl (bd d14_65) rfl (XS.icmpNo X153.here hx rfl (bd d14_67) rfl (tlt (by decide : (0 : Int32) < (3 : Int32))).2.1 (XS.aload X153.here hx rfl (bd d14_70) rfl rfl (XS.iload X153.here hx rfl (bd d14_72) rfl k)))))))) ?_
          obtain ⟨cl156, Ar156, hi156, ha156⟩ := own_at f154 (j := (0 : Int32)) (v := (.long (f1 (0 : Int32)))) ⟨by decide, by decide⟩ (own_rg_at ⟨by decide, by decide⟩ _ _)
          refine OD.go (B := (T153.setTop (mkF m 77 #[.val (.ref a1), .val (.ref ca), .val (.ref da), .val (.ref b5), .val (.ref b10), .val (.int sh), .val (.ref b153), .val (.ref ca), .val (.int 3), .val (.int 0), .val (.long (f1 (0 : Int32))), .second] []))) (fun t k => X153.laload hx (j := (0 : Int32)) (v := (.long (f1 (0 : Int32)))) (by rw [e153]; exact Ar156.1) (State.isArrayOf_alike hZ.alike Ar156.2.1) Ar156.2.2 hi156 ha156 (g := (mkF m 74 #[.val (.ref a1), .val (.ref ca), .val (.ref da), .val (.ref b5), .val (.ref b10), .val (.int sh), .val (.ref b153), .val (.ref ca), .val (.int 3), .val (.int 0), .val (.long lv), .second] [(.int 0), (.ref ca)])) rfl rfl (bd d14_74) _ (XS.lstore X153.here hx rfl (bd d14_75) rfl (l' := #[.val (.ref a1), .val (.ref ca), .val (.ref da), .val (.ref b5), .val (.ref b10), .val (.int sh), .val (.ref b153), .val (.ref ca), .val (.int 3), .val (.int 0), .val (.long (f1 (0 : Int32))), .second]) rfl k)) ?_
          exact mid _ _ _ _ _ X153 e153 Nl ((Keep.refl _ []).ext E153) gk153 ok153 nk153_a1 nk153_ca nk153_da nk153_b5 nk153_b10 V153
        · show OD _ _ _ _ _ _ _ (Tl.setTop (mkF m 30 #[.val (.ref a1), .val (.ref ca), .val (.ref da), .val (.ref b5), .val (.ref b10), .val (.int sh), .val (.ref r6), .val (.ref r7), .val (.ref r8), .val (.int 3), .val (.long lv), .second] []))
          refine OD.go (B := (Tl.setTop (mkF m 38 #[.val (.ref a1), .val (.ref ca), .val (.ref da), .val (.ref b5), .val (.ref b10), .val (.int sh), .val (.ref r6), .val (.ref r7), .val (.ref r8), .val (.int 3), .val (.long lv), .second] [(.ref a1)]))) (fun t k => XS.iload Xl.here hx rfl (bd d14_30) rfl (XS.bipush Xl.here hx rfl (bd d14_32) (XS.icmpNo Xl.here hx rfl (bd d14_34) rfl (tlt hc).2.1 (XS.aloadN Xl.here hx rfl (bd d14_37) rfl rfl k)))) ?_
          obtain ⟨T157, X157, e157, st157⟩ := getF Xl hx hZ hown (host := "") (Or.inl (Wd39 hw)) Via.refl el Fdl (g := (mkF m 38 #[.val (.ref a1), .val (.ref ca), .val (.ref da), .val (.ref b5), .val (.ref b10), .val (.int sh), .val (.ref r6), .val (.ref r7), .val (.ref r8), .val (.int 3), .val (.long lv), .second] [(.ref a1)])) rfl rfl (bd d14_38)
          refine OD.go (B := (T157.setTop (mkF m 41 #[.val (.ref a1), .val (.ref ca), .val (.ref da), .val (.ref b5), .val (.ref b10), .val (.int sh), .val (.ref r6), .val (.ref r7), .val (.ref r8), .val (.int 3), .val (.long lv), .second] [(.ref da)]))) st157 ?_
          obtain ⟨cl158, Ar158, hl158⟩ := own_len B2
          refine OD.go (B := (T157.setTop (mkF m 42 #[.val (.ref a1), .val (.ref ca), .val (.ref da), .val (.ref b5), .val (.ref b10), .val (.int sh), .val (.ref r6), .val (.ref r7), .val (.ref r8), .val (.int 3), .val (.long lv), .second] [(.int 3)]))) (fun t k => X157.arraylength hx (by rw [e157]; exact Ar158.1) (State.isArrayOf_alike hZ.alike Ar158.2.1) (g := (mkF m 41 #[.val (.ref a1), .val (.ref ca), .val (.ref da), .val (.ref b5), .val (.ref b10), .val (.int sh), .val (.ref r6), .val (.ref r7), .val (.ref r8), .val (.int 3), .val (.long lv), .second] [(.ref da)])) rfl rfl (bd d14_41) _ (by rw [hl158]; exact k)) ?_
          refine OD.go (B := (T157.setTop (mkF m 48 #[.val (.ref a1), .val (.ref ca), .val (.ref da), .val (.ref b5), .val (.ref b10), .val (.int sh), .val (.ref r6), .val (.ref r7), .val (.ref r8), .val (.int 3), .val (.long lv), .second] [(.int 257)]))) (fun t k => XS.ifNo X157.here hx rfl (bd d14_42) rfl (by rw [if0]; exact (tlt (by decide : (0 : Int32) < (3 : Int32))).2.2.2) (XS.sipush X157.here hx rfl (bd d14_45) k)) ?_
          obtain ⟨T159, h159, k159, X159, e159, E159, A159, st159⟩ := newP X157 hx hZ (aty := .int) (Wd0 hw) e157 (g := (mkF m 48 #[.val (.ref a1), .val (.ref ca), .val (.ref da), .val (.ref b5), .val (.ref b10), .val (.int sh), .val (.ref r6), .val (.ref r7), .val (.ref r8), .val (.int 3), .val (.long lv), .second] [(.int 257)])) rfl (bd d14_48) rfl (by decide) (cap := 257) (by decide) (by decide) (by show cn + 1 ≤ (10 : Nat); omega) (by show sn + 257 ≤ (2100 : Nat); omega)
          obtain ⟨b159, g159⟩ : ∃ z, z = hl.size := ⟨_, rfl⟩
          rw [← g159] at A159 st159
          have V159 : Arv Z h159 b159 k159 .int 257 (own_rg (257 : Int32).toNatClampNeg (fun x => .int (own_zero x))) (.int 0) := own_fill (Arv.new A159 (by decide))
          have gk159 : n0 ≤ b159 := Nat.le_trans Z0 (Nat.le_trans Kl.1 (Nat.le_of_eq g159.symm))
          have ok159 : h0.size ≤ b159 := Nat.le_trans Kl.1 (Nat.le_of_eq g159.symm)
          have nk159_ca : ca ≠ b159 := Nat.ne_of_lt (Nat.lt_of_lt_of_le B1.lt (Nat.le_of_eq g159.symm))
          have nk159_da : da ≠ b159 := Nat.ne_of_lt (Nat.lt_of_lt_of_le B2.lt (Nat.le_of_eq g159.symm))
          have nk159_b5 : b5 ≠ b159 := Nat.ne_of_lt (Nat.lt_of_lt_of_le B3.lt (Nat.le_of_eq g159.symm))
          have nk159_b10 : b10 ≠ b159 := Nat.ne_of_lt (Nat.lt_of_lt_of_le B4.lt (Nat.le_of_eq g159.symm))
          have nk159_a1 : a1 ≠ b159 := Nat.ne_of_lt (Nat.lt_of_lt_of_le Fdl.lt (Nat.le_of_eq g159.symm))
          refine OD.go st159 ?_
          refine OD.go (B := (T159.setTop (mkF m 57 #[.val (.ref a1), .val (.ref ca), .val (.ref da), .val (.ref b5), .val (.ref b10), .val (.int sh), .val (.ref b159), .val (.ref ca), .val (.ref r8), .val (.int 3), .val (.long lv), .second] [(.ref ca)]))) (fun t k => XS.astore X159.here hx rfl (bd d14_50) rfl rfl (l' := #[.val (.ref a1), .val (.ref ca), .val (.ref da), .val (.ref b5), .val (.ref b10), .val (.int sh), .val (.ref b159), .val (.ref r7), .val (.ref r8), .val (.int 3), .val (.long lv), .second]) rfl (XS.aloadN X159.here hx rfl (bd d14_52) rfl rfl (XS.astore X159.here hx rfl (bd d14_53) rfl rfl (l' := #[.val (.ref a1), .val (.ref ca), .val (.ref da), .val (.ref b5), .val (.ref b10), .val (.int sh), .val (.ref b159), .val (.ref ca), .val (.ref r8), .val (.int 3), .val (.long lv), .second]) rfl (XS.aload X159.here hx rfl (bd d14_55) rfl rfl k)))) ?_
          have f160 := (B1.ext E159)
          obtain ⟨cl161, Ar161, hl161⟩ := own_len f160
          refine OD.go (B := (T159.setTop (mkF m 58 #[.val (.ref a1), .val (.ref ca), .val (.ref da), .val (.ref b5), .val (.ref b10), .val (.int sh), .val (.ref b159), .val (.ref ca), .val (.ref r8), .val (.int 3), .val (.long lv), .second] [(.int 3)]))) (fun t k => X159.arraylength hx (by rw [e159]; exact Ar161.1) (State.isArrayOf_alike hZ.alike Ar161.2.1) (g := (mkF m 57 #[.val (.ref a1), .val (.ref ca), .val (.ref da), .val (.ref b5), .val (.ref b10), .val (.int sh), .val (.ref b159), .val (.ref ca), .val (.ref r8), .val (.int 3), .val (.long lv), .second] [(.ref ca)])) rfl rfl (bd d14_57) _ (by rw [hl161]; exact k)) ?_
          refine OD.go (B := (T159.setTop (mkF m 74 #[.val (.ref a1), .val (.ref ca), .val (.ref da), .val (.ref b5), .val (.ref b10), .val (.int sh), .val (.ref b159), .val (.ref ca), .val (.int 3), .val (.int 0), .val (.long lv), .second] [(.int 0), (.ref ca)]))) (fun t k => XS.istore X159.here hx rfl (bd d14_58) rfl (l' := #[.val (.ref a1), .val (.ref ca), .val (.ref da), .val (.ref b5), .val (.ref b10), .val (.int sh), .val (.ref b159), .val (.ref ca), .val (.int 3), .val (.int 3), .val (.long lv), .second]) rfl (XS.iconst X159.here hx rfl (bd d14_60) (XS.istore X159.here hx rfl (bd d14_61) rfl (l' := #[.val (.ref a1), .val (.ref ca), .val (.ref da), .val (.ref b5), .val (.ref b10), .val (.int sh), .val (.ref b159), .val (.ref ca), .val (.int 3), .val (.int 0), .val (.long lv), .second]) rfl (XS.iload X159.here hx rfl (bd d14_63) rfl (XS.iload X159.here hx rfl (bd d14_65) rfl (XS.icmpNo X159.here hx rfl (bd d14_67) rfl (tlt (by decide : (0 : Int32) < (3 : Int32))).2.1 (XS.aload X159.here hx rfl (bd d14_70) rfl rfl (XS.iload X159.here hx rfl (bd d14_72) rfl k)))))))) ?_
          obtain ⟨cl162, Ar162, hi162, ha162⟩ := own_at f160 (j := (0 : Int32)) (v := (.long (f1 (0 : Int32)))) ⟨by decide, by decide⟩ (own_rg_at ⟨by decide, by decide⟩ _ _)
          refine OD.go (B := (T159.setTop (mkF m 77 #[.val (.ref a1), .val (.ref ca), .val (.ref da), .val (.ref b5), .val (.ref b10), .val (.int sh), .val (.ref b159), .val (.ref ca), .val (.int 3), .val (.int 0), .val (.long (f1 (0 : Int32))), .second] []))) (fun t k => X159.laload hx (j := (0 : Int32)) (v := (.long (f1 (0 : Int32)))) (by rw [e159]; exact Ar162.1) (State.isArrayOf_alike hZ.alike Ar162.2.1) Ar162.2.2 hi162 ha162 (g := (mkF m 74 #[.val (.ref a1), .val (.ref ca), .val (.ref da), .val (.ref b5), .val (.ref b10), .val (.int sh), .val (.ref b159), .val (.ref ca), .val (.int 3), .val (.int 0), .val (.long lv), .second] [(.int 0), (.ref ca)])) rfl rfl (bd d14_74) _ (XS.lstore X159.here hx rfl (bd d14_75) rfl (l' := #[.val (.ref a1), .val (.ref ca), .val (.ref da), .val (.ref b5), .val (.ref b10), .val (.int sh), .val (.ref b159), .val (.ref ca), .val (.int 3), .val (.int 0), .val (.long (f1 (0 : Int32))), .second]) rfl k)) ?_
          exact mid _ _ _ _ _ X159 e159 Nl ((Keep.refl _ []).ext E159) gk159 ok159 nk159_a1 nk159_ca nk159_da nk159_b5 nk159_b10 V159
      · skip
        have mid : ∀ (Tm : State) (hm : Heap) (Lm : List Loc) (kk : Addr) (kK : ClassId) (Xm : Stand p l e (rO 1 10 2100 40) s m #[(.ref a1)] below meth c Tm Lm (cn + 1) (sn + 257)) (em : Tm.heap = hm) (Nm : Fr n0 Lm) (Km : Keep hl hm []) (gkk : n0 ≤ kk) (okk : h0.size ≤ kk) (nkk_a1 : a1 ≠ kk) (nkk_ca : ca ≠ kk) (nkk_da : da ≠ kk) (nkk_b5 : b5 ≠ kk) (nkk_b10 : b10 ≠ kk) (Vk : Arv Z hm kk kK .int 257 (own_rg (257 : Int32).toNatClampNeg (fun x => .int (own_zero x))) (.int 0)), OD p e s below (Q_rmSO Z a1 h0 n0 ca da kc kd) (rO 1 10 2100 40).cells (rO 1 10 2100 40).slots (Tm.setTop (mkF m 77 #[.val (.ref a1), .val (.ref b5), .val (.ref b10), .val (.ref ca), .val (.ref da), .val (.int sh), .val (.ref kk), .val (.ref b5), .val (.int 3), .val (.int 0), .val (.long (f2 (0 : Int32))), .second] [])) := by
          intro Tm hm Lm kk kK Xm em Nm Km gkk okk nkk_a1 nkk_ca nkk_da nkk_b5 nkk_b10 Vk
          refine OD.go (B := (Tm.setTop (mkF m 83 #[.val (.ref a1), .val (.ref b5), .val (.ref b10), .val (.ref ca), .val (.ref da), .val (.int sh), .val (.ref kk), .val (.ref b5), .val (.int 3), .val (.int 0), .val (.long (f2 (0 : Int32))), .second] [(.int sh), (.long (f2 (0 : Int32))), (.ref kk)]))) (fun t k => XS.aload Xm.here hx rfl (bd d14_77) rfl rfl (XS.lload Xm.here hx rfl (bd d14_79) rfl (XS.iload Xm.here hx rfl (bd d14_81) rfl k))) ?_
          obtain ⟨_, _, ⟨T163, L163, k163, n163⟩, -, X163, ⟨Lc163, hQ163, l163, y163, z163⟩, st163⟩ := Jvm.LawKit.callS Xm hx (y := (⟨zZ0, "sortingByte", "(JI)I"⟩ : MethodName)) hown (mvT hZ (Wd97 hw)) (mvT hZ (Wd98 hw)) (mvT hZ (Wd4 hw)) (mvT hZ (Wd99 hw)) (by decide) (backOf (W := 1) (rmSB l Z a0 hw [] (f2 (0 : Int32)) sh hm) hZ (Wd99 hw) (Wd4 hw) (by decide) (by decide)) (g := (mkF m 83 #[.val (.ref a1), .val (.ref b5), .val (.ref b10), .val (.ref ca), .val (.ref da), .val (.int sh), .val (.ref kk), .val (.ref b5), .val (.int 3), .val (.int 0), .val (.long (f2 (0 : Int32))), .second] [(.int sh), (.long (f2 (0 : Int32))), (.ref kk)])) rfl (by rw [hml]; rfl) (argsL := [(.long (f2 (0 : Int32))), (.int sh)]) (rest := [(.ref kk)]) (lenOf pd4 rfl) rfl (by show 2 * 0 + _ ≤ _; exact Nat.le_of_eq rfl) (bd d14_83) (fun _ _ => ⟨rfl, em, (by first | (show cn + 1 + 0 ≤ (10 : Nat); omega) | (show sn + 257 + 0 ≤ (2100 : Nat); omega)), (by first | (show cn + 1 + 0 ≤ (10 : Nat); omega) | (show sn + 257 + 0 ≤ (2100 : Nat); omega))⟩)
          dsimp only [Pt.U, Pt.locs, Pt.cells, Pt.slots] at X163 l163 y163 z163 st163 hQ163
          subst l163 y163 z163
          obtain ⟨rfl, rfl, e163⟩ := hQ163
          have N163 := Fr.app Nm (Fr.nil _)
          refine OD.go st163 ?_
          refine OD.go (B := (T163.setTop (mkF m 89 #[.val (.ref a1), .val (.ref b5), .val (.ref b10), .val (.ref ca), .val (.ref da), .val (.int sh), .val (.ref kk), .val (.ref b5), .val (.int 3), .val (.int 0), .val (.long (f2 (0 : Int32))), .second] [(.int ((own_sb (f2 (0 : Int32)) sh) + (1 : Int32))), (.ref kk), (.int ((own_sb (f2 (0 : Int32)) sh) + (1 : Int32))), (.ref kk)]))) (fun t k => XS.iconst X163.here hx rfl (bd d14_86) (XS.iadd X163.here hx rfl (bd d14_87) rfl (XT.dup2 X163.here hx rfl (bd d14_88) rfl rfl rfl k))) ?_
          obtain ⟨cl164, Ar164, hi164, ha164⟩ := own_at Vk (j := ((own_sb (f2 (0 : Int32)) sh) + (1 : Int32))) (v := (.int (own_zero ((own_sb (f2 (0 : Int32)) sh) + (1 : Int32))))) (own_sbB _ _) (own_rg_at (own_sbB _ _) _ _)
          refine OD.go (B := (T163.setTop (mkF m 92 #[.val (.ref a1), .val (.ref b5), .val (.ref b10), .val (.ref ca), .val (.ref da), .val (.int sh), .val (.ref kk), .val (.ref b5), .val (.int 3), .val (.int 0), .val (.long (f2 (0 : Int32))), .second] [(.int ((own_zero ((own_sb (f2 (0 : Int32)) sh) + (1 : Int32))) + (1 : Int32))), (.int ((own_sb (f2 (0 : Int32)) sh) + (1 : Int32))), (.ref kk)]))) (fun t k => X163.iaload hx (j := ((own_sb (f2 (0 : Int32)) sh) + (1 : Int32))) (v := (.int (own_zero ((own_sb (f2 (0 : Int32)) sh) + (1 : Int32))))) (by rw [e163]; exact Ar164.1) (State.isArrayOf_alike hZ.alike Ar164.2.1) Ar164.2.2 hi164 ha164 (g := (mkF m 89 #[.val (.ref a1), .val (.ref b5), .val (.ref b10), .val (.ref ca), .val (.ref da), .val (.int sh), .val (.ref kk), .val (.ref b5), .val (.int 3), .val (.int 0), .val (.long (f2 (0 : Int32))), .second] [(.int ((own_sb (f2 (0 : Int32)) sh) + (1 : Int32))), (.ref kk), (.int ((own_sb (f2 (0 : Int32)) sh) + (1 : Int32))), (.ref kk)])) rfl rfl (bd d14_89) _ (XS.iconst X163.here hx rfl (bd d14_90) (XS.iadd X163.here hx rfl (bd d14_91) rfl k))) ?_
          obtain ⟨cl166, Ar166, q166, S166, M166, H166, G166⟩ := id Vk
          obtain ⟨T166, h166, X166, e166, W166, st166⟩ := stI X163 hx hZ e163 Ar166 (j := ((own_sb (f2 (0 : Int32)) sh) + (1 : Int32))) (inb_of S166 (own_sbB _ _)) (g := (mkF m 92 #[.val (.ref a1), .val (.ref b5), .val (.ref b10), .val (.ref ca), .val (.ref da), .val (.int sh), .val (.ref kk), .val (.ref b5), .val (.int 3), .val (.int 0), .val (.long (f2 (0 : Int32))), .second] [(.int ((own_zero ((own_sb (f2 (0 : Int32)) sh) + (1 : Int32))) + (1 : Int32))), (.int ((own_sb (f2 (0 : Int32)) sh) + (1 : Int32))), (.ref kk)])) rfl rfl (bd d14_92)
          have V166 : Arv Z h166 kk kK .int 257 (own_rg (257 : Int32).toNatClampNeg (fun x => .int ((own_k1 f2 sh) x))) (.int 0) := own_put (fun x => .int ((own_k1 f2 sh) x)) Ar166 q166 S166 M166 H166 G166 rfl W166 (own_sbB _ _) (congrArg Value.int (own_up_at _ _ _)) (fun x q => congrArg Value.int (own_up_ne _ _ q))
          have N166 := Fr.snoc X166 N163 gkk
          refine OD.go st166 ?_
          refine OD.go (B := (T166.setTop (mkF m 74 #[.val (.ref a1), .val (.ref b5), .val (.ref b10), .val (.ref ca), .val (.ref da), .val (.int sh), .val (.ref kk), .val (.ref b5), .val (.int 3), .val (.int 1), .val (.long (f2 (0 : Int32))), .second] [(.int 1), (.ref b5)]))) (fun t k => XS.iinc X166.here hx rfl (bd d14_93) rfl (l' := #[.val (.ref a1), .val (.ref b5), .val (.ref b10), .val (.ref ca), .val (.ref da), .val (.int sh), .val (.ref kk), .val (.ref b5), .val (.int 3), .val (.int 1), .val (.long (f2 (0 : Int32))), .second]) rfl (XS.goto X166.here hx rfl (pc0 := 96) (pc' := 63) rfl (bd d14_96) (by decide) (by decide) (XS.iload X166.here hx rfl (bd d14_63) rfl (XS.iload X166.here hx rfl (bd d14_65) rfl (XS.icmpNo X166.here hx rfl (bd d14_67) rfl (tlt (by decide : (1 : Int32) < (3 : Int32))).2.1 (XS.aload X166.here hx rfl (bd d14_70) rfl rfl (XS.iload X166.here hx rfl (bd d14_72) rfl k))))))) ?_
          have f167 := ((B3.keep Km nin0).other W166 nkk_b5)
          obtain ⟨cl168, Ar168, hi168, ha168⟩ := own_at f167 (j := (1 : Int32)) (v := (.long (f2 (1 : Int32)))) ⟨by decide, by decide⟩ (own_rg_at ⟨by decide, by decide⟩ _ _)
          refine OD.go (B := (T166.setTop (mkF m 83 #[.val (.ref a1), .val (.ref b5), .val (.ref b10), .val (.ref ca), .val (.ref da), .val (.int sh), .val (.ref kk), .val (.ref b5), .val (.int 3), .val (.int 1), .val (.long (f2 (1 : Int32))), .second] [(.int sh), (.long (f2 (1 : Int32))), (.ref kk)]))) (fun t k => X166.laload hx (j := (1 : Int32)) (v := (.long (f2 (1 : Int32)))) (by rw [e166]; exact Ar168.1) (State.isArrayOf_alike hZ.alike Ar168.2.1) Ar168.2.2 hi168 ha168 (g := (mkF m 74 #[.val (.ref a1), .val (.ref b5), .val (.ref b10), .val (.ref ca), .val (.ref da), .val (.int sh), .val (.ref kk), .val (.ref b5), .val (.int 3), .val (.int 1), .val (.long (f2 (0 : Int32))), .second] [(.int 1), (.ref b5)])) rfl rfl (bd d14_74) _ (XS.lstore X166.here hx rfl (bd d14_75) rfl (l' := #[.val (.ref a1), .val (.ref b5), .val (.ref b10), .val (.ref ca), .val (.ref da), .val (.int sh), .val (.ref kk), .val (.ref b5), .val (.int 3), .val (.int 1), .val (.long (f2 (1 : Int32))), .second]) rfl (XS.aload X166.here hx rfl (bd d14_77) rfl rfl (XS.lload X166.here hx rfl (bd d14_79) rfl (XS.iload X166.here hx rfl (bd d14_81) rfl k))))) ?_
          obtain ⟨_, _, ⟨T169, L169, k169, n169⟩, -, X169, ⟨Lc169, hQ169, l169, y169, z169⟩, st169⟩ := Jvm.LawKit.callS X166 hx (y := (⟨zZ0, "sortingByte", "(JI)I"⟩ : MethodName)) hown (mvT hZ (Wd97 hw)) (mvT hZ (Wd98 hw)) (mvT hZ (Wd4 hw)) (mvT hZ (Wd99 hw)) (by decide) (backOf (W := 1) (rmSB l Z a0 hw [] (f2 (1 : Int32)) sh h166) hZ (Wd99 hw) (Wd4 hw) (by decide) (by decide)) (g := (mkF m 83 #[.val (.ref a1), .val (.ref b5), .val (.ref b10), .val (.ref ca), .val (.ref da), .val (.int sh), .val (.ref kk), .val (.ref b5), .val (.int 3), .val (.int 1), .val (.long (f2 (1 : Int32))), .second] [(.int sh), (.long (f2 (1 : Int32))), (.ref kk)])) rfl (by rw [hml]; rfl) (argsL := [(.long (f2 (1 : Int32))), (.int sh)]) (rest := [(.ref kk)]) (lenOf pd4 rfl) rfl (by show 2 * 0 + _ ≤ _; exact Nat.le_of_eq rfl) (bd d14_83) (fun _ _ => ⟨rfl, e166, (by first | (show cn + 1 + 0 ≤ (10 : Nat); omega) | (show sn + 257 + 0 ≤ (2100 : Nat); omega)), (by first | (show cn + 1 + 0 ≤ (10 : Nat); omega) | (show sn + 257 + 0 ≤ (2100 : Nat); omega))⟩)
          dsimp only [Pt.U, Pt.locs, Pt.cells, Pt.slots] at X169 l169 y169 z169 st169 hQ169
          subst l169 y169 z169
          obtain ⟨rfl, rfl, e169⟩ := hQ169
          have N169 := Fr.app N166 (Fr.nil _)
          refine OD.go st169 ?_
          refine OD.go (B := (T169.setTop (mkF m 89 #[.val (.ref a1), .val (.ref b5), .val (.ref b10), .val (.ref ca), .val (.ref da), .val (.int sh), .val (.ref kk), .val (.ref b5), .val (.int 3), .val (.int 1), .val (.long (f2 (1 : Int32))), .second] [(.int ((own_sb (f2 (1 : Int32)) sh) + (1 : Int32))), (.ref kk), (.int ((own_sb (f2 (1 : Int32)) sh) + (1 : Int32))), (.ref kk)]))) (fun t k => XS.iconst X169.here hx rfl (bd d14_86) (XS.iadd X169.here hx rfl (bd d14_87) rfl (XT.dup2 X169.here hx rfl (bd d14_88) rfl rfl rfl k))) ?_
          obtain ⟨cl170, Ar170, hi170, ha170⟩ := own_at V166 (j := ((own_sb (f2 (1 : Int32)) sh) + (1 : Int32))) (v := (.int ((own_k1 f2 sh) ((own_sb (f2 (1 : Int32)) sh) + (1 : Int32))))) (own_sbB _ _) (own_rg_at (own_sbB _ _) _ _)
          refine OD.go (B := (T169.setTop (mkF m 92 #[.val (.ref a1), .val (.ref b5), .val (.ref b10), .val (.ref ca), .val (.ref da), .val (.int sh), .val (.ref kk), .val (.ref b5), .val (.int 3), .val (.int 1), .val (.long (f2 (1 : Int32))), .second] [(.int (((own_k1 f2 sh) ((own_sb (f2 (1 : Int32)) sh) + (1 : Int32))) + (1 : Int32))), (.int ((own_sb (f2 (1 : Int32)) sh) + (1 : Int32))), (.ref kk)]))) (fun t k => X169.iaload hx (j := ((own_sb (f2 (1 : Int32)) sh) + (1 : Int32))) (v := (.int ((own_k1 f2 sh) ((own_sb (f2 (1 : Int32)) sh) + (1 : Int32))))) (by rw [e169]; exact Ar170.1) (State.isArrayOf_alike hZ.alike Ar170.2.1) Ar170.2.2 hi170 ha170 (g := (mkF m 89 #[.val (.ref a1), .val (.ref b5), .val (.ref b10), .val (.ref ca), .val (.ref da), .val (.int sh), .val (.ref kk), .val (.ref b5), .val (.int 3), .val (.int 1), .val (.long (f2 (1 : Int32))), .second] [(.int ((own_sb (f2 (1 : Int32)) sh) + (1 : Int32))), (.ref kk), (.int ((own_sb (f2 (1 : Int32)) sh) + (1 : Int32))), (.ref kk)])) rfl rfl (bd d14_89) _ (XS.iconst X169.here hx rfl (bd d14_90) (XS.iadd X169.here hx rfl (bd d14_91) rfl k))) ?_
          obtain ⟨cl172, Ar172, q172, S172, M172, H172, G172⟩ := id V166
          obtain ⟨T172, h172, X172, e172, W172, st172⟩ := stI X169 hx hZ e169 Ar172 (j := ((own_sb (f2 (1 : Int32)) sh) + (1 : Int32))) (inb_of S172 (own_sbB _ _)) (g := (mkF m 92 #[.val (.ref a1), .val (.ref b5), .val (.ref b10), .val (.ref ca), .val (.ref da), .val (.int sh), .val (.ref kk), .val (.ref b5), .val (.int 3), .val (.int 1), .val (.long (f2 (1 : Int32))), .second] [(.int (((own_k1 f2 sh) ((own_sb (f2 (1 : Int32)) sh) + (1 : Int32))) + (1 : Int32))), (.int ((own_sb (f2 (1 : Int32)) sh) + (1 : Int32))), (.ref kk)])) rfl rfl (bd d14_92)
          have V172 : Arv Z h172 kk kK .int 257 (own_rg (257 : Int32).toNatClampNeg (fun x => .int ((own_k2 f2 sh) x))) (.int 0) := own_put (fun x => .int ((own_k2 f2 sh) x)) Ar172 q172 S172 M172 H172 G172 rfl W172 (own_sbB _ _) (congrArg Value.int (own_up_at _ _ _)) (fun x q => congrArg Value.int (own_up_ne _ _ q))
          have N172 := Fr.snoc X172 N169 gkk
          refine OD.go st172 ?_
          refine OD.go (B := (T172.setTop (mkF m 74 #[.val (.ref a1), .val (.ref b5), .val (.ref b10), .val (.ref ca), .val (.ref da), .val (.int sh), .val (.ref kk), .val (.ref b5), .val (.int 3), .val (.int 2), .val (.long (f2 (1 : Int32))), .second] [(.int 2), (.ref b5)]))) (fun t k => XS.iinc X172.here hx rfl (bd d14_93) rfl (l' := #[.val (.ref a1), .val (.ref b5), .val (.ref b10), .val (.ref ca), .val (.ref da), .val (.int sh), .val (.ref kk), .val (.ref b5), .val (.int 3), .val (.int 2), .val (.long (f2 (1 : Int32))), .second]) rfl (XS.goto X172.here hx rfl (pc0 := 96) (pc' := 63) rfl (bd d14_96) (by decide) (by decide) (XS.iload X172.here hx rfl (bd d14_63) rfl (XS.iload X172.here hx rfl (bd d14_65) rfl (XS.icmpNo X172.here hx rfl (bd d14_67) rfl (tlt (by decide : (2 : Int32) < (3 : Int32))).2.1 (XS.aload X172.here hx rfl (bd d14_70) rfl rfl (XS.iload X172.here hx rfl (bd d14_72) rfl k))))))) ?_
          have f173 := (f167.other W172 nkk_b5)
          obtain ⟨cl174, Ar174, hi174, ha174⟩ := own_at f173 (j := (2 : Int32)) (v := (.long (f2 (2 : Int32)))) ⟨by decide, by decide⟩ (own_rg_at ⟨by decide, by decide⟩ _ _)
          refine OD.go (B := (T172.setTop (mkF m 83 #[.val (.ref a1), .val (.ref b5), .val (.ref b10), .val (.ref ca), .val (.ref da), .val (.int sh), .val (.ref kk), .val (.ref b5), .val (.int 3), .val (.int 2), .val (.long (f2 (2 : Int32))), .second] [(.int sh), (.long (f2 (2 : Int32))), (.ref kk)]))) (fun t k => X172.laload hx (j := (2 : Int32)) (v := (.long (f2 (2 : Int32)))) (by rw [e172]; exact Ar174.1) (State.isArrayOf_alike hZ.alike Ar174.2.1) Ar174.2.2 hi174 ha174 (g := (mkF m 74 #[.val (.ref a1), .val (.ref b5), .val (.ref b10), .val (.ref ca), .val (.ref da), .val (.int sh), .val (.ref kk), .val (.ref b5), .val (.int 3), .val (.int 2), .val (.long (f2 (1 : Int32))), .second] [(.int 2), (.ref b5)])) rfl rfl (bd d14_74) _ (XS.lstore X172.here hx rfl (bd d14_75) rfl (l' := #[.val (.ref a1), .val (.ref b5), .val (.ref b10), .val (.ref ca), .val (.ref da), .val (.int sh), .val (.ref kk), .val (.ref b5), .val (.int 3), .val (.int 2), .val (.long (f2 (2 : Int32))), .second]) rfl (XS.aload X172.here hx rfl (bd d14_77) rfl rfl (XS.lload X172.here hx rfl (bd d14_79) rfl (XS.iload X172.here hx rfl (bd d14_81) rfl k))))) ?_
          obtain ⟨_, _, ⟨T175, L175, k175, n175⟩, -, X175, ⟨Lc175, hQ175, l175, y175, z175⟩, st175⟩ := Jvm.LawKit.callS X172 hx (y := (⟨zZ0, "sortingByte", "(JI)I"⟩ : MethodName)) hown (mvT hZ (Wd97 hw)) (mvT hZ (Wd98 hw)) (mvT hZ (Wd4 hw)) (mvT hZ (Wd99 hw)) (by decide) (backOf (W := 1) (rmSB l Z a0 hw [] (f2 (2 : Int32)) sh h172) hZ (Wd99 hw) (Wd4 hw) (by decide) (by decide)) (g := (mkF m 83 #[.val (.ref a1), .val (.ref b5), .val (.ref b10), .val (.ref ca), .val (.ref da), .val (.int sh), .val (.ref kk), .val (.ref b5), .val (.int 3), .val (.int 2), .val (.long (f2 (2 : Int32))), .second] [(.int sh), (.long (f2 (2 : Int32))), (.ref kk)])) rfl (by rw [hml]; rfl) (argsL := [(.long (f2 (2 : Int32))), (.int sh)]) (rest := [(.ref kk)]) (lenOf pd4 rfl) rfl (by show 2 * 0 + _ ≤ _; exact Nat.le_of_eq rfl) (bd d14_83) (fun _ _ => ⟨rfl, e172, (by first | (show cn + 1 + 0 ≤ (10 : Nat); omega) | (show sn + 257 + 0 ≤ (2100 : Nat); omega)), (by first | (show cn + 1 + 0 ≤ (10 : Nat); omega) | (show sn + 257 + 0 ≤ (2100 : Nat); omega))⟩)
          dsimp only [Pt.U, Pt.locs, Pt.cells, Pt.slots] at X175 l175 y175 z175 st175 hQ175
          subst l175 y175 z175
          obtain ⟨rfl, rfl, e175⟩ := hQ175
          have N175 := Fr.app N172 (Fr.nil _)
          refine OD.go st175 ?_
          refine OD.go (B := (T175.setTop (mkF m 89 #[.val (.ref a1), .val (.ref b5), .val (.ref b10), .val (.ref ca), .val (.ref da), .val (.int sh), .val (.ref kk), .val (.ref b5), .val (.int 3), .val (.int 2), .val (.long (f2 (2 : Int32))), .second] [(.int ((own_sb (f2 (2 : Int32)) sh) + (1 : Int32))), (.ref kk), (.int ((own_sb (f2 (2 : Int32)) sh) + (1 : Int32))), (.ref kk)]))) (fun t k => XS.iconst X175.here hx rfl (bd d14_86) (XS.iadd X175.here hx rfl (bd d14_87) rfl (XT.dup2 X175.here hx rfl (bd d14_88) rfl rfl rfl k))) ?_
          obtain ⟨cl176, Ar176, hi176, ha176⟩ := own_at V172 (j := ((own_sb (f2 (2 : Int32)) sh) + (1 : Int32))) (v := (.int ((own_k2 f2 sh) ((own_sb (f2 (2 : Int32)) sh) + (1 : Int32))))) (own_sbB _ _) (own_rg_at (own_sbB _ _) _ _)
          refine OD.go (B := (T175.setTop (mkF m 92 #[.val (.ref a1), .val (.ref b5), .val (.ref b10), .val (.ref ca), .val (.ref da), .val (.int sh), .val (.ref kk), .val (.ref b5), .val (.int 3), .val (.int 2), .val (.long (f2 (2 : Int32))), .second] [(.int (((own_k2 f2 sh) ((own_sb (f2 (2 : Int32)) sh) + (1 : Int32))) + (1 : Int32))), (.int ((own_sb (f2 (2 : Int32)) sh) + (1 : Int32))), (.ref kk)]))) (fun t k => X175.iaload hx (j := ((own_sb (f2 (2 : Int32)) sh) + (1 : Int32))) (v := (.int ((own_k2 f2 sh) ((own_sb (f2 (2 : Int32)) sh) + (1 : Int32))))) (by rw [e175]; exact Ar176.1) (State.isArrayOf_alike hZ.alike Ar176.2.1) Ar176.2.2 hi176 ha176 (g := (mkF m 89 #[.val (.ref a1), .val (.ref b5), .val (.ref b10), .val (.ref ca), .val (.ref da), .val (.int sh), .val (.ref kk), .val (.ref b5), .val (.int 3), .val (.int 2), .val (.long (f2 (2 : Int32))), .second] [(.int ((own_sb (f2 (2 : Int32)) sh) + (1 : Int32))), (.ref kk), (.int ((own_sb (f2 (2 : Int32)) sh) + (1 : Int32))), (.ref kk)])) rfl rfl (bd d14_89) _ (XS.iconst X175.here hx rfl (bd d14_90) (XS.iadd X175.here hx rfl (bd d14_91) rfl k))) ?_
          obtain ⟨cl178, Ar178, q178, S178, M178, H178, G178⟩ := id V172
          obtain ⟨T178, h178, X178, e178, W178, st178⟩ := stI X175 hx hZ e175 Ar178 (j := ((own_sb (f2 (2 : Int32)) sh) + (1 : Int32))) (inb_of S178 (own_sbB _ _)) (g := (mkF m 92 #[.val (.ref a1), .val (.ref b5), .val (.ref b10), .val (.ref ca), .val (.ref da), .val (.int sh), .val (.ref kk), .val (.ref b5), .val (.int 3), .val (.int 2), .val (.long (f2 (2 : Int32))), .second] [(.int (((own_k2 f2 sh) ((own_sb (f2 (2 : Int32)) sh) + (1 : Int32))) + (1 : Int32))), (.int ((own_sb (f2 (2 : Int32)) sh) + (1 : Int32))), (.ref kk)])) rfl rfl (bd d14_92)
          have V178 : Arv Z h178 kk kK .int 257 (own_rg (257 : Int32).toNatClampNeg (fun x => .int ((own_k3 f2 sh) x))) (.int 0) := own_put (fun x => .int ((own_k3 f2 sh) x)) Ar178 q178 S178 M178 H178 G178 rfl W178 (own_sbB _ _) (congrArg Value.int (own_up_at _ _ _)) (fun x q => congrArg Value.int (own_up_ne _ _ q))
          have N178 := Fr.snoc X178 N175 gkk
          refine OD.go st178 ?_
          refine OD.go (B := (T178.setTop (mkF m 103 #[.val (.ref a1), .val (.ref b5), .val (.ref b10), .val (.ref ca), .val (.ref da), .val (.int sh), .val (.ref kk), .val (.ref b5), .val (.int 3), .val (.int 3), .val (.long (f2 (2 : Int32))), .second] [(.int 0), (.ref b5), (.ref kk)]))) (fun t k => XS.iinc X178.here hx rfl (bd d14_93) rfl (l' := #[.val (.ref a1), .val (.ref b5), .val (.ref b10), .val (.ref ca), .val (.ref da), .val (.int sh), .val (.ref kk), .val (.ref b5), .val (.int 3), .val (.int 3), .val (.long (f2 (2 : Int32))), .second]) rfl (XS.goto X178.here hx rfl (pc0 := 96) (pc' := 63) rfl (bd d14_96) (by decide) (by decide) (XS.iload X178.here hx rfl (bd d14_63) rfl (XS.iload X178.here hx rfl (bd d14_65) rfl (XS.icmpYes X178.here hx rfl (pc0 := 67) (pc' := 99) rfl (bd d14_67) rfl (flt (by decide : ¬ (3 : Int32) < (3 : Int32))).2.1 (by decide) (by decide) (XS.aload X178.here hx rfl (bd d14_99) rfl rfl (XS.aloadN X178.here hx rfl (bd d14_101) rfl rfl (XS.iconst X178.here hx rfl (bd d14_102) k)))))))) ?_
          have f179 := (f173.other W178 nkk_b5)
          obtain ⟨cl180, Ar180, hi180, ha180⟩ := own_at f179 (j := (0 : Int32)) (v := (.long (f2 (0 : Int32)))) ⟨by decide, by decide⟩ (own_rg_at ⟨by decide, by decide⟩ _ _)
          refine OD.go (B := (T178.setTop (mkF m 106 #[.val (.ref a1), .val (.ref b5), .val (.ref b10), .val (.ref ca), .val (.ref da), .val (.int sh), .val (.ref kk), .val (.ref b5), .val (.int 3), .val (.int 3), .val (.long (f2 (2 : Int32))), .second] [(.int sh), (.long (f2 (0 : Int32))), (.ref kk)]))) (fun t k => X178.laload hx (j := (0 : Int32)) (v := (.long (f2 (0 : Int32)))) (by rw [e178]; exact Ar180.1) (State.isArrayOf_alike hZ.alike Ar180.2.1) Ar180.2.2 hi180 ha180 (g := (mkF m 103 #[.val (.ref a1), .val (.ref b5), .val (.ref b10), .val (.ref ca), .val (.ref da), .val (.int sh), .val (.ref kk), .val (.ref b5), .val (.int 3), .val (.int 3), .val (.long (f2 (2 : Int32))), .second] [(.int 0), (.ref b5), (.ref kk)])) rfl rfl (bd d14_103) _ (XS.iload X178.here hx rfl (bd d14_104) rfl k)) ?_
          obtain ⟨_, _, ⟨T181, L181, k181, n181⟩, -, X181, ⟨Lc181, hQ181, l181, y181, z181⟩, st181⟩ := Jvm.LawKit.callS X178 hx (y := (⟨zZ0, "sortingByte", "(JI)I"⟩ : MethodName)) hown (mvT hZ (Wd97 hw)) (mvT hZ (Wd98 hw)) (mvT hZ (Wd4 hw)) (mvT hZ (Wd99 hw)) (by decide) (backOf (W := 1) (rmSB l Z a0 hw [] (f2 (0 : Int32)) sh h178) hZ (Wd99 hw) (Wd4 hw) (by decide) (by decide)) (g := (mkF m 106 #[.val (.ref a1), .val (.ref b5), .val (.ref b10), .val (.ref ca), .val (.ref da), .val (.int sh), .val (.ref kk), .val (.ref b5), .val (.int 3), .val (.int 3), .val (.long (f2 (2 : Int32))), .second] [(.int sh), (.long (f2 (0 : Int32))), (.ref kk)])) rfl (by rw [hml]; rfl) (argsL := [(.long (f2 (0 : Int32))), (.int sh)]) (rest := [(.ref kk)]) (lenOf pd4 rfl) rfl (by show 2 * 0 + _ ≤ _; exact Nat.le_of_eq rfl) (bd d14_106) (fun _ _ => ⟨rfl, e178, (by first | (show cn + 1 + 0 ≤ (10 : Nat); omega) | (show sn + 257 + 0 ≤ (2100 : Nat); omega)), (by first | (show cn + 1 + 0 ≤ (10 : Nat); omega) | (show sn + 257 + 0 ≤ (2100 : Nat); omega))⟩)
          dsimp only [Pt.U, Pt.locs, Pt.cells, Pt.slots] at X181 l181 y181 z181 st181 hQ181
          subst l181 y181 z181
          obtain ⟨rfl, rfl, e181⟩ := hQ181
          have N181 := Fr.app N178 (Fr.nil _)
          refine OD.go st181 ?_
          refine OD.go (B := (T181.setTop (mkF m 111 #[.val (.ref a1), .val (.ref b5), .val (.ref b10), .val (.ref ca), .val (.ref da), .val (.int sh), .val (.ref kk), .val (.ref b5), .val (.int 3), .val (.int 3), .val (.long (f2 (2 : Int32))), .second] [(.int ((own_sb (f2 (0 : Int32)) sh) + (1 : Int32))), (.ref kk)]))) (fun t k => XS.iconst X181.here hx rfl (bd d14_109) (XS.iadd X181.here hx rfl (bd d14_110) rfl k)) ?_
          obtain ⟨cl182, Ar182, hi182, ha182⟩ := own_at V178 (j := ((own_sb (f2 (0 : Int32)) sh) + (1 : Int32))) (v := (.int ((own_k3 f2 sh) ((own_sb (f2 (0 : Int32)) sh) + (1 : Int32))))) (own_sbB _ _) (own_rg_at (own_sbB _ _) _ _)
          refine OD.go (B := (T181.setTop (mkF m 113 #[.val (.ref a1), .val (.ref b5), .val (.ref b10), .val (.ref ca), .val (.ref da), .val (.int sh), .val (.ref kk), .val (.ref b5), .val (.int 3), .val (.int 3), .val (.long (f2 (2 : Int32))), .second] [(.ref a1), (.int ((own_k3 f2 sh) ((own_sb (f2 (0 : Int32)) sh) + (1 : Int32))))]))) (fun t k => X181.iaload hx (j := ((own_sb (f2 (0 : Int32)) sh) + (1 : Int32))) (v := (.int ((own_k3 f2 sh) ((own_sb (f2 (0 : Int32)) sh) + (1 : Int32))))) (by rw [e181]; exact Ar182.1) (State.isArrayOf_alike hZ.alike Ar182.2.1) Ar182.2.2 hi182 ha182 (g := (mkF m 111 #[.val (.ref a1), .val (.ref b5), .val (.ref b10), .val (.ref ca), .val (.ref da), .val (.int sh), .val (.ref kk), .val (.ref b5), .val (.int 3), .val (.int 3), .val (.long (f2 (2 : Int32))), .second] [(.int ((own_sb (f2 (0 : Int32)) sh) + (1 : Int32))), (.ref kk)])) rfl rfl (bd d14_111) _ (XS.aloadN X181.here hx rfl (bd d14_112) rfl rfl k)) ?_
          have f183 := ((((Fdl.keep Km nin0).other W166 (Or.inl nkk_a1)).other W172 (Or.inl nkk_a1)).other W178 (Or.inl nkk_a1))
          obtain ⟨T184, X184, e184, st184⟩ := getF X181 hx hZ hown (host := "") (Or.inl (Wd39 hw)) Via.refl e181 f183 (g := (mkF m 113 #[.val (.ref a1), .val (.ref b5), .val (.ref b10), .val (.ref ca), .val (.ref da), .val (.int sh), .val (.ref kk), .val (.ref b5), .val (.int 3), .val (.int 3), .val (.long (f2 (2 : Int32))), .second] [(.ref a1), (.int ((own_k3 f2 sh) ((own_sb (f2 (0 : Int32)) sh) + (1 : Int32))))])) rfl rfl (bd d14_113)
          refine OD.go (B := (T184.setTop (mkF m 116 #[.val (.ref a1), .val (.ref b5), .val (.ref b10), .val (.ref ca), .val (.ref da), .val (.int sh), .val (.ref kk), .val (.ref b5), .val (.int 3), .val (.int 3), .val (.long (f2 (2 : Int32))), .second] [(.ref da), (.int ((own_k3 f2 sh) ((own_sb (f2 (0 : Int32)) sh) + (1 : Int32))))]))) st184 ?_
          have f185 := ((((B2.keep Km nin0).other W166 nkk_da).other W172 nkk_da).other W178 nkk_da)
          obtain ⟨cl186, Ar186, hl186⟩ := own_len f185
          refine OD.go (B := (T184.setTop (mkF m 117 #[.val (.ref a1), .val (.ref b5), .val (.ref b10), .val (.ref ca), .val (.ref da), .val (.int sh), .val (.ref kk), .val (.ref b5), .val (.int 3), .val (.int 3), .val (.long (f2 (2 : Int32))), .second] [(.int 3), (.int ((own_k3 f2 sh) ((own_sb (f2 (0 : Int32)) sh) + (1 : Int32))))]))) (fun t k => X184.arraylength hx (by rw [e184]; exact Ar186.1) (State.isArrayOf_alike hZ.alike Ar186.2.1) (g := (mkF m 116 #[.val (.ref a1), .val (.ref b5), .val (.ref b10), .val (.ref ca), .val (.ref da), .val (.int sh), .val (.ref kk), .val (.ref b5), .val (.int 3), .val (.int 3), .val (.long (f2 (2 : Int32))), .second] [(.ref da), (.int ((own_k3 f2 sh) ((own_sb (f2 (0 : Int32)) sh) + (1 : Int32))))])) rfl rfl (bd d14_116) _ (by rw [hl186]; exact k)) ?_
          by_cases c117_187 : ((own_k3 f2 sh) ((own_sb (f2 (0 : Int32)) sh) + (1 : Int32))) = (3 : Int32)
          · refine OD.go (B := (T184.setTop (mkF m 30 #[.val (.ref a1), .val (.ref b5), .val (.ref b10), .val (.ref ca), .val (.ref da), .val (.int (sh + (8 : Int32))), .val (.ref kk), .val (.ref b5), .val (.int 3), .val (.int 3), .val (.long (f2 (2 : Int32))), .second] []))) (fun t k => XS.icmpNo X184.here hx rfl (bd d14_117) rfl (teq c117_187).2 (XS.goto X184.here hx rfl (pc0 := 120) (pc' := 228) rfl (bd d14_120) (by decide) (by decide) (XS.iinc X184.here hx rfl (bd d14_228) rfl (l' := #[.val (.ref a1), .val (.ref b5), .val (.ref b10), .val (.ref ca), .val (.ref da), .val (.int (sh + (8 : Int32))), .val (.ref kk), .val (.ref b5), .val (.int 3), .val (.int 3), .val (.long (f2 (2 : Int32))), .second]) rfl (XS.goto X184.here hx rfl (pc0 := 231) (pc' := 30) rfl (bd d14_231) (by decide) (by decide) k)))) ?_
            exact ih _ _ _ _ _ _ _ _ _ _ _ _ _ _ _ _ _ _ _ _ X184 (by omega) (by omega) e184 N181 ((((Kl.trans Km all0).wr W166 (Or.inr okk)).wr W172 (Or.inr okk)).wr W178 (Or.inr okk)) ((((B1.keep Km nin0).other W166 nkk_ca).other W172 nkk_ca).other W178 nkk_ca) f185 f179 ((((B4.keep Km nin0).other W166 nkk_b10).other W172 nkk_b10).other W178 nkk_b10) (Or.inr ⟨rfl, rfl, rfl, rfl⟩) (Or.inr (Or.inl ⟨_, _, _, rfl, rfl, rfl, rfl, rfl, rfl⟩)) (own_sh8 hsh)
          · refine OD.go (B := (T184.setTop (mkF m 126 #[.val (.ref a1), .val (.ref b5), .val (.ref b10), .val (.ref ca), .val (.ref da), .val (.int sh), .val (.ref kk), .val (.int 0), .val (.int 3), .val (.int 3), .val (.long (f2 (2 : Int32))), .second] []))) (fun t k => XS.icmpYes X184.here hx rfl (pc0 := 117) (pc' := 123) rfl (bd d14_117) rfl (feq c117_187).2 (by decide) (by decide) (XS.iconst X184.here hx rfl (bd d14_123) (XS.istore X184.here hx rfl (bd d14_124) rfl (l' := #[.val (.ref a1), .val (.ref b5), .val (.ref b10), .val (.ref ca), .val (.ref da), .val (.int sh), .val (.ref kk), .val (.int 0), .val (.int 3), .val (.int 3), .val (.long (f2 (2 : Int32))), .second]) rfl k))) ?_
            have pre : ∀ (fu : Nat) (iv : Int32) (G : Int32 → Int32) (Tp : State) (hp : Heap) (Lp : List Loc), Stand p l e (rO 1 10 2100 40) s m #[(.ref a1)] below meth c Tp Lp (cn + 1) (sn + 257) → Tp.heap = hp → Fr n0 Lp → Keep h178 hp [kk] → Arv Z hp kk kK .int 257 (own_rg (257 : Int32).toNatClampNeg (fun x => .int (G x))) (.int 0) → (0 ≤ iv.toInt ∧ iv.toInt + fu = 256) → own_pl fu iv G = own_PF f2 sh → OD p e s below (Q_rmSO Z a1 h0 n0 ca da kc kd) (rO 1 10 2100 40).cells (rO 1 10 2100 40).slots (Tp.setTop (mkF m 126 #[.val (.ref a1), .val (.ref b5), .val (.ref b10), .val (.ref ca), .val (.ref da), .val (.int sh), .val (.ref kk), .val (.int iv), .val (.int 3), .val (.int 3), .val (.long (f2 (2 : Int32))), .second] [])) := by
              intro fu
              induction fu with
              | zero =>
                intro iv G Tp hp Lp Xp ep Np Kp Vp hiv hG
                have hc2 := own_iv0 hiv
                have Vp : Arv Z hp kk kK .int 257 (own_rg (257 : Int32).toNatClampNeg (fun x => .int ((own_PF f2 sh) x))) (.int 0) := (show G = own_PF f2 sh from hG) ▸ Vp
                refine OD.go (B := (Tp.setTop (mkF m 161 #[.val (.ref a1), .val (.ref b5), .val (.ref b10), .val (.ref ca), .val (.ref da), .val (.int sh), .val (.ref kk), .val (.int 0), .val (.int 3), .val (.int 3), .val (.long (f2 (2 : Int32))), .second] [(.ref a1), (.int 0)]))) (fun t k => XS.iload Xp.here hx rfl (bd d14_126) rfl (XS.sipush Xp.here hx rfl (bd d14_128) (XS.icmpYes Xp.here hx rfl (pc0 := 131) (pc' := 155) rfl (bd d14_131) rfl (flt hc2).2.1 (by decide) (by decide) (XS.iconst Xp.here hx rfl (bd d14_155) (XS.istore Xp.here hx rfl (bd d14_156) rfl (l' := #[.val (.ref a1), .val (.ref b5), .val (.ref b10), .val (.ref ca), .val (.ref da), .val (.int sh), .val (.ref kk), .val (.int 0), .val (.int 3), .val (.int 3), .val (.long (f2 (2 : Int32))), .second]) rfl (XS.iload Xp.here hx rfl (bd d14_158) rfl (XS.aloadN Xp.here hx rfl (bd d14_160) rfl rfl k))))))) ?_
                have f188 := (f183.keep Kp (ninS nkk_a1 nin0))
                obtain ⟨T189, X189, e189, st189⟩ := getF Xp hx hZ hown (host := "") (Or.inl (Wd39 hw)) Via.refl ep f188 (g := (mkF m 161 #[.val (.ref a1), .val (.ref b5), .val (.ref b10), .val (.ref ca), .val (.ref da), .val (.int sh), .val (.ref kk), .val (.int 0), .val (.int 3), .val (.int 3), .val (.long (f2 (2 : Int32))), .second] [(.ref a1), (.int 0)])) rfl rfl (bd d14_161)
                refine OD.go (B := (T189.setTop (mkF m 164 #[.val (.ref a1), .val (.ref b5), .val (.ref b10), .val (.ref ca), .val (.ref da), .val (.int sh), .val (.ref kk), .val (.int 0), .val (.int 3), .val (.int 3), .val (.long (f2 (2 : Int32))), .second] [(.ref da), (.int 0)]))) st189 ?_
                have f190 := (f185.keep Kp (ninS nkk_da nin0))
                obtain ⟨cl191, Ar191, hl191⟩ := own_len f190
                refine OD.go (B := (T189.setTop (mkF m 165 #[.val (.ref a1), .val (.ref b5), .val (.ref b10), .val (.ref ca), .val (.ref da), .val (.int sh), .val (.ref kk), .val (.int 0), .val (.int 3), .val (.int 3), .val (.long (f2 (2 : Int32))), .second] [(.int 3), (.int 0)]))) (fun t k => X189.arraylength hx (by rw [e189]; exact Ar191.1) (State.isArrayOf_alike hZ.alike Ar191.2.1) (g := (mkF m 164 #[.val (.ref a1), .val (.ref b5), .val (.ref b10), .val (.ref ca), .val (.ref da), .val (.int sh), .val (.ref kk), .val (.int 0), .val (.int 3), .val (.int 3), .val (.long (f2 (2 : Int32))), .second] [(.ref da), (.int 0)])) rfl rfl (bd d14_164) _ (by rw [hl191]; exact k)) ?_
                refine OD.go (B := (T189.setTop (mkF m 173 #[.val (.ref a1), .val (.ref b5), .val (.ref b10), .val (.ref ca), .val (.ref da), .val (.int sh), .val (.ref kk), .val (.int 0), .val (.int 3), .val (.int 3), .val (.long (f2 (2 : Int32))), .second] [(.int 0), (.ref b5), (.ref kk)]))) (fun t k => XS.icmpNo X189.here hx rfl (bd d14_165) rfl (tlt (by decide : (0 : Int32) < (3 : Int32))).2.1 (XS.aload X189.here hx rfl (bd d14_168) rfl rfl (XS.aloadN X189.here hx rfl (bd d14_170) rfl rfl (XS.iload X189.here hx rfl (bd d14_171) rfl k)))) ?_
                have f192 := (f179.keep Kp (ninS nkk_b5 nin0))
                obtain ⟨cl193, Ar193, hi193, ha193⟩ := own_at f192 (j := (0 : Int32)) (v := (.long (f2 (0 : Int32)))) ⟨by decide, by decide⟩ (own_rg_at ⟨by decide, by decide⟩ _ _)
                refine OD.go (B := (T189.setTop (mkF m 176 #[.val (.ref a1), .val (.ref b5), .val (.ref b10), .val (.ref ca), .val (.ref da), .val (.int sh), .val (.ref kk), .val (.int 0), .val (.int 3), .val (.int 3), .val (.long (f2 (2 : Int32))), .second] [(.int sh), (.long (f2 (0 : Int32))), (.ref kk)]))) (fun t k => X189.laload hx (j := (0 : Int32)) (v := (.long (f2 (0 : Int32)))) (by rw [e189]; exact Ar193.1) (State.isArrayOf_alike hZ.alike Ar193.2.1) Ar193.2.2 hi193 ha193 (g := (mkF m 173 #[.val (.ref a1), .val (.ref b5), .val (.ref b10), .val (.ref ca), .val (.ref da), .val (.int sh), .val (.ref kk), .val (.int 0), .val (.int 3), .val (.int 3), .val (.long (f2 (2 : Int32))), .second] [(.int 0), (.ref b5), (.ref kk)])) rfl rfl (bd d14_173) _ (XS.iload X189.here hx rfl (bd d14_174) rfl k)) ?_
                obtain ⟨_, _, ⟨T194, L194, k194, n194⟩, -, X194, ⟨Lc194, hQ194, l194, y194, z194⟩, st194⟩ := Jvm.LawKit.callS X189 hx (y := (⟨zZ0, "sortingByte", "(JI)I"⟩ : MethodName)) hown (mvT hZ (Wd97 hw)) (mvT hZ (Wd98 hw)) (mvT hZ (Wd4 hw)) (mvT hZ (Wd99 hw)) (by decide) (backOf (W := 1) (rmSB l Z a0 hw [] (f2 (0 : Int32)) sh hp) hZ (Wd99 hw) (Wd4 hw) (by decide) (by decide)) (g := (mkF m 176 #[.val (.ref a1), .val (.ref b5), .val (.ref b10), .val (.ref ca), .val (.ref da), .val (.int sh), .val (.ref kk), .val (.int 0), .val (.int 3), .val (.int 3), .val (.long (f2 (2 : Int32))), .second] [(.int sh), (.long (f2 (0 : Int32))), (.ref kk)])) rfl (by rw [hml]; rfl) (argsL := [(.long (f2 (0 : Int32))), (.int sh)]) (rest := [(.ref kk)]) (lenOf pd4 rfl) rfl (by show 2 * 0 + _ ≤ _; exact Nat.le_of_eq rfl) (bd d14_176) (fun _ _ => ⟨rfl, e189, (by first | (show cn + 1 + 0 ≤ (10 : Nat); omega) | (show sn + 257 + 0 ≤ (2100 : Nat); omega)), (by first | (show cn + 1 + 0 ≤ (10 : Nat); omega) | (show sn + 257 + 0 ≤ (2100 : Nat); omega))⟩)
                dsimp only [Pt.U, Pt.locs, Pt.cells, Pt.slots] at X194 l194 y194 z194 st194 hQ194
                subst l194 y194 z194
                obtain ⟨rfl, rfl, e194⟩ := hQ194
                have N194 := Fr.app Np (Fr.nil _)
                refine OD.go st194 ?_
                refine OD.go (B := (T194.setTop (mkF m 180 #[.val (.ref a1), .val (.ref b5), .val (.ref b10), .val (.ref ca), .val (.ref da), .val (.int sh), .val (.ref kk), .val (.int 0), .val (.int 3), .val (.int 3), .val (.long (f2 (2 : Int32))), .second] [(.int (own_sb (f2 (0 : Int32)) sh)), (.ref kk), (.int (own_sb (f2 (0 : Int32)) sh)), (.ref kk)]))) (fun t k => XT.dup2 X194.here hx rfl (bd d14_179) rfl rfl rfl k) ?_
                obtain ⟨cl195, Ar195, hi195, ha195⟩ := own_at Vp (j := (own_sb (f2 (0 : Int32)) sh)) (v := (.int ((own_PF f2 sh) (own_sb (f2 (0 : Int32)) sh)))) (own_sbC _ _) (own_rg_at (own_sbC _ _) _ _)
                refine OD.go (B := (T194.setTop (mkF m 184 #[.val (.ref a1), .val (.ref b5), .val (.ref b10), .val (.ref ca), .val (.ref da), .val (.int sh), .val (.ref kk), .val (.int 0), .val (.int 3), .val (.int 3), .val (.long (f2 (2 : Int32))), .second] [(.int (((own_PF f2 sh) (own_sb (f2 (0 : Int32)) sh)) + (1 : Int32))), (.int (own_sb (f2 (0 : Int32)) sh)), (.ref kk), (.int ((own_PF f2 sh) (own_sb (f2 (0 : Int32)) sh)))]))) (fun t k => X194.iaload hx (j := (own_sb (f2 (0 : Int32)) sh)) (v := (.int ((own_PF f2 sh) (own_sb (f2 (0 : Int32)) sh)))) (by rw [e194]; exact Ar195.1) (State.isArrayOf_alike hZ.alike Ar195.2.1) Ar195.2.2 hi195 ha195 (g := (mkF m 180 #[.val (.ref a1), .val (.ref b5), .val (.ref b10), .val (.ref ca), .val (.ref da), .val (.int sh), .val (.ref kk), .val (.int 0), .val (.int 3), .val (.int 3), .val (.long (f2 (2 : Int32))), .second] [(.int (own_sb (f2 (0 : Int32)) sh)), (.ref kk), (.int (own_sb (f2 (0 : Int32)) sh)), (.ref kk)])) rfl rfl (bd d14_180) _ (own_dupX2 X194.here hx rfl (bd d14_181) rfl rfl rfl rfl (XS.iconst X194.here hx rfl (bd d14_182) (XS.iadd X194.here hx rfl (bd d14_183) rfl k)))) ?_
                obtain ⟨cl197, Ar197, q197, S197, M197, H197, G197⟩ := id Vp
                obtain ⟨T197, h197, X197, e197, W197, st197⟩ := stI X194 hx hZ e194 Ar197 (j := (own_sb (f2 (0 : Int32)) sh)) (inb_of S197 (own_sbC _ _)) (g := (mkF m 184 #[.val (.ref a1), .val (.ref b5), .val (.ref b10), .val (.ref ca), .val (.ref da), .val (.int sh), .val (.ref kk), .val (.int 0), .val (.int 3), .val (.int 3), .val (.long (f2 (2 : Int32))), .second] [(.int (((own_PF f2 sh) (own_sb (f2 (0 : Int32)) sh)) + (1 : Int32))), (.int (own_sb (f2 (0 : Int32)) sh)), (.ref kk), (.int ((own_PF f2 sh) (own_sb (f2 (0 : Int32)) sh)))])) rfl rfl (bd d14_184)
                have V197 : Arv Z h197 kk kK .int 257 (own_rg (257 : Int32).toNatClampNeg (fun x => .int ((own_s1 f2 sh) x))) (.int 0) := own_put (fun x => .int ((own_s1 f2 sh) x)) Ar197 q197 S197 M197 H197 G197 rfl W197 (own_sbC _ _) (congrArg Value.int (own_up_at _ _ _)) (fun x q => congrArg Value.int (own_up_ne _ _ q))
                have N197 := Fr.snoc X197 N194 gkk
                refine OD.go st197 ?_
                refine OD.go (B := (T197.setTop (mkF m 193 #[.val (.ref a1), .val (.ref b5), .val (.ref b10), .val (.ref ca), .val (.ref da), .val (.int sh), .val (.ref kk), .val (.int 0), .val (.int ((own_PF f2 sh) (own_sb (f2 (0 : Int32)) sh))), .val (.int 3), .val (.long (f2 (2 : Int32))), .second] [(.int 0), (.ref b5), (.int ((own_PF f2 sh) (own_sb (f2 (0 : Int32)) sh))), (.ref ca)]))) (fun t k => XS.istore X197.here hx rfl (bd d14_185) rfl (l' := #[.val (.ref a1), .val (.ref b5), .val (.ref b10), .val (.ref ca), .val (.ref da), .val (.int sh), .val (.ref kk), .val (.int 0), .val (.int ((own_PF f2 sh) (own_sb (f2 (0 : Int32)) sh))), .val (.int 3), .val (.long (f2 (2 : Int32))), .second]) rfl (XS.aloadN X197.here hx rfl (bd d14_187) rfl rfl (XS.iload X197.here hx rfl (bd d14_188) rfl (XS.aloadN X197.here hx rfl (bd d14_190) rfl rfl (XS.iload X197.here hx rfl (bd d14_191) rfl k))))) ?_
                have f198 := (f192.other W197 nkk_b5)
                obtain ⟨cl199, Ar199, hi199, ha199⟩ := own_at f198 (j := (0 : Int32)) (v := (.long (f2 (0 : Int32)))) ⟨by decide, by decide⟩ (own_rg_at ⟨by decide, by decide⟩ _ _)
                refine OD.go (B := (T197.setTop (mkF m 194 #[.val (.ref a1), .val (.ref b5), .val (.ref b10), .val (.ref ca), .val (.ref da), .val (.int sh), .val (.ref kk), .val (.int 0), .val (.int ((own_PF f2 sh) (own_sb (f2 (0 : Int32)) sh))), .val (.int 3), .val (.long (f2 (2 : Int32))), .second] [(.long (f2 (0 : Int32))), (.int ((own_PF f2 sh) (own_sb (f2 (0 : Int32)) sh))), (.ref ca)]))) (fun t k => X197.laload hx (j := (0 : Int32)) (v := (.long (f2 (0 : Int32)))) (by rw [e197]; exact Ar199.1) (State.isArrayOf_alike hZ.alike Ar199.2.1) Ar199.2.2 hi199 ha199 (g := (mkF m 193 #[.val (.ref a1), .val (.ref b5), .val (.ref b10), .val (.ref ca), .val (.ref da), .val (.int sh), .val (.ref kk), .val (.int 0), .val (.int ((own_PF f2 sh) (own_sb (f2 (0 : Int32)) sh))), .val (.int 3), .val (.long (f2 (2 : Int32))), .second] [(.int 0), (.ref b5), (.int ((own_PF f2 sh) (own_sb (f2 (0 : Int32)) sh))), (.ref ca)])) rfl rfl (bd d14_193) _ k) ?_
                have f200 := ((((((B1.keep Km nin0).other W166 nkk_ca).other W172 nkk_ca).other W178 nkk_ca).keep Kp (ninS nkk_ca nin0)).other W197 nkk_ca)
                obtain ⟨cl202, Ar202, q202, S202, M202, H202, G202⟩ := id f200
                obtain ⟨T202, h202, X202, e202, W202, st202⟩ := stJ X197 hx hZ e197 Ar202 (j := ((own_PF f2 sh) (own_sb (f2 (0 : Int32)) sh))) (inb_of S202 (own_place0 f2 sh)) (g := (mkF m 194 #[.val (.ref a1), .val (.ref b5), .val (.ref b10), .val (.ref ca), .val (.ref da), .val (.int sh), .val (.ref kk), .val (.int 0), .val (.int ((own_PF f2 sh) (own_sb (f2 (0 : Int32)) sh))), .val (.int 3), .val (.long (f2 (2 : Int32))), .second] [(.long (f2 (0 : Int32))), (.int ((own_PF f2 sh) (own_sb (f2 (0 : Int32)) sh))), (.ref ca)])) rfl rfl (bd d14_194)
                have V202 : Arv Z h202 ca kc .long (3 : Int32) (own_rg (3 : Int32).toNatClampNeg (fun x => .long ((own_up f1 ((own_PF f2 sh) (own_sb (f2 (0 : Int32)) sh)) (f2 (0 : Int32))) x))) (.long (0 : Int64)) := own_put (fun x => .long ((own_up f1 ((own_PF f2 sh) (own_sb (f2 (0 : Int32)) sh)) (f2 (0 : Int32))) x)) Ar202 q202 S202 M202 H202 G202 rfl W202 (own_place0 f2 sh) (congrArg Value.long (own_up_at _ _ _)) (fun x q => congrArg Value.long (own_up_ne _ _ q))
                have N202 := Fr.snoc X202 N197 gc
                refine OD.go st202 ?_
                refine OD.go (B := (T202.setTop (mkF m 202 #[.val (.ref a1), .val (.ref b5), .val (.ref b10), .val (.ref ca), .val (.ref da), .val (.int sh), .val (.ref kk), .val (.int 0), .val (.int ((own_PF f2 sh) (own_sb (f2 (0 : Int32)) sh))), .val (.int 3), .val (.long (f2 (2 : Int32))), .second] [(.int 0), (.ref b10), (.int ((own_PF f2 sh) (own_sb (f2 (0 : Int32)) sh))), (.ref da)]))) (fun t k => XS.aload X202.here hx rfl (bd d14_195) rfl rfl (XS.iload X202.here hx rfl (bd d14_197) rfl (XS.aloadN X202.here hx rfl (bd d14_199) rfl rfl (XS.iload X202.here hx rfl (bd d14_200) rfl k)))) ?_
                have f203 := (((((((B4.keep Km nin0).other W166 nkk_b10).other W172 nkk_b10).other W178 nkk_b10).keep Kp (ninS nkk_b10 nin0)).other W197 nkk_b10).other W202 (Ne.symm ne3))
                obtain ⟨cl204, Ar204, hi204, ha204⟩ := own_at f203 (j := (0 : Int32)) (v := (.int (g2 (0 : Int32)))) ⟨by decide, by decide⟩ (own_rg_at ⟨by decide, by decide⟩ _ _)
                refine OD.go (B := (T202.setTop (mkF m 203 #[.val (.ref a1), .val (.ref b5), .val (.ref b10), .val (.ref ca), .val (.ref da), .val (.int sh), .val (.ref kk), .val (.int 0), .val (.int ((own_PF f2 sh) (own_sb (f2 (0 : Int32)) sh))), .val (.int 3), .val (.long (f2 (2 : Int32))), .second] [(.int (g2 (0 : Int32))), (.int ((own_PF f2 sh) (own_sb (f2 (0 : Int32)) sh))), (.ref da)]))) (fun t k => X202.iaload hx (j := (0 : Int32)) (v := (.int (g2 (0 : Int32)))) (by rw [e202]; exact Ar204.1) (State.isArrayOf_alike hZ.alike Ar204.2.1) Ar204.2.2 hi204 ha204 (g := (mkF m 202 #[.val (.ref a1), .val (.ref b5), .val (.ref b10), .val (.ref ca), .val (.ref da), .val (.int sh), .val (.ref kk), .val (.int 0), .val (.int ((own_PF f2 sh) (own_sb (f2 (0 : Int32)) sh))), .val (.int 3), .val (.long (f2 (2 : Int32))), .second] [(.int 0), (.ref b10), (.int ((own_PF f2 sh) (own_sb (f2 (0 : Int32)) sh))), (.ref da)])) rfl rfl (bd d14_202) _ k) ?_
                have f205 := ((f190.other W197 nkk_da).other W202 (Ne.symm ncd))
                obtain ⟨cl207, Ar207, q207, S207, M207, H207, G207⟩ := id f205
                obtain ⟨T207, h207, X207, e207, W207, st207⟩ := stI X202 hx hZ e202 Ar207 (j := ((own_PF f2 sh) (own_sb (f2 (0 : Int32)) sh))) (inb_of S207 (own_place0 f2 sh)) (g := (mkF m 203 #[.val (.ref a1), .val (.ref b5), .val (.ref b10), .val (.ref ca), .val (.ref da), .val (.int sh), .val (.ref kk), .val (.int 0), .val (.int ((own_PF f2 sh) (own_sb (f2 (0 : Int32)) sh))), .val (.int 3), .val (.long (f2 (2 : Int32))), .second] [(.int (g2 (0 : Int32))), (.int ((own_PF f2 sh) (own_sb (f2 (0 : Int32)) sh))), (.ref da)])) rfl rfl (bd d14_203)
                have V207 : Arv Z h207 da kd .int 3 (own_rg (3 : Int32).toNatClampNeg (fun x => .int ((own_up g1 ((own_PF f2 sh) (own_sb (f2 (0 : Int32)) sh)) (g2 (0 : Int32))) x))) (.int 0) := own_put (fun x => .int ((own_up g1 ((own_PF f2 sh) (own_sb (f2 (0 : Int32)) sh)) (g2 (0 : Int32))) x)) Ar207 q207 S207 M207 H207 G207 rfl W207 (own_place0 f2 sh) (congrArg Value.int (own_up_at _ _ _)) (fun x q => congrArg Value.int (own_up_ne _ _ q))
                have N207 := Fr.snoc X207 N202 gd
                refine OD.go st207 ?_
                refine OD.go (B := (T207.setTop (mkF m 161 #[.val (.ref a1), .val (.ref b5), .val (.ref b10), .val (.ref ca), .val (.ref da), .val (.int sh), .val (.ref kk), .val (.int 1), .val (.int ((own_PF f2 sh) (own_sb (f2 (0 : Int32)) sh))), .val (.int 3), .val (.long (f2 (2 : Int32))), .second] [(.ref a1), (.int 1)]))) (fun t k => XS.iinc X207.here hx rfl (bd d14_204) rfl (l' := #[.val (.ref a1), .val (.ref b5), .val (.ref b10), .val (.ref ca), .val (.ref da), .val (.int sh), .val (.ref kk), .val (.int 1), .val (.int ((own_PF f2 sh) (own_sb (f2 (0 : Int32)) sh))), .val (.int 3), .val (.long (f2 (2 : Int32))), .second]) rfl (XS.goto X207.here hx rfl (pc0 := 207) (pc' := 158) rfl (bd d14_207) (by decide) (by decide) (XS.iload X207.here hx rfl (bd d14_158) rfl (XS.aloadN X207.here hx rfl (bd d14_160) rfl rfl k)))) ?_
                have f208 := (((f188.other W197 (Or.inl nkk_a1)).other W202 (Or.inl nc)).other W207 (Or.inl nd))
                obtain ⟨T209, X209, e209, st209⟩ := getF X207 hx hZ hown (host := "") (Or.inl (Wd39 hw)) Via.refl e207 f208 (g := (mkF m 161 #[.val (.ref a1), .val (.ref b5), .val (.ref b10), .val (.ref ca), .val (.ref da), .val (.int sh), .val (.ref kk), .val (.int 1), .val (.int ((own_PF f2 sh) (own_sb (f2 (0 : Int32)) sh))), .val (.int 3), .val (.long (f2 (2 : Int32))), .second] [(.ref a1), (.int 1)])) rfl rfl (bd d14_161)
                refine OD.go (B := (T209.setTop (mkF m 164 #[.val (.ref a1), .val (.ref b5), .val (.ref b10), .val (.ref ca), .val (.ref da), .val (.int sh), .val (.ref kk), .val (.int 1), .val (.int ((own_PF f2 sh) (own_sb (f2 (0 : Int32)) sh))), .val (.int 3), .val (.long (f2 (2 : Int32))), .second] [(.ref da), (.int 1)]))) st209 ?_
                obtain ⟨cl210, Ar210, hl210⟩ := own_len V207
                refine OD.go (B := (T209.setTop (mkF m 165 #[.val (.ref a1), .val (.ref b5), .val (.ref b10), .val (.ref ca), .val (.ref da), .val (.int sh), .val (.ref kk), .val (.int 1), .val (.int ((own_PF f2 sh) (own_sb (f2 (0 : Int32)) sh))), .val (.int 3), .val (.long (f2 (2 : Int32))), .second] [(.int 3), (.int 1)]))) (fun t k => X209.arraylength hx (by rw [e209]; exact Ar210.1) (State.isArrayOf_alike hZ.alike Ar210.2.1) (g := (mkF m 164 #[.val (.ref a1), .val (.ref b5), .val (.ref b10), .val (.ref ca), .val (.ref da), .val (.int sh), .val (.ref kk), .val (.int 1), .val (.int ((own_PF f2 sh) (own_sb (f2 (0 : Int32)) sh))), .val (.int 3), .val (.long (f2 (2 : Int32))), .second] [(.ref da), (.int 1)])) rfl rfl (bd d14_164) _ (by rw [hl210]; exact k)) ?_
                refine OD.go (B := (T209.setTop (mkF m 173 #[.val (.ref a1), .val (.ref b5), .val (.ref b10), .val (.ref ca), .val (.ref da), .val (.int sh), .val (.ref kk), .val (.int 1), .val (.int ((own_PF f2 sh) (own_sb (f2 (0 : Int32)) sh))), .val (.int 3), .val (.long (f2 (2 : Int32))), .second] [(.int 1), (.ref b5), (.ref kk)]))) (fun t k => XS.icmpNo X209.here hx rfl (bd d14_165) rfl (tlt (by decide : (1 : Int32) < (3 : Int32))).2.1 (XS.aload X209.here hx rfl (bd d14_168) rfl rfl (XS.aloadN X209.here hx rfl (bd d14_170) rfl rfl (XS.iload X209.here hx rfl (bd d14_171) rfl k)))) ?_
                have f211 := ((f198.other W202 (Ne.symm ne2)).other W207 (Ne.symm ne4))
                obtain ⟨cl212, Ar212, hi212, ha212⟩ := own_at f211 (j := (1 : Int32)) (v := (.long (f2 (1 : Int32)))) ⟨by decide, by decide⟩ (own_rg_at ⟨by decide, by decide⟩ _ _)
                refine OD.go (B := (T209.setTop (mkF m 176 #[.val (.ref a1), .val (.ref b5), .val (.ref b10), .val (.ref ca), .val (.ref da), .val (.int sh), .val (.ref kk), .val (.int 1), .val (.int ((own_PF f2 sh) (own_sb (f2 (0 : Int32)) sh))), .val (.int 3), .val (.long (f2 (2 : Int32))), .second] [(.int sh), (.long (f2 (1 : Int32))), (.ref kk)]))) (fun t k => X209.laload hx (j := (1 : Int32)) (v := (.long (f2 (1 : Int32)))) (by rw [e209]; exact Ar212.1) (State.isArrayOf_alike hZ.alike Ar212.2.1) Ar212.2.2 hi212 ha212 (g := (mkF m 173 #[.val (.ref a1), .val (.ref b5), .val (.ref b10), .val (.ref ca), .val (.ref da), .val (.int sh), .val (.ref kk), .val (.int 1), .val (.int ((own_PF f2 sh) (own_sb (f2 (0 : Int32)) sh))), .val (.int 3), .val (.long (f2 (2 : Int32))), .second] [(.int 1), (.ref b5), (.ref kk)])) rfl rfl (bd d14_173) _ (XS.iload X209.here hx rfl (bd d14_174) rfl k)) ?_
                obtain ⟨_, _, ⟨T213, L213, k213, n213⟩, -, X213, ⟨Lc213, hQ213, l213, y213, z213⟩, st213⟩ := Jvm.LawKit.callS X209 hx (y := (⟨zZ0, "sortingByte", "(JI)I"⟩ : MethodName)) hown (mvT hZ (Wd97 hw)) (mvT hZ (Wd98 hw)) (mvT hZ (Wd4 hw)) (mvT hZ (Wd99 hw)) (by decide) (backOf (W := 1) (rmSB l Z a0 hw [] (f2 (1 : Int32)) sh h207) hZ (Wd99 hw) (Wd4 hw) (by decide) (by decide)) (g := (mkF m 176 #[.val (.ref a1), .val (.ref b5), .val (.ref b10), .val (.ref ca), .val (.ref da), .val (.int sh), .val (.ref kk), .val (.int 1), .val (.int ((own_PF f2 sh) (own_sb (f2 (0 : Int32)) sh))), .val (.int 3), .val (.long (f2 (2 : Int32))), .second] [(.int sh), (.long (f2 (1 : Int32))), (.ref kk)])) rfl (by rw [hml]; rfl) (argsL := [(.long (f2 (1 : Int32))), (.int sh)]) (rest := [(.ref kk)]) (lenOf pd4 rfl) rfl (by show 2 * 0 + _ ≤ _; exact Nat.le_of_eq rfl) (bd d14_176) (fun _ _ => ⟨rfl, e209, (by first | (show cn + 1 + 0 ≤ (10 : Nat); omega) | (show sn + 257 + 0 ≤ (2100 : Nat); omega)), (by first | (show cn + 1 + 0 ≤ (10 : Nat); omega) | (show sn + 257 + 0 ≤ (2100 : Nat); omega))⟩)
                dsimp only [Pt.U, Pt.locs, Pt.cells, Pt.slots] at X213 l213 y213 z213 st213 hQ213
                subst l213 y213 z213
                obtain ⟨rfl, rfl, e213⟩ := hQ213
                have N213 := Fr.app N207 (Fr.nil _)
                refine OD.go st213 ?_
                refine OD.go (B := (T213.setTop (mkF m 180 #[.val (.ref a1), .val (.ref b5), .val (.ref b10), .val (.ref ca), .val (.ref da), .val (.int sh), .val (.ref kk), .val (.int 1), .val (.int ((own_PF f2 sh) (own_sb (f2 (0 : Int32)) sh))), .val (.int 3), .val (.long (f2 (2 : Int32))), .second] [(.int (own_sb (f2 (1 : Int32)) sh)), (.ref kk), (.int (own_sb (f2 (1 : Int32)) sh)), (.ref kk)]))) (fun t k => XT.dup2 X213.here hx rfl (bd d14_179) rfl rfl rfl k) ?_
                have f214 := ((V197.other W202 (Ne.symm nkk_ca)).other W207 (Ne.symm nkk_da))
                obtain ⟨cl215, Ar215, hi215, ha215⟩ := own_at f214 (j := (own_sb (f2 (1 : Int32)) sh)) (v := (.int ((own_s1 f2 sh) (own_sb (f2 (1 : Int32)) sh)))) (own_sbC _ _) (own_rg_at (own_sbC _ _) _ _)
                refine OD.go (B := (T213.setTop (mkF m 184 #[.val (.ref a1), .val (.ref b5), .val (.ref b10), .val (.ref ca), .val (.ref da), .val (.int sh), .val (.ref kk), .val (.int 1), .val (.int ((own_PF f2 sh) (own_sb (f2 (0 : Int32)) sh))), .val (.int 3), .val (.long (f2 (2 : Int32))), .second] [(.int (((own_s1 f2 sh) (own_sb (f2 (1 : Int32)) sh)) + (1 : Int32))), (.int (own_sb (f2 (1 : Int32)) sh)), (.ref kk), (.int ((own_s1 f2 sh) (own_sb (f2 (1 : Int32)) sh)))]))) (fun t k => X213.iaload hx (j := (own_sb (f2 (1 : Int32)) sh)) (v := (.int ((own_s1 f2 sh) (own_sb (f2 (1 : Int32)) sh)))) (by rw [e213]; exact Ar215.1) (State.isArrayOf_alike hZ.alike Ar215.2.1) Ar215.2.2 hi215 ha215 (g := (mkF m 180 #[.val (.ref a1), .val (.ref b5), .val (.ref b10), .val (.ref ca), .val (.ref da), .val (.int sh), .val (.ref kk), .val (.int 1), .val (.int ((own_PF f2 sh) (own_sb (f2 (0 : Int32)) sh))), .val (.int 3), .val (.long (f2 (2 : Int32))), .second] [(.int (own_sb (f2 (1 : Int32)) sh)), (.ref kk), (.int (own_sb (f2 (1 : Int32)) sh)), (.ref kk)])) rfl rfl (bd d14_180) _ (own_dupX2 X213.here hx rfl (bd d14_181) rfl rfl rfl rfl (XS.iconst X213.here hx rfl (bd d14_182) (XS.iadd X213.here hx rfl (bd d14_183) rfl k)))) ?_
                obtain ⟨cl217, Ar217, q217, S217, M217, H217, G217⟩ := id f214
                obtain ⟨T217, h217, X217, e217, W217, st217⟩ := stI X213 hx hZ e213 Ar217 (j := (own_sb (f2 (1 : Int32)) sh)) (inb_of S217 (own_sbC _ _)) (g := (mkF m 184 #[.val (.ref a1), .val (.ref b5), .val (.ref b10), .val (.ref ca), .val (.ref da), .val (.int sh), .val (.ref kk), .val (.int 1), .val (.int ((own_PF f2 sh) (own_sb (f2 (0 : Int32)) sh))), .val (.int 3), .val (.long (f2 (2 : Int32))), .second] [(.int (((own_s1 f2 sh) (own_sb (f2 (1 : Int32)) sh)) + (1 : Int32))), (.int (own_sb (f2 (1 : Int32)) sh)), (.ref kk), (.int ((own_s1 f2 sh) (own_sb (f2 (1 : Int32)) sh)))])) rfl rfl (bd d14_184)
                have V217 : Arv Z h217 kk kK .int 257 (own_rg (257 : Int32).toNatClampNeg (fun x => .int ((own_s2 f2 sh) x))) (.int 0) := own_put (fun x => .int ((own_s2 f2 sh) x)) Ar217 q217 S217 M217 H217 G217 rfl W217 (own_sbC _ _) (congrArg Value.int (own_up_at _ _ _)) (fun x q => congrArg Value.int (own_up_ne _ _ q))
                have N217 := Fr.snoc X217 N213 gkk
                refine OD.go st217 ?_
                refine OD.go (B := (T217.setTop (mkF m 193 #[.val (.ref a1), .val (.ref b5), .val (.ref b10), .val (.ref ca), .val (.ref da), .val (.int sh), .val (.ref kk), .val (.int 1), .val (.int ((own_s1 f2 sh) (own_sb (f2 (1 : Int32)) sh))), .val (.int 3), .val (.long (f2 (2 : Int32))), .second] [(.int 1), (.ref b5), (.int ((own_s1 f2 sh) (own_sb (f2 (1 : Int32)) sh))), (.ref ca)]))) (fun t k => XS.istore X217.here hx rfl (bd d14_185) rfl (l' := #[.val (.ref a1), .val (.ref b5), .val (.ref b10), .val (.ref ca), .val (.ref da), .val (.int sh), .val (.ref kk), .val (.int 1), .val (.int ((own_s1 f2 sh) (own_sb (f2 (1 : Int32)) sh))), .val (.int 3), .val (.long (f2 (2 : Int32))), .second]) rfl (XS.aloadN X217.here hx rfl (bd d14_187) rfl rfl (XS.iload X217.here hx rfl (bd d14_188) rfl (XS.aloadN X217.here hx rfl (bd d14_190) rfl rfl (XS.iload X217.here hx rfl (bd d14_191) rfl k))))) ?_
                have f218 := (f211.other W217 nkk_b5)
                obtain ⟨cl219, Ar219, hi219, ha219⟩ := own_at f218 (j := (1 : Int32)) (v := (.long (f2 (1 : Int32)))) ⟨by decide, by decide⟩ (own_rg_at ⟨by decide, by decide⟩ _ _)
                refine OD.go (B := (T217.setTop (mkF m 194 #[.val (.ref a1), .val (.ref b5), .val (.ref b10), .val (.ref ca), .val (.ref da), .val (.int sh), .val (.ref kk), .val (.int 1), .val (.int ((own_s1 f2 sh) (own_sb (f2 (1 : Int32)) sh))), .val (.int 3), .val (.long (f2 (2 : Int32))), .second] [(.long (f2 (1 : Int32))), (.int ((own_s1 f2 sh) (own_sb (f2 (1 : Int32)) sh))), (.ref ca)]))) (fun t k => X217.laload hx (j := (1 : Int32)) (v := (.long (f2 (1 : Int32)))) (by rw [e217]; exact Ar219.1) (State.isArrayOf_alike hZ.alike Ar219.2.1) Ar219.2.2 hi219 ha219 (g := (mkF m 193 #[.val (.ref a1), .val (.ref b5), .val (.ref b10), .val (.ref ca), .val (.ref da), .val (.int sh), .val (.ref kk), .val (.int 1), .val (.int ((own_s1 f2 sh) (own_sb (f2 (1 : Int32)) sh))), .val (.int 3), .val (.long (f2 (2 : Int32))), .second] [(.int 1), (.ref b5), (.int ((own_s1 f2 sh) (own_sb (f2 (1 : Int32)) sh))), (.ref ca)])) rfl rfl (bd d14_193) _ k) ?_
                have f220 := ((V202.other W207 ncd).other W217 nkk_ca)
                obtain ⟨cl222, Ar222, q222, S222, M222, H222, G222⟩ := id f220
                obtain ⟨T222, h222, X222, e222, W222, st222⟩ := stJ X217 hx hZ e217 Ar222 (j := ((own_s1 f2 sh) (own_sb (f2 (1 : Int32)) sh))) (inb_of S222 (own_place1 f2 sh)) (g := (mkF m 194 #[.val (.ref a1), .val (.ref b5), .val (.ref b10), .val (.ref ca), .val (.ref da), .val (.int sh), .val (.ref kk), .val (.int 1), .val (.int ((own_s1 f2 sh) (own_sb (f2 (1 : Int32)) sh))), .val (.int 3), .val (.long (f2 (2 : Int32))), .second] [(.long (f2 (1 : Int32))), (.int ((own_s1 f2 sh) (own_sb (f2 (1 : Int32)) sh))), (.ref ca)])) rfl rfl (bd d14_194)
                have V222 : Arv Z h222 ca kc .long (3 : Int32) (own_rg (3 : Int32).toNatClampNeg (fun x => .long ((own_up (own_up f1 ((own_PF f2 sh) (own_sb (f2 (0 : Int32)) sh)) (f2 (0 : Int32))) ((own_s1 f2 sh) (own_sb (f2 (1 : Int32)) sh)) (f2 (1 : Int32))) x))) (.long (0 : Int64)) := own_put (fun x => .long ((own_up (own_up f1 ((own_PF f2 sh) (own_sb (f2 (0 : Int32)) sh)) (f2 (0 : Int32))) ((own_s1 f2 sh) (own_sb (f2 (1 : Int32)) sh)) (f2 (1 : Int32))) x)) Ar222 q222 S222 M222 H222 G222 rfl W222 (own_place1 f2 sh) (congrArg Value.long (own_up_at _ _ _)) (fun x q => congrArg Value.long (own_up_ne _ _ q))
                have N222 := Fr.snoc X222 N217 gc
                refine OD.go st222 ?_
                refine OD.go (B := (T222.setTop (mkF m 202 #[.val (.ref a1), .val (.ref b5), .val (.ref b10), .val (.ref ca), .val (.ref da), .val (.int sh), .val (.ref kk), .val (.int 1), .val (.int ((own_s1 f2 sh) (own_sb (f2 (1 : Int32)) sh))), .val (.int 3), .val (.long (f2 (2 : Int32))), .second] [(.int 1), (.ref b10), (.int ((own_s1 f2 sh) (own_sb (f2 (1 : Int32)) sh))), (.ref da)]))) (fun t k => XS.aload X222.here hx rfl (bd d14_195) rfl rfl (XS.iload X222.here hx rfl (bd d14_197) rfl (XS.aloadN X222.here hx rfl (bd d14_199) rfl rfl (XS.iload X222.here hx rfl (bd d14_200) rfl k)))) ?_
                have f223 := (((f203.other W207 (Ne.symm ne5)).other W217 nkk_b10).other W222 (Ne.symm ne3))
                obtain ⟨cl224, Ar224, hi224, ha224⟩ := own_at f223 (j := (1 : Int32)) (v := (.int (g2 (1 : Int32)))) ⟨by decide, by decide⟩ (own_rg_at ⟨by decide, by decide⟩ _ _)
                refine OD.go (B := (T222.setTop (mkF m 203 #[.val (.ref a1), .val (.ref b5), .val (.ref b10), .val (.ref ca), .val (.ref da), .val (.int sh), .val (.ref kk), .val (.int 1), .val (.int ((own_s1 f2 sh) (own_sb (f2 (1 : Int32)) sh))), .val (.int 3), .val (.long (f2 (2 : Int32))), .second] [(.int (g2 (1 : Int32))), (.int ((own_s1 f2 sh) (own_sb (f2 (1 : Int32)) sh))), (.ref da)]))) (fun t k => X222.iaload hx (j := (1 : Int32)) (v := (.int (g2 (1 : Int32)))) (by rw [e222]; exact Ar224.1) (State.isArrayOf_alike hZ.alike Ar224.2.1) Ar224.2.2 hi224 ha224 (g := (mkF m 202 #[.val (.ref a1), .val (.ref b5), .val (.ref b10), .val (.ref ca), .val (.ref da), .val (.int sh), .val (.ref kk), .val (.int 1), .val (.int ((own_s1 f2 sh) (own_sb (f2 (1 : Int32)) sh))), .val (.int 3), .val (.long (f2 (2 : Int32))), .second] [(.int 1), (.ref b10), (.int ((own_s1 f2 sh) (own_sb (f2 (1 : Int32)) sh))), (.ref da)])) rfl rfl (bd d14_202) _ k) ?_
                have f225 := ((V207.other W217 nkk_da).other W222 (Ne.symm ncd))
                obtain ⟨cl227, Ar227, q227, S227, M227, H227, G227⟩ := id f225
                obtain ⟨T227, h227, X227, e227, W227, st227⟩ := stI X222 hx hZ e222 Ar227 (j := ((own_s1 f2 sh) (own_sb (f2 (1 : Int32)) sh))) (inb_of S227 (own_place1 f2 sh)) (g := (mkF m 203 #[.val (.ref a1), .val (.ref b5), .val (.ref b10), .val (.ref ca), .val (.ref da), .val (.int sh), .val (.ref kk), .val (.int 1), .val (.int ((own_s1 f2 sh) (own_sb (f2 (1 : Int32)) sh))), .val (.int 3), .val (.long (f2 (2 : Int32))), .second] [(.int (g2 (1 : Int32))), (.int ((own_s1 f2 sh) (own_sb (f2 (1 : Int32)) sh))), (.ref da)])) rfl rfl (bd d14_203)
                have V227 : Arv Z h227 da kd .int 3 (own_rg (3 : Int32).toNatClampNeg (fun x => .int ((own_up (own_up g1 ((own_PF f2 sh) (own_sb (f2 (0 : Int32)) sh)) (g2 (0 : Int32))) ((own_s1 f2 sh) (own_sb (f2 (1 : Int32)) sh)) (g2 (1 : Int32))) x))) (.int 0) := own_put (fun x => .int ((own_up (own_up g1 ((own_PF f2 sh) (own_sb (f2 (0 : Int32)) sh)) (g2 (0 : Int32))) ((own_s1 f2 sh) (own_sb (f2 (1 : Int32)) sh)) (g2 (1 : Int32))) x)) Ar227 q227 S227 M227 H227 G227 rfl W227 (own_place1 f2 sh) (congrArg Value.int (own_up_at _ _ _)) (fun x q => congrArg Value.int (own_up_ne _ _ q))
                have N227 := Fr.snoc X227 N222 gd
                refine OD.go st227 ?_
                refine OD.go (B := (T227.setTop (mkF m 161 #[.val (.ref a1), .val (.ref b5), .val (.ref b10), .val (.ref ca), .val (.ref da), .val (.int sh), .val (.ref kk), .val (.int 2), .val (.int ((own_s1 f2 sh) (own_sb (f2 (1 : Int32)) sh))), .val (.int 3), .val (.long (f2 (2 : Int32))), .second] [(.ref a1), (.int 2)]))) (fun t k => XS.iinc X227.here hx rfl (bd d14_204) rfl (l' := #[.val (.ref a1), .val (.ref b5), .val (.ref b10), .val (.ref ca), .val (.ref da), .val (.int sh), .val (.ref kk), .val (.int 2), .val (.int ((own_s1 f2 sh) (own_sb (f2 (1 : Int32)) sh))), .val (.int 3), .val (.long (f2 (2 : Int32))), .second]) rfl (XS.goto X227.here hx rfl (pc0 := 207) (pc' := 158) rfl (bd d14_207) (by decide) (by decide) (XS.iload X227.here hx rfl (bd d14_158) rfl (XS.aloadN X227.here hx rfl (bd d14_160) rfl rfl k)))) ?_
                have f228 := (((f208.other W217 (Or.inl nkk_a1)).other W222 (Or.inl nc)).other W227 (Or.inl nd))
                obtain ⟨T229, X229, e229, st229⟩ := getF X227 hx hZ hown (host := "") (Or.inl (Wd39 hw)) Via.refl e227 f228 (g := (mkF m 161 #[.val (.ref a1), .val (.ref b5), .val (.ref b10), .val (.ref ca), .val (.ref da), .val (.int sh), .val (.ref kk), .val (.int 2), .val (.int ((own_s1 f2 sh) (own_sb (f2 (1 : Int32)) sh))), .val (.int 3), .val (.long (f2 (2 : Int32))), .second] [(.ref a1), (.int 2)])) rfl rfl (bd d14_161)
                refine OD.go (B := (T229.setTop (mkF m 164 #[.val (.ref a1), .val (.ref b5), .val (.ref b10), .val (.ref ca), .val (.ref da), .val (.int sh), .val (.ref kk), .val (.int 2), .val (.int ((own_s1 f2 sh) (own_sb (f2 (1 : Int32)) sh))), .val (.int 3), .val (.long (f2 (2 : Int32))), .second] [(.ref da), (.int 2)]))) st229 ?_
                obtain ⟨cl230, Ar230, hl230⟩ := own_len V227
                refine OD.go (B := (T229.setTop (mkF m 165 #[.val (.ref a1), .val (.ref b5), .val (.ref b10), .val (.ref ca), .val (.ref da), .val (.int sh), .val (.ref kk), .val (.int 2), .val (.int ((own_s1 f2 sh) (own_sb (f2 (1 : Int32)) sh))), .val (.int 3), .val (.long (f2 (2 : Int32))), .second] [(.int 3), (.int 2)]))) (fun t k => X229.arraylength hx (by rw [e229]; exact Ar230.1) (State.isArrayOf_alike hZ.alike Ar230.2.1) (g := (mkF m 164 #[.val (.ref a1), .val (.ref b5), .val (.ref b10), .val (.ref ca), .val (.ref da), .val (.int sh), .val (.ref kk), .val (.int 2), .val (.int ((own_s1 f2 sh) (own_sb (f2 (1 : Int32)) sh))), .val (.int 3), .val (.long (f2 (2 : Int32))), .second] [(.ref da), (.int 2)])) rfl rfl (bd d14_164) _ (by rw [hl230]; exact k)) ?_
                refine OD.go (B := (T229.setTop (mkF m 173 #[.val (.ref a1), .val (.ref b5), .val (.ref b10), .val (.ref ca), .val (.ref da), .val (.int sh), .val (.ref kk), .val (.int 2), .val (.int ((own_s1 f2 sh) (own_sb (f2 (1 : Int32)) sh))), .val (.int 3), .val (.long (f2 (2 : Int32))), .second] [(.int 2), (.ref b5), (.ref kk)]))) (fun t k => XS.icmpNo X229.here hx rfl (bd d14_165) rfl (tlt (by decide : (2 : Int32) < (3 : Int32))).2.1 (XS.aload X229.here hx rfl (bd d14_168) rfl rfl (XS.aloadN X229.here hx rfl (bd d14_170) rfl rfl (XS.iload X229.here hx rfl (bd d14_171) rfl k)))) ?_
                have f231 := ((f218.other W222 (Ne.symm ne2)).other W227 (Ne.symm ne4))
                obtain ⟨cl232, Ar232, hi232, ha232⟩ := own_at f231 (j := (2 : Int32)) (v := (.long (f2 (2 : Int32)))) ⟨by decide, by decide⟩ (own_rg_at ⟨by decide, by decide⟩ _ _)
                refine OD.go (B := (T229.setTop (mkF m 176 #[.val (.ref a1), .val (.ref b5), .val (.ref b10), .val (.ref ca), .val (.ref da), .val (.int sh), .val (.ref kk), .val (.int 2), .val (.int ((own_s1 f2 sh) (own_sb (f2 (1 : Int32)) sh))), .val (.int 3), .val (.long (f2 (2 : Int32))), .second] [(.int sh), (.long (f2 (2 : Int32))), (.ref kk)]))) (fun t k => X229.laload hx (j := (2 : Int32)) (v := (.long (f2 (2 : Int32)))) (by rw [e229]; exact Ar232.1) (State.isArrayOf_alike hZ.alike Ar232.2.1) Ar232.2.2 hi232 ha232 (g := (mkF m 173 #[.val (.ref a1), .val (.ref b5), .val (.ref b10), .val (.ref ca), .val (.ref da), .val (.int sh), .val (.ref kk), .val (.int 2), .val (.int ((own_s1 f2 sh) (own_sb (f2 (1 : Int32)) sh))), .val (.int 3), .val (.long (f2 (2 : Int32))), .second] [(.int 2), (.ref b5), (.ref kk)])) rfl rfl (bd d14_173) _ (XS.iload X229.here hx rfl (bd d14_174) rfl k)) ?_
                obtain ⟨_, _, ⟨T233, L233, k233, n233⟩, -, X233, ⟨Lc233, hQ233, l233, y233, z233⟩, st233⟩ := Jvm.LawKit.callS X229 hx (y := (⟨zZ0, "sortingByte", "(JI)I"⟩ : MethodName)) hown (mvT hZ (Wd97 hw)) (mvT hZ (Wd98 hw)) (mvT hZ (Wd4 hw)) (mvT hZ (Wd99 hw)) (by decide) (backOf (W := 1) (rmSB l Z a0 hw [] (f2 (2 : Int32)) sh h227) hZ (Wd99 hw) (Wd4 hw) (by decide) (by decide)) (g := (mkF m 176 #[.val (.ref a1), .val (.ref b5), .val (.ref b10), .val (.ref ca), .val (.ref da), .val (.int sh), .val (.ref kk), .val (.int 2), .val (.int ((own_s1 f2 sh) (own_sb (f2 (1 : Int32)) sh))), .val (.int 3), .val (.long (f2 (2 : Int32))), .second] [(.int sh), (.long (f2 (2 : Int32))), (.ref kk)])) rfl (by rw [hml]; rfl) (argsL := [(.long (f2 (2 : Int32))), (.int sh)]) (rest := [(.ref kk)]) (lenOf pd4 rfl) rfl (by show 2 * 0 + _ ≤ _; exact Nat.le_of_eq rfl) (bd d14_176) (fun _ _ => ⟨rfl, e229, (by first | (show cn + 1 + 0 ≤ (10 : Nat); omega) | (show sn + 257 + 0 ≤ (2100 : Nat); omega)), (by first | (show cn + 1 + 0 ≤ (10 : Nat); omega) | (show sn + 257 + 0 ≤ (2100 : Nat); omega))⟩)
                dsimp only [Pt.U, Pt.locs, Pt.cells, Pt.slots] at X233 l233 y233 z233 st233 hQ233
                subst l233 y233 z233
                obtain ⟨rfl, rfl, e233⟩ := hQ233
                have N233 := Fr.app N227 (Fr.nil _)
                refine OD.go st233 ?_
                refine OD.go (B := (T233.setTop (mkF m 180 #[.val (.ref a1), .val (.ref b5), .val (.ref b10), .val (.ref ca), .val (.ref da), .val (.int sh), .val (.ref kk), .val (.int 2), .val (.int ((own_s1 f2 sh) (own_sb (f2 (1 : Int32)) sh))), .val (.int 3), .val (.long (f2 (2 : Int32))), .second] [(.int (own_sb (f2 (2 : Int32)) sh)), (.ref kk), (.int (own_sb (f2 (2 : Int32)) sh)), (.ref kk)]))) (fun t k => XT.dup2 X233.here hx rfl (bd d14_179) rfl rfl rfl k) ?_
                have f234 := ((V217.other W222 (Ne.symm nkk_ca)).other W227 (Ne.symm nkk_da))
                obtain ⟨cl235, Ar235, hi235, ha235⟩ := own_at f234 (j := (own_sb (f2 (2 : Int32)) sh)) (v := (.int ((own_s2 f2 sh) (own_sb (f2 (2 : Int32)) sh)))) (own_sbC _ _) (own_rg_at (own_sbC _ _) _ _)
                refine OD.go (B := (T233.setTop (mkF m 184 #[.val (.ref a1), .val (.ref b5), .val (.ref b10), .val (.ref ca), .val (.ref da), .val (.int sh), .val (.ref kk), .val (.int 2), .val (.int ((own_s1 f2 sh) (own_sb (f2 (1 : Int32)) sh))), .val (.int 3), .val (.long (f2 (2 : Int32))), .second] [(.int (((own_s2 f2 sh) (own_sb (f2 (2 : Int32)) sh)) + (1 : Int32))), (.int (own_sb (f2 (2 : Int32)) sh)), (.ref kk), (.int ((own_s2 f2 sh) (own_sb (f2 (2 : Int32)) sh)))]))) (fun t k => X233.iaload hx (j := (own_sb (f2 (2 : Int32)) sh)) (v := (.int ((own_s2 f2 sh) (own_sb (f2 (2 : Int32)) sh)))) (by rw [e233]; exact Ar235.1) (State.isArrayOf_alike hZ.alike Ar235.2.1) Ar235.2.2 hi235 ha235 (g := (mkF m 180 #[.val (.ref a1), .val (.ref b5), .val (.ref b10), .val (.ref ca), .val (.ref da), .val (.int sh), .val (.ref kk), .val (.int 2), .val (.int ((own_s1 f2 sh) (own_sb (f2 (1 : Int32)) sh))), .val (.int 3), .val (.long (f2 (2 : Int32))), .second] [(.int (own_sb (f2 (2 : Int32)) sh)), (.ref kk), (.int (own_sb (f2 (2 : Int32)) sh)), (.ref kk)])) rfl rfl (bd d14_180) _ (own_dupX2 X233.here hx rfl (bd d14_181) rfl rfl rfl rfl (XS.iconst X233.here hx rfl (bd d14_182) (XS.iadd X233.here hx rfl (bd d14_183) rfl k)))) ?_
                obtain ⟨cl237, Ar237, q237, S237, M237, H237, G237⟩ := id f234
                obtain ⟨T237, h237, X237, e237, W237, st237⟩ := stI X233 hx hZ e233 Ar237 (j := (own_sb (f2 (2 : Int32)) sh)) (inb_of S237 (own_sbC _ _)) (g := (mkF m 184 #[.val (.ref a1), .val (.ref b5), .val (.ref b10), .val (.ref ca), .val (.ref da), .val (.int sh), .val (.ref kk), .val (.int 2), .val (.int ((own_s1 f2 sh) (own_sb (f2 (1 : Int32)) sh))), .val (.int 3), .val (.long (f2 (2 : Int32))), .second] [(.int (((own_s2 f2 sh) (own_sb (f2 (2 : Int32)) sh)) + (1 : Int32))), (.int (own_sb (f2 (2 : Int32)) sh)), (.ref kk), (.int ((own_s2 f2 sh) (own_sb (f2 (2 : Int32)) sh)))])) rfl rfl (bd d14_184)
                have V237 : Arv Z h237 kk kK .int 257 (own_rg (257 : Int32).toNatClampNeg (fun x => .int ((own_s3 f2 sh) x))) (.int 0) := own_put (fun x => .int ((own_s3 f2 sh) x)) Ar237 q237 S237 M237 H237 G237 rfl W237 (own_sbC _ _) (congrArg Value.int (own_up_at _ _ _)) (fun x q => congrArg Value.int (own_up_ne _ _ q))
                have N237 := Fr.snoc X237 N233 gkk
                refine OD.go st237 ?_
                refine OD.go (B := (T237.setTop (mkF m 193 #[.val (.ref a1), .val (.ref b5), .val (.ref b10), .val (.ref ca), .val (.ref da), .val (.int sh), .val (.ref kk), .val (.int 2), .val (.int ((own_s2 f2 sh) (own_sb (f2 (2 : Int32)) sh))), .val (.int 3), .val (.long (f2 (2 : Int32))), .second] [(.int 2), (.ref b5), (.int ((own_s2 f2 sh) (own_sb (f2 (2 : Int32)) sh))), (.ref ca)]))) (fun t k => XS.istore X237.here hx rfl (bd d14_185) rfl (l' := #[.val (.ref a1), .val (.ref b5), .val (.ref b10), .val (.ref ca), .val (.ref da), .val (.int sh), .val (.ref kk), .val (.int 2), .val (.int ((own_s2 f2 sh) (own_sb (f2 (2 : Int32)) sh))), .val (.int 3), .val (.long (f2 (2 : Int32))), .second]) rfl (XS.aloadN X237.here hx rfl (bd d14_187) rfl rfl (XS.iload X237.here hx rfl (bd d14_188) rfl (XS.aloadN X237.here hx rfl (bd d14_190) rfl rfl (XS.iload X237.here hx rfl (bd d14_191) rfl k))))) ?_
                have f238 := (f231.other W237 nkk_b5)
                obtain ⟨cl239, Ar239, hi239, ha239⟩ := own_at f238 (j := (2 : Int32)) (v := (.long (f2 (2 : Int32)))) ⟨by decide, by decide⟩ (own_rg_at ⟨by decide, by decide⟩ _ _)
                refine OD.go (B := (T237.setTop (mkF m 194 #[.val (.ref a1), .val (.ref b5), .val (.ref b10), .val (.ref ca), .val (.ref da), .val (.int sh), .val (.ref kk), .val (.int 2), .val (.int ((own_s2 f2 sh) (own_sb (f2 (2 : Int32)) sh))), .val (.int 3), .val (.long (f2 (2 : Int32))), .second] [(.long (f2 (2 : Int32))), (.int ((own_s2 f2 sh) (own_sb (f2 (2 : Int32)) sh))), (.ref ca)]))) (fun t k => X237.laload hx (j := (2 : Int32)) (v := (.long (f2 (2 : Int32)))) (by rw [e237]; exact Ar239.1) (State.isArrayOf_alike hZ.alike Ar239.2.1) Ar239.2.2 hi239 ha239 (g := (mkF m 193 #[.val (.ref a1), .val (.ref b5), .val (.ref b10), .val (.ref ca), .val (.ref da), .val (.int sh), .val (.ref kk), .val (.int 2), .val (.int ((own_s2 f2 sh) (own_sb (f2 (2 : Int32)) sh))), .val (.int 3), .val (.long (f2 (2 : Int32))), .second] [(.int 2), (.ref b5), (.int ((own_s2 f2 sh) (own_sb (f2 (2 : Int32)) sh))), (.ref ca)])) rfl rfl (bd d14_193) _ k) ?_
                have f240 := ((V222.other W227 ncd).other W237 nkk_ca)
                obtain ⟨cl242, Ar242, q242, S242, M242, H242, G242⟩ := id f240
                obtain ⟨T242, h242, X242, e242, W242, st242⟩ := stJ X237 hx hZ e237 Ar242 (j := ((own_s2 f2 sh) (own_sb (f2 (2 : Int32)) sh))) (inb_of S242 (own_place2 f2 sh)) (g := (mkF m 194 #[.val (.ref a1), .val (.ref b5), .val (.ref b10), .val (.ref ca), .val (.ref da), .val (.int sh), .val (.ref kk), .val (.int 2), .val (.int ((own_s2 f2 sh) (own_sb (f2 (2 : Int32)) sh))), .val (.int 3), .val (.long (f2 (2 : Int32))), .second] [(.long (f2 (2 : Int32))), (.int ((own_s2 f2 sh) (own_sb (f2 (2 : Int32)) sh))), (.ref ca)])) rfl rfl (bd d14_194)
                have V242 : Arv Z h242 ca kc .long (3 : Int32) (own_rg (3 : Int32).toNatClampNeg (fun x => .long ((own_up (own_up (own_up f1 ((own_PF f2 sh) (own_sb (f2 (0 : Int32)) sh)) (f2 (0 : Int32))) ((own_s1 f2 sh) (own_sb (f2 (1 : Int32)) sh)) (f2 (1 : Int32))) ((own_s2 f2 sh) (own_sb (f2 (2 : Int32)) sh)) (f2 (2 : Int32))) x))) (.long (0 : Int64)) := own_put (fun x => .long ((own_up (own_up (own_up f1 ((own_PF f2 sh) (own_sb (f2 (0 : Int32)) sh)) (f2 (0 : Int32))) ((own_s1 f2 sh) (own_sb (f2 (1 : Int32)) sh)) (f2 (1 : Int32))) ((own_s2 f2 sh) (own_sb (f2 (2 : Int32)) sh)) (f2 (2 : Int32))) x)) Ar242 q242 S242 M242 H242 G242 rfl W242 (own_place2 f2 sh) (congrArg Value.long (own_up_at _ _ _)) (fun x q => congrArg Value.long (own_up_ne _ _ q))
                have N242 := Fr.snoc X242 N237 gc
                refine OD.go st242 ?_
                refine OD.go (B := (T242.setTop (mkF m 202 #[.val (.ref a1), .val (.ref b5), .val (.ref b10), .val (.ref ca), .val (.ref da), .val (.int sh), .val (.ref kk), .val (.int 2), .val (.int ((own_s2 f2 sh) (own_sb (f2 (2 : Int32)) sh))), .val (.int 3), .val (.long (f2 (2 : Int32))), .second] [(.int 2), (.ref b10), (.int ((own_s2 f2 sh) (own_sb (f2 (2 : Int32)) sh))), (.ref da)]))) (fun t k => XS.aload X242.here hx rfl (bd d14_195) rfl rfl (XS.iload X242.here hx rfl (bd d14_197) rfl (XS.aloadN X242.here hx rfl (bd d14_199) rfl rfl (XS.iload X242.here hx rfl (bd d14_200) rfl k)))) ?_
                have f243 := (((f223.other W227 (Ne.symm ne5)).other W237 nkk_b10).other W242 (Ne.symm ne3))
                obtain ⟨cl244, Ar244, hi244, ha244⟩ := own_at f243 (j := (2 : Int32)) (v := (.int (g2 (2 : Int32)))) ⟨by decide, by decide⟩ (own_rg_at ⟨by decide, by decide⟩ _ _)
                refine OD.go (B := (T242.setTop (mkF m 203 #[.val (.ref a1), .val (.ref b5), .val (.ref b10), .val (.ref ca), .val (.ref da), .val (.int sh), .val (.ref kk), .val (.int 2), .val (.int ((own_s2 f2 sh) (own_sb (f2 (2 : Int32)) sh))), .val (.int 3), .val (.long (f2 (2 : Int32))), .second] [(.int (g2 (2 : Int32))), (.int ((own_s2 f2 sh) (own_sb (f2 (2 : Int32)) sh))), (.ref da)]))) (fun t k => X242.iaload hx (j := (2 : Int32)) (v := (.int (g2 (2 : Int32)))) (by rw [e242]; exact Ar244.1) (State.isArrayOf_alike hZ.alike Ar244.2.1) Ar244.2.2 hi244 ha244 (g := (mkF m 202 #[.val (.ref a1), .val (.ref b5), .val (.ref b10), .val (.ref ca), .val (.ref da), .val (.int sh), .val (.ref kk), .val (.int 2), .val (.int ((own_s2 f2 sh) (own_sb (f2 (2 : Int32)) sh))), .val (.int 3), .val (.long (f2 (2 : Int32))), .second] [(.int 2), (.ref b10), (.int ((own_s2 f2 sh) (own_sb (f2 (2 : Int32)) sh))), (.ref da)])) rfl rfl (bd d14_202) _ k) ?_
                have f245 := ((V227.other W237 nkk_da).other W242 (Ne.symm ncd))
                obtain ⟨cl247, Ar247, q247, S247, M247, H247, G247⟩ := id f245
                obtain ⟨T247, h247, X247, e247, W247, st247⟩ := stI X242 hx hZ e242 Ar247 (j := ((own_s2 f2 sh) (own_sb (f2 (2 : Int32)) sh))) (inb_of S247 (own_place2 f2 sh)) (g := (mkF m 203 #[.val (.ref a1), .val (.ref b5), .val (.ref b10), .val (.ref ca), .val (.ref da), .val (.int sh), .val (.ref kk), .val (.int 2), .val (.int ((own_s2 f2 sh) (own_sb (f2 (2 : Int32)) sh))), .val (.int 3), .val (.long (f2 (2 : Int32))), .second] [(.int (g2 (2 : Int32))), (.int ((own_s2 f2 sh) (own_sb (f2 (2 : Int32)) sh))), (.ref da)])) rfl rfl (bd d14_203)
                have V247 : Arv Z h247 da kd .int 3 (own_rg (3 : Int32).toNatClampNeg (fun x => .int ((own_up (own_up (own_up g1 ((own_PF f2 sh) (own_sb (f2 (0 : Int32)) sh)) (g2 (0 : Int32))) ((own_s1 f2 sh) (own_sb (f2 (1 : Int32)) sh)) (g2 (1 : Int32))) ((own_s2 f2 sh) (own_sb (f2 (2 : Int32)) sh)) (g2 (2 : Int32))) x))) (.int 0) := own_put (fun x => .int ((own_up (own_up (own_up g1 ((own_PF f2 sh) (own_sb (f2 (0 : Int32)) sh)) (g2 (0 : Int32))) ((own_s1 f2 sh) (own_sb (f2 (1 : Int32)) sh)) (g2 (1 : Int32))) ((own_s2 f2 sh) (own_sb (f2 (2 : Int32)) sh)) (g2 (2 : Int32))) x)) Ar247 q247 S247 M247 H247 G247 rfl W247 (own_place2 f2 sh) (congrArg Value.int (own_up_at _ _ _)) (fun x q => congrArg Value.int (own_up_ne _ _ q))
                have N247 := Fr.snoc X247 N242 gd
                refine OD.go st247 ?_
                refine OD.go (B := (T247.setTop (mkF m 161 #[.val (.ref a1), .val (.ref b5), .val (.ref b10), .val (.ref ca), .val (.ref da), .val (.int sh), .val (.ref kk), .val (.int 3), .val (.int ((own_s2 f2 sh) (own_sb (f2 (2 : Int32)) sh))), .val (.int 3), .val (.long (f2 (2 : Int32))), .second] [(.ref a1), (.int 3)]))) (fun t k => XS.iinc X247.here hx rfl (bd d14_204) rfl (l' := #[.val (.ref a1), .val (.ref b5), .val (.ref b10), .val (.ref ca), .val (.ref da), .val (.int sh), .val (.ref kk), .val (.int 3), .val (.int ((own_s2 f2 sh) (own_sb (f2 (2 : Int32)) sh))), .val (.int 3), .val (.long (f2 (2 : Int32))), .second]) rfl (XS.goto X247.here hx rfl (pc0 := 207) (pc' := 158) rfl (bd d14_207) (by decide) (by decide) (XS.iload X247.here hx rfl (bd d14_158) rfl (XS.aloadN X247.here hx rfl (bd d14_160) rfl rfl k)))) ?_
                have f248 := (((f228.other W237 (Or.inl nkk_a1)).other W242 (Or.inl nc)).other W247 (Or.inl nd))
                obtain ⟨T249, X249, e249, st249⟩ := getF X247 hx hZ hown (host := "") (Or.inl (Wd39 hw)) Via.refl e247 f248 (g := (mkF m 161 #[.val (.ref a1), .val (.ref b5), .val (.ref b10), .val (.ref ca), .val (.ref da), .val (.int sh), .val (.ref kk), .val (.int 3), .val (.int ((own_s2 f2 sh) (own_sb (f2 (2 : Int32)) sh))), .val (.int 3), .val (.long (f2 (2 : Int32))), .second] [(.ref a1), (.int 3)])) rfl rfl (bd d14_161)
                refine OD.go (B := (T249.setTop (mkF m 164 #[.val (.ref a1), .val (.ref b5), .val (.ref b10), .val (.ref ca), .val (.ref da), .val (.int sh), .val (.ref kk), .val (.int 3), .val (.int ((own_s2 f2 sh) (own_sb (f2 (2 : Int32)) sh))), .val (.int 3), .val (.long (f2 (2 : Int32))), .second] [(.ref da), (.int 3)]))) st249 ?_
                obtain ⟨cl250, Ar250, hl250⟩ := own_len V247
                refine OD.go (B := (T249.setTop (mkF m 165 #[.val (.ref a1), .val (.ref b5), .val (.ref b10), .val (.ref ca), .val (.ref da), .val (.int sh), .val (.ref kk), .val (.int 3), .val (.int ((own_s2 f2 sh) (own_sb (f2 (2 : Int32)) sh))), .val (.int 3), .val (.long (f2 (2 : Int32))), .second] [(.int 3), (.int 3)]))) (fun t k => X249.arraylength hx (by rw [e249]; exact Ar250.1) (State.isArrayOf_alike hZ.alike Ar250.2.1) (g := (mkF m 164 #[.val (.ref a1), .val (.ref b5), .val (.ref b10), .val (.ref ca), .val (.ref da), .val (.int sh), .val (.ref kk), .val (.int 3), .val (.int ((own_s2 f2 sh) (own_sb (f2 (2 : Int32)) sh))), .val (.int 3), .val (.long (f2 (2 : Int32))), .second] [(.ref da), (.int 3)])) rfl rfl (bd d14_164) _ (by rw [hl250]; exact k)) ?_
                refine OD.go (B := (T249.setTop (mkF m 227 #[.val (.ref a1), .val (.ref ca), .val (.ref b10), .val (.ref b5), .val (.ref b10), .val (.int sh), .val (.ref kk), .val (.ref ca), .val (.ref da), .val (.int 3), .val (.long (f2 (2 : Int32))), .second] [(.ref da)]))) (fun t k => XS.icmpYes X249.here hx rfl (pc0 := 165) (pc' := 210) rfl (bd d14_165) rfl (flt (by decide : ¬ (3 : Int32) < (3 : Int32))).2.1 (by decide) (by decide) (XS.aloadN X249.here hx rfl (bd d14_210) rfl rfl (XS.astore X249.here hx rfl (bd d14_211) rfl rfl (l' := #[.val (.ref a1), .val (.ref b5), .val (.ref b10), .val (.ref ca), .val (.ref da), .val (.int sh), .val (.ref kk), .val (.ref ca), .val (.int ((own_s2 f2 sh) (own_sb (f2 (2 : Int32)) sh))), .val (.int 3), .val (.long (f2 (2 : Int32))), .second]) rfl (XS.aload X249.here hx rfl (bd d14_213) rfl rfl (XS.astore X249.here hx rfl (bd d14_215) rfl rfl (l' := #[.val (.ref a1), .val (.ref b5), .val (.ref b10), .val (.ref ca), .val (.ref da), .val (.int sh), .val (.ref kk), .val (.ref ca), .val (.ref da), .val (.int 3), .val (.long (f2 (2 : Int32))), .second]) rfl (XS.aloadN X249.here hx rfl (bd d14_217) rfl rfl (XS.astoreN X249.here hx rfl (bd d14_218) rfl rfl (l' := #[.val (.ref a1), .val (.ref b5), .val (.ref b10), .val (.ref b5), .val (.ref da), .val (.int sh), .val (.ref kk), .val (.ref ca), .val (.ref da), .val (.int 3), .val (.long (f2 (2 : Int32))), .second]) rfl (XS.aloadN X249.here hx rfl (bd d14_219) rfl rfl (XS.astore X249.here hx rfl (bd d14_220) rfl rfl (l' := #[.val (.ref a1), .val (.ref b5), .val (.ref b10), .val (.ref b5), .val (.ref b10), .val (.int sh), .val (.ref kk), .val (.ref ca), .val (.ref da), .val (.int 3), .val (.long (f2 (2 : Int32))), .second]) rfl (XS.aload X249.here hx rfl (bd d14_222) rfl rfl (XS.astoreN X249.here hx rfl (bd d14_224) rfl rfl (l' := #[.val (.ref a1), .val (.ref ca), .val (.ref b10), .val (.ref b5), .val (.ref b10), .val (.int sh), .val (.ref kk), .val (.ref ca), .val (.ref da), .val (.int 3), .val (.long (f2 (2 : Int32))), .second]) rfl (XS.aload X249.here hx rfl (bd d14_225) rfl rfl k)))))))))))) ?_
                refine OD.go (B := (T249.setTop (mkF m 30 #[.val (.ref a1), .val (.ref ca), .val (.ref da), .val (.ref b5), .val (.ref b10), .val (.int (sh + (8 : Int32))), .val (.ref kk), .val (.ref ca), .val (.ref da), .val (.int 3), .val (.long (f2 (2 : Int32))), .second] []))) (fun t k => XS.astoreN X249.here hx rfl (bd d14_227) rfl rfl (l' := #[.val (.ref a1), .val (.ref ca), .val (.ref da), .val (.ref b5), .val (.ref b10), .val (.int sh), .val (.ref kk), .val (.ref ca), .val (.ref da), .val (.int 3), .val (.long (f2 (2 : Int32))), .second]) rfl (XS.iinc X249.here hx rfl (bd d14_228) rfl (l' := #[.val (.ref a1), .val (.ref ca), .val (.ref da), .val (.ref b5), .val (.ref b10), .val (.int (sh + (8 : Int32))), .val (.ref kk), .val (.ref ca), .val (.ref da), .val (.int 3), .val (.long (f2 (2 : Int32))), .second]) rfl (XS.goto X249.here hx rfl (pc0 := 231) (pc' := 30) rfl (bd d14_231) (by decide) (by decide) k))) ?_
                exact ih _ _ _ _ _ _ _ _ _ _ _ _ _ _ _ _ _ _ _ _ X249 (by omega) (by omega) e249 N247 ((((((((((((((Kl.trans Km all0).wr W166 (Or.inr okk)).wr W172 (Or.inr okk)).wr W178 (Or.inr okk)).trans Kp (allS (Or.inr okk) all0)).wr W197 (Or.inr okk)).wr W202 (Or.inl (List.mem_of_getElem? (i := 0) rfl))).wr W207 (Or.inl (List.mem_of_getElem? (i := 1) rfl))).wr W217 (Or.inr okk)).wr W222 (Or.inl (List.mem_of_getElem? (i := 0) rfl))).wr W227 (Or.inl (List.mem_of_getElem? (i := 1) rfl))).wr W237 (Or.inr okk)).wr W242 (Or.inl (List.mem_of_getElem? (i := 0) rfl))).wr W247 (Or.inl (List.mem_of_getElem? (i := 1) rfl))) (V242.other W247 ncd) V247 ((f238.other W242 (Ne.symm ne2)).other W247 (Ne.symm ne4)) (f243.other W247 (Ne.symm ne5)) (Or.inl ⟨rfl, rfl, rfl, rfl⟩) (Or.inr (Or.inr ⟨_, _, _, _, rfl, rfl, rfl, rfl, rfl, rfl⟩)) (own_sh8 hsh)
              | succ fu ihp =>
                intro iv G Tp hp Lp Xp ep Np Kp Vp hiv hG
                have hc2 := own_ivL hiv
                have hinb0 := own_ivA hiv
                have hinb1 := own_ivB hiv
                refine OD.go (B := (Tp.setTop (mkF m 141 #[.val (.ref a1), .val (.ref b5), .val (.ref b10), .val (.ref ca), .val (.ref da), .val (.int sh), .val (.ref kk), .val (.int iv), .val (.int 3), .val (.int 3), .val (.long (f2 (2 : Int32))), .second] [(.int (iv + (1 : Int32))), (.ref kk), (.int (iv + (1 : Int32))), (.ref kk)]))) (fun t k => XS.iload Xp.here hx rfl (bd d14_126) rfl (XS.sipush Xp.here hx rfl (bd d14_128) (XS.icmpNo Xp.here hx rfl (bd d14_131) rfl (tlt hc2).2.1 (XS.aload Xp.here hx rfl (bd d14_134) rfl rfl (XS.iload Xp.here hx rfl (bd d14_136) rfl (XS.iconst Xp.here hx rfl (bd d14_138) (XS.iadd Xp.here hx rfl (bd d14_139) rfl (XT.dup2 Xp.here hx rfl (bd d14_140) rfl rfl rfl k)))))))) ?_
                obtain ⟨cl251, Ar251, hi251, ha251⟩ := own_at Vp (j := (iv + (1 : Int32))) (v := (.int (G (iv + (1 : Int32))))) hinb1 (own_rg_at hinb1 _ _)
                refine OD.go (B := (Tp.setTop (mkF m 146 #[.val (.ref a1), .val (.ref b5), .val (.ref b10), .val (.ref ca), .val (.ref da), .val (.int sh), .val (.ref kk), .val (.int iv), .val (.int 3), .val (.int 3), .val (.long (f2 (2 : Int32))), .second] [(.int iv), (.ref kk), (.int (G (iv + (1 : Int32)))), (.int (iv + (1 : Int32))), (.ref kk)]))) (fun t k => Xp.iaload hx (j := (iv + (1 : Int32))) (v := (.int (G (iv + (1 : Int32))))) (by rw [ep]; exact Ar251.1) (State.isArrayOf_alike hZ.alike Ar251.2.1) Ar251.2.2 hi251 ha251 (g := (mkF m 141 #[.val (.ref a1), .val (.ref b5), .val (.ref b10), .val (.ref ca), .val (.ref da), .val (.int sh), .val (.ref kk), .val (.int iv), .val (.int 3), .val (.int 3), .val (.long (f2 (2 : Int32))), .second] [(.int (iv + (1 : Int32))), (.ref kk), (.int (iv + (1 : Int32))), (.ref kk)])) rfl rfl (bd d14_141) _ (XS.aload Xp.here hx rfl (bd d14_142) rfl rfl (XS.iload Xp.here hx rfl (bd d14_144) rfl k))) ?_
                obtain ⟨cl252, Ar252, hi252, ha252⟩ := own_at Vp (j := iv) (v := (.int (G iv))) hinb0 (own_rg_at hinb0 _ _)
                refine OD.go (B := (Tp.setTop (mkF m 148 #[.val (.ref a1), .val (.ref b5), .val (.ref b10), .val (.ref ca), .val (.ref da), .val (.int sh), .val (.ref kk), .val (.int iv), .val (.int 3), .val (.int 3), .val (.long (f2 (2 : Int32))), .second] [(.int ((G (iv + (1 : Int32))) + (G iv))), (.int (iv + (1 : Int32))), (.ref kk)]))) (fun t k => Xp.iaload hx (j := iv) (v := (.int (G iv))) (by rw [ep]; exact Ar252.1) (State.isArrayOf_alike hZ.alike Ar252.2.1) Ar252.2.2 hi252 ha252 (g := (mkF m 146 #[.val (.ref a1), .val (.ref b5), .val (.ref b10), .val (.ref ca), .val (.ref da), .val (.int sh), .val (.ref kk), .val (.int iv), .val (.int 3), .val (.int 3), .val (.long (f2 (2 : Int32))), .second] [(.int iv), (.ref kk), (.int (G (iv + (1 : Int32)))), (.int (iv + (1 : Int32))), (.ref kk)])) rfl rfl (bd d14_146) _ (XS.iadd Xp.here hx rfl (bd d14_147) rfl k)) ?_
                obtain ⟨cl254, Ar254, q254, S254, M254, H254, G254⟩ := id Vp
                obtain ⟨T254, h254, X254, e254, W254, st254⟩ := stI Xp hx hZ ep Ar254 (j := (iv + (1 : Int32))) (inb_of S254 hinb1) (g := (mkF m 148 #[.val (.ref a1), .val (.ref b5), .val (.ref b10), .val (.ref ca), .val (.ref da), .val (.int sh), .val (.ref kk), .val (.int iv), .val (.int 3), .val (.int 3), .val (.long (f2 (2 : Int32))), .second] [(.int ((G (iv + (1 : Int32))) + (G iv))), (.int (iv + (1 : Int32))), (.ref kk)])) rfl rfl (bd d14_148)
                have V254 : Arv Z h254 kk kK .int 257 (own_rg (257 : Int32).toNatClampNeg (fun x => .int ((own_up G (iv + (1 : Int32)) ((G (iv + (1 : Int32))) + (G iv))) x))) (.int 0) := own_put (fun x => .int ((own_up G (iv + (1 : Int32)) ((G (iv + (1 : Int32))) + (G iv))) x)) Ar254 q254 S254 M254 H254 G254 rfl W254 hinb1 (congrArg Value.int (own_up_at _ _ _)) (fun x q => congrArg Value.int (own_up_ne _ _ q))
                have N254 := Fr.snoc X254 Np gkk
                refine OD.go st254 ?_
                refine OD.go (B := (T254.setTop (mkF m 126 #[.val (.ref a1), .val (.ref b5), .val (.ref b10), .val (.ref ca), .val (.ref da), .val (.int sh), .val (.ref kk), .val (.int (iv + (1 : Int32))), .val (.int 3), .val (.int 3), .val (.long (f2 (2 : Int32))), .second] []))) (fun t k => XS.iinc X254.here hx rfl (bd d14_149) rfl (l' := #[.val (.ref a1), .val (.ref b5), .val (.ref b10), .val (.ref ca), .val (.ref da), .val (.int sh), .val (.ref kk), .val (.int (iv + (1 : Int32))), .val (.int 3), .val (.int 3), .val (.long (f2 (2 : Int32))), .second]) rfl (XS.goto X254.here hx rfl (pc0 := 152) (pc' := 126) rfl (bd d14_152) (by decide) (by decide) k)) ?_
                exact ihp _ _ _ _ _ X254 e254 N254 (Kp.wr W254 (Or.inl (List.mem_of_getElem? (i := 0) rfl))) V254 (own_iv1 hiv) (by rw [own_pl] at hG; exact hG)
            exact pre 256 _ _ _ _ _ X184 e184 N181 (Keep.refl _ _) V178 (by decide) rfl
        rcases hfm with ⟨rfl, rfl, rfl, rfl, rfl, rfl⟩ | ⟨r6, r7, lv, rfl, rfl, rfl, rfl, rfl, rfl⟩ | ⟨r6, r7, r8, lv, rfl, rfl, rfl, rfl, rfl, rfl⟩
        · show OD _ _ _ _ _ _ _ (Tl.setTop (mkF m 30 #[.val (.ref a1), .val (.ref b5), .val (.ref b10), .val (.ref ca), .val (.ref da), .val (.int sh), .unset, .unset, .unset, .unset, .unset, .unset] []))
          refine OD.go (B := (Tl.setTop (mkF m 38 #[.val (.ref a1), .val (.ref b5), .val (.ref b10), .val (.ref ca), .val (.ref da), .val (.int sh), .unset, .unset, .unset, .unset, .unset, .unset] [(.ref a1)]))) (fun t k => XS.iload Xl.here hx rfl (bd d14_30) rfl (XS.bipush Xl.here hx rfl (bd d14_32) (XS.icmpNo Xl.here hx rfl (bd d14_34) rfl (tlt hc).2.1 (XS.aloadN Xl.here hx rfl (bd d14_37) rfl rfl k)))) ?_
          obtain ⟨T255, X255, e255, st255⟩ := getF Xl hx hZ hown (host := "") (Or.inl (Wd39 hw)) Via.refl el Fdl (g := (mkF m 38 #[.val (.ref a1), .val (.ref b5), .val (.ref b10), .val (.ref ca), .val (.ref da), .val (.int sh), .unset, .unset, .unset, .unset, .unset, .unset] [(.ref a1)])) rfl rfl (bd d14_38)
          refine OD.go (B := (T255.setTop (mkF m 41 #[.val (.ref a1), .val (.ref b5), .val (.ref b10), .val (.ref ca), .val (.ref da), .val (.int sh), .unset, .unset, .unset, .unset, .unset, .unset] [(.ref da)]))) st255 ?_
          obtain ⟨cl256, Ar256, hl256⟩ := own_len B2
          refine OD.go (B := (T255.setTop (mkF m 42 #[.val (.ref a1), .val (.ref b5), .val (.ref b10), .val (.ref ca), .val (.ref da), .val (.int sh), .unset, .unset, .unset, .unset, .unset, .unset] [(.int 3)]))) (fun t k => X255.arraylength hx (by rw [e255]; exact Ar256.1) (State.isArrayOf_alike hZ.alike Ar256.2.1) (g := (mkF m 41 #[.val (.ref a1), .val (.ref b5), .val (.ref b10), .val (.ref ca), .val (.ref da), .val (.int sh), .unset, .unset, .unset, .unset, .unset, .unset] [(.ref da)])) rfl rfl (bd d14_41) _ (by rw [hl256]; exact k)) ?_
          refine OD.go (B := (T255.setTop (mkF m 48 #[.val (.ref a1), .val (.ref b5), .val (.ref b10), .val (.ref ca), .val (.ref da), .val (.int sh), .unset, .unset, .unset, .unset, .unset, .unset] [(.int 257)]))) (fun t k => XS.ifNo X255.here hx rfl (bd d14_42) rfl (by rw [if0]; exact (tlt (by decide : (0 : Int32) < (3 : Int32))).2.2.2) (XS.sipush X255.here hx rfl (bd d14_45) k)) ?_
          obtain ⟨T257, h257, k257, X257, e257, E257, A257, st257⟩ := newP X255 hx hZ (aty := .int) (Wd0 hw) e255 (g := (mkF m 48 #[.val (.ref a1), .val (.ref b5), .val (.ref b10), .val (.ref ca), .val (.ref da), .val (.int sh), .unset, .unset, .unset, .unset, .unset, .unset] [(.int 257)])) rfl (bd d14_48) rfl (by decide) (cap := 257) (by decide) (by decide) (by show cn + 1 ≤ (10 : Nat); omega) (by show sn + 257 ≤ (2100 : Nat); omega)
          obtain ⟨b257, g257⟩ : ∃ z, z = hl.size := ⟨_, rfl⟩
          rw [← g257] at A257 st257
          have V257 : Arv Z h257 b257 k257 .int 257 (own_rg (257 : Int32).toNatClampNeg (fun x => .int (own_zero x))) (.int 0) := own_fill (Arv.new A257 (by decide))
          have gk257 : n0 ≤ b257 := Nat.le_trans Z0 (Nat.le_trans Kl.1 (Nat.le_of_eq g257.symm))
          have ok257 : h0.size ≤ b257 := Nat.le_trans Kl.1 (Nat.le_of_eq g257.symm)
          have nk257_ca : ca ≠ b257 := Nat.ne_of_lt (Nat.lt_of_lt_of_le B1.lt (Nat.le_of_eq g257.symm))
          have nk257_da : da ≠ b257 := Nat.ne_of_lt (Nat.lt_of_lt_of_le B2.lt (Nat.le_of_eq g257.symm))
          have nk257_b5 : b5 ≠ b257 := Nat.ne_of_lt (Nat.lt_of_lt_of_le B3.lt (Nat.le_of_eq g257.symm))
          have nk257_b10 : b10 ≠ b257 := Nat.ne_of_lt (Nat.lt_of_lt_of_le B4.lt (Nat.le_of_eq g257.symm))
          have nk257_a1 : a1 ≠ b257 := Nat.ne_of_lt (Nat.lt_of_lt_of_le Fdl.lt (Nat.le_of_eq g257.symm))
          refine OD.go st257 ?_
          refine OD.go (B := (T257.setTop (mkF m 57 #[.val (.ref a1), .val (.ref b5), .val (.ref b10), .val (.ref ca), .val (.ref da), .val (.int sh), .val (.ref b257), .val (.ref b5), .unset, .unset, .unset, .unset] [(.ref b5)]))) (fun t k => XS.astore X257.here hx rfl (bd d14_50) rfl rfl (l' := #[.val (.ref a1), .val (.ref b5), .val (.ref b10), .val (.ref ca), .val (.ref da), .val (.int sh), .val (.ref b257), .unset, .unset, .unset, .unset, .unset]) rfl (XS.aloadN X257.here hx rfl (bd d14_52) rfl rfl (XS.astore X257.here hx rfl (bd d14_53) rfl rfl (l' := #[.val (.ref a1), .val (.ref b5), .val (.ref b10), .val (.ref ca), .val (.ref da), .val (.int sh), .val (.ref b257), .val (.ref b5), .unset, .unset, .unset, .unset]) rfl (XS.aload X257.here hx rfl (bd d14_55) rfl rfl k)))) ?_
          have f258 := (B3.ext E257)
          obtain ⟨cl259, Ar259, hl259⟩ := own_len f258
          refine OD.go (B := (T257.setTop (mkF m 58 #[.val (.ref a1), .val (.ref b5), .val (.ref b10), .val (.ref ca), .val (.ref da), .val (.int sh), .val (.ref b257), .val (.ref b5), .unset, .unset, .unset, .unset] [(.int 3)]))) (fun t k => X257.arraylength hx (by rw [e257]; exact Ar259.1) (State.isArrayOf_alike hZ.alike Ar259.2.1) (g := (mkF m 57 #[.val (.ref a1), .val (.ref b5), .val (.ref b10), .val (.ref ca), .val (.ref da), .val (.int sh), .val (.ref b257), .val (.ref b5), .unset, .unset, .unset, .unset] [(.ref b5)])) rfl rfl (bd d14_57) _ (by rw [hl259]; exact k)) ?_
          refine OD.go (B := (T257.setTop (mkF m 74 #[.val (.ref a1), .val (.ref b5), .val (.ref b10), .val (.ref ca), .val (.ref da), .val (.int sh), .val (.ref b257), .val (.ref b5), .val (.int 3), .val (.int 0), .unset, .unset] [(.int 0), (.ref b5)]))) (fun t k => XS.istore X257.here hx rfl (bd d14_58) rfl (l' := #[.val (.ref a1), .val (.ref b5), .val (.ref b10), .val (.ref ca), .val (.ref da), .val (.int sh), .val (.ref b257), .val (.ref b5), .val (.int 3), .unset, .unset, .unset]) rfl (XS.iconst X257.here hx rfl (bd d14_60) (XS.istore X257.here hx rfl (bd d14_61) rfl (l' := #[.val (.ref a1), .val (.ref b5), .val (.ref b10), .val (.ref ca), .val (.ref da), .val (.int sh), .val (.ref b257), .val (.ref b5), .val (.int 3), .val (.int 0), .unset, .unset]) rfl (XS.iload X257.here hx rfl (bd d14_63) rfl (XS.iload X257.here hx rfl (bd d14_65) rfl (XS.icmpNo X257.here hx rfl (bd d14_67) rfl (tlt (by decide : (0 : Int32) < (3 : Int32))).2.1 (XS.aload X257.here hx rfl (bd d14_70) rfl rfl (XS.iload X257.here hx rfl (bd d14_72) rfl k)))))))) ?_
          obtain ⟨cl260, Ar260, hi260, ha260⟩ := own_at f258 (j := (0 : Int32)) (v := (.long (f2 (0 : Int32)))) ⟨by decide, by decide⟩ (own_rg_at ⟨by decide, by decide⟩ _ _)
          refine OD.go (B := (T257.setTop (mkF m 77 #[.val (.ref a1), .val (.ref b5), .val (.ref b10), .val (.ref ca), .val (.ref da), .val (.int sh), .val (.ref b257), .val (.ref b5), .val (.int 3), .val (.int 0), .val (.long (f2 (0 : Int32))), .second] []))) (fun t k => X257.laload hx (j := (0 : Int32)) (v := (.long (f2 (0 : Int32)))) (by rw [e257]; exact Ar260.1) (State.isArrayOf_alike hZ.alike Ar260.2.1) Ar260.2.2 hi260 ha260 (g := (mkF m 74 #[.val (.ref a1), .val (.ref b5), .val (.ref b10), .val (.ref ca), .val (.ref da), .val (.int sh), .val (.ref b257), .val (.ref b5), .val (.int 3), .val (.int 0), .unset, .unset] [(.int 0), (.ref b5)])) rfl rfl (bd d14_74) _ (XS.lstore X257.here hx rfl (bd d14_75) rfl (l' := #[.val (.ref a1), .val (.ref b5), .val (.ref b10), .val (.ref ca), .val (.ref da), .val (.int sh), .val (.ref b257), .val (.ref b5), .val (.int 3), .val (.int 0), .val (.long (f2 (0 : Int32))), .second]) rfl k)) ?_
          exact mid _ _ _ _ _ X257 e257 Nl ((Keep.refl _ []).ext E257) gk257 ok257 nk257_a1 nk257_ca nk257_da nk257_b5 nk257_b10 V257
        · show OD _ _ _ _ _ _ _ (Tl.setTop (mkF m 30 #[.val (.ref a1), .val (.ref b5), .val (.ref b10), .val (.ref ca), .val (.ref da), .val (.int sh), .val (.ref r6), .val (.ref r7), .val (.int 3), .val (.int 3), .val (.long lv), .second] []))
          refine OD.go (B := (Tl.setTop (mkF m 38 #[.val (.ref a1), .val (.ref b5), .val (.ref b10), .val (.ref ca), .val (.ref da), .val (.int sh), .val (.ref r6), .val (.ref r7), .val (.int 3), .val (.int 3), .val (.long lv), .second] [(.ref a1)]))) (fun t k => XS.iload Xl.here hx rfl (bd d14_30) rfl (XS.bipush Xl.here hx rfl (bd d14_32) (XS.icmpNo Xl.here hx rfl (bd d14_34) rfl (tlt hc).2.1 (XS.aloadN Xl.here hx rfl (bd d14_37) rfl rfl k)))) ?_
          obtain ⟨T261, X261, e261, st261⟩ := getF Xl hx hZ hown (host := "") (Or.inl (Wd39 hw)) Via.refl el Fdl (g := (mkF m 38 #[.val (.ref a1), .val (.ref b5), .val (.ref b10), .val (.ref ca), .val (.ref da), .val (.int sh), .val (.ref r6), .val (.ref r7), .val (.int 3), .val (.int 3), .val (.long lv), .second] [(.ref a1)])) rfl rfl (bd d14_38)
          refine OD.go (B := (T261.setTop (mkF m 41 #[.val (.ref a1), .val (.ref b5), .val (.ref b10), .val (.ref ca), .val (.ref da), .val (.int sh), .val (.ref r6), .val (.ref r7), .val (.int 3), .val (.int 3), .val (.long lv), .second] [(.ref da)]))) st261 ?_
          obtain ⟨cl262, Ar262, hl262⟩ := own_len B2
          refine OD.go (B := (T261.setTop (mkF m 42 #[.val (.ref a1), .val (.ref b5), .val (.ref b10), .val (.ref ca), .val (.ref da), .val (.int sh), .val (.ref r6), .val (.ref r7), .val (.int 3), .val (.int 3), .val (.long lv), .second] [(.int 3)]))) (fun t k => X261.arraylength hx (by rw [e261]; exact Ar262.1) (State.isArrayOf_alike hZ.alike Ar262.2.1) (g := (mkF m 41 #[.val (.ref a1), .val (.ref b5), .val (.ref b10), .val (.ref ca), .val (.ref da), .val (.int sh), .val (.ref r6), .val (.ref r7), .val (.int 3), .val (.int 3), .val (.long lv), .second] [(.ref da)])) rfl rfl (bd d14_41) _ (by rw [hl262]; exact k)) ?_
          refine OD.go (B := (T261.setTop (mkF m 48 #[.val (.ref a1), .val (.ref b5), .val (.ref b10), .val (.ref ca), .val (.ref da), .val (.int sh), .val (.ref r6), .val (.ref r7), .val (.int 3), .val (.int 3), .val (.long lv), .second] [(.int 257)]))) (fun t k => XS.ifNo X261.here hx rfl (bd d14_42) rfl (by rw [if0]; exact (tlt (by decide : (0 : Int32) < (3 : Int32))).2.2.2) (XS.sipush X261.here hx rfl (bd d14_45) k)) ?_
          obtain ⟨T263, h263, k263, X263, e263, E263, A263, st263⟩ := newP X261 hx hZ (aty := .int) (Wd0 hw) e261 (g := (mkF m 48 #[.val (.ref a1), .val (.ref b5), .val (.ref b10), .val (.ref ca), .val (.ref da), .val (.int sh), .val (.ref r6), .val (.ref r7), .val (.int 3), .val (.int 3), .val (.long lv), .second] [(.int 257)])) rfl (bd d14_48) rfl (by decide) (cap := 257) (by decide) (by decide) (by show cn + 1 ≤ (10 : Nat); omega) (by show sn + 257 ≤ (2100 : Nat); omega)
          obtain ⟨b263, g263⟩ : ∃ z, z = hl.size := ⟨_, rfl⟩
          rw [← g263] at A263 st263
          have V263 : Arv Z h263 b263 k263 .int 257 (own_rg (257 : Int32).toNatClampNeg (fun x => .int (own_zero x))) (.int 0) := own_fill (Arv.new A263 (by decide))
          have gk263 : n0 ≤ b263 := Nat.le_trans Z0 (Nat.le_trans Kl.1 (Nat.le_of_eq g263.symm))
          have ok263 : h0.size ≤ b263 := Nat.le_trans Kl.1 (Nat.le_of_eq g263.symm)
          have nk263_ca : ca ≠ b263 := Nat.ne_of_lt (Nat.lt_of_lt_of_le B1.lt (Nat.le_of_eq g263.symm))
          have nk263_da : da ≠ b263 := Nat.ne_of_lt (Nat.lt_of_lt_of_le B2.lt (Nat.le_of_eq g263.symm))
          have nk263_b5 : b5 ≠ b263 := Nat.ne_of_lt (Nat.lt_of_lt_of_le B3.lt (Nat.le_of_eq g263.symm))
          have nk263_b10 : b10 ≠ b263 := Nat.ne_of_lt (Nat.lt_of_lt_of_le B4.lt (Nat.le_of_eq g263.symm))
          have nk263_a1 : a1 ≠ b263 := Nat.ne_of_lt (Nat.lt_of_lt_of_le Fdl.lt (Nat.le_of_eq g263.symm))
          refine OD.go st263 ?_
          refine OD.go (B := (T263.setTop (mkF m 57 #[.val (.ref a1), .val (.ref b5), .val (.ref b10), .val (.ref ca), .val (.ref da), .val (.int sh), .val (.ref b263), .val (.ref b5), .val (.int 3), .val (.int 3), .val (.long lv), .second] [(.ref b5)]))) (fun t k => XS.astore X263.here hx rfl (bd d14_50) rfl rfl (l' := #[.val (.ref a1), .val (.ref b5), .val (.ref b10), .val (.ref ca), .val (.ref da), .val (.int sh), .val (.ref b263), .val (.ref r7), .val (.int 3), .val (.int 3), .val (.long lv), .second]) rfl (XS.aloadN X263.here hx rfl (bd d14_52) rfl rfl (XS.astore X263.here hx rfl (bd d14_53) rfl rfl (l' := #[.val (.ref a1), .val (.ref b5), .val (.ref b10), .val (.ref ca), .val (.ref da), .val (.int sh), .val (.ref b263), .val (.ref b5), .val (.int 3), .val (.int 3), .val (.long lv), .second]) rfl (XS.aload X263.here hx rfl (bd d14_55) rfl rfl k)))) ?_
          have f264 := (B3.ext E263)
          obtain ⟨cl265, Ar265, hl265⟩ := own_len f264
          refine OD.go (B := (T263.setTop (mkF m 58 #[.val (.ref a1), .val (.ref b5), .val (.ref b10), .val (.ref ca), .val (.ref da), .val (.int sh), .val (.ref b263), .val (.ref b5), .val (.int 3), .val (.int 3), .val (.long lv), .second] [(.int 3)]))) (fun t k => X263.arraylength hx (by rw [e263]; exact Ar265.1) (State.isArrayOf_alike hZ.alike Ar265.2.1) (g := (mkF m 57 #[.val (.ref a1), .val (.ref b5), .val (.ref b10), .val (.ref ca), .val (.ref da), .val (.int sh), .val (.ref b263), .val (.ref b5), .val (.int 3), .val (.int 3), .val (.long lv), .second] [(.ref b5)])) rfl rfl (bd d14_57) _ (by rw [hl265]; exact k)) ?_
          refine OD.go (B := (T263.setTop (mkF m 74 #[.val (.ref a1), .val (.ref b5), .val (.ref b10), .val (.ref ca), .val (.ref da), .val (.int sh), .val (.ref b263), .val (.ref b5), .val (.int 3), .val (.int 0), .val (.long lv), .second] [(.int 0), (.ref b5)]))) (fun t k => XS.istore X263.here hx rfl (bd d14_58) rfl (l' := #[.val (.ref a1), .val (.ref b5), .val (.ref b10), .val (.ref ca), .val (.ref da), .val (.int sh), .val (.ref b263), .val (.ref b5), .val (.int 3), .val (.int 3), .val (.long lv), .second]) rfl (XS.iconst X263.here hx rfl (bd d14_60) (XS.istore X263.here hx rfl (bd d14_61) rfl (l' := #[.val (.ref a1), .val (.ref b5), .val (.ref b10), .val (.ref ca), .val (.ref da), .val (.int sh), .val (.ref b263), .val (.ref b5), .val (.int 3), .val (.int 0), .val (.long lv), .second]) rfl (XS.iload X263.here hx rfl (bd d14_63) rfl (XS.iload X263.here hx rfl (bd d14_65) rfl (XS.icmpNo X263.here hx rfl (bd d14_67) rfl (tlt (by decide : (0 : Int32) < (3 : Int32))).2.1 (XS.aload X263.here hx rfl (bd d14_70) rfl rfl (XS.iload X263.here hx rfl (bd d14_72) rfl k)))))))) ?_
          obtain ⟨cl266, Ar266, hi266, ha266⟩ := own_at f264 (j := (0 : Int32)) (v := (.long (f2 (0 : Int32)))) ⟨by decide, by decide⟩ (own_rg_at ⟨by decide, by decide⟩ _ _)
          refine OD.go (B := (T263.setTop (mkF m 77 #[.val (.ref a1), .val (.ref b5), .val (.ref b10), .val (.ref ca), .val (.ref da), .val (.int sh), .val (.ref b263), .val (.ref b5), .val (.int 3), .val (.int 0), .val (.long (f2 (0 : Int32))), .second] []))) (fun t k => X263.laload hx (j := (0 : Int32)) (v := (.long (f2 (0 : Int32)))) (by rw [e263]; exact Ar266.1) (State.isArrayOf_alike hZ.alike Ar266.2.1) Ar266.2.2 hi266 ha266 (g := (mkF m 74 #[.val (.ref a1), .val (.ref b5), .val (.ref b10), .val (.ref ca), .val (.ref da), .val (.int sh), .val (.ref b263), .val (.ref b5), .val (.int 3), .val (.int 0), .val (.long lv), .second] [(.int 0), (.ref b5)])) rfl rfl (bd d14_74) _ (XS.lstore X263.here hx rfl (bd d14_75) rfl (l' := #[.val (.ref a1), .val (.ref b5), .val (.ref b10), .val (.ref ca), .val (.ref da), .val (.int sh), .val (.ref b263), .val (.ref b5), .val (.int 3), .val (.int 0), .val (.long (f2 (0 : Int32))), .second]) rfl k)) ?_
          exact mid _ _ _ _ _ X263 e263 Nl ((Keep.refl _ []).ext E263) gk263 ok263 nk263_a1 nk263_ca nk263_da nk263_b5 nk263_b10 V263
        · show OD _ _ _ _ _ _ _ (Tl.setTop (mkF m 30 #[.val (.ref a1), .val (.ref b5), .val (.ref b10), .val (.ref ca), .val (.ref da), .val (.int sh), .val (.ref r6), .val (.ref r7), .val (.ref r8), .val (.int 3), .val (.long lv), .second] []))
          refine OD.go (B := (Tl.setTop (mkF m 38 #[.val (.ref a1), .val (.ref b5), .val (.ref b10), .val (.ref ca), .val (.ref da), .val (.int sh), .val (.ref r6), .val (.ref r7), .val (.ref r8), .val (.int 3), .val (.long lv), .second] [(.ref a1)]))) (fun t k => XS.iload Xl.here hx rfl (bd d14_30) rfl (XS.bipush Xl.here hx rfl (bd d14_32) (XS.icmpNo Xl.here hx rfl (bd d14_34) rfl (tlt hc).2.1 (XS.aloadN Xl.here hx rfl (bd d14_37) rfl rfl k)))) ?_
          obtain ⟨T267, X267, e267, st267⟩ := getF Xl hx hZ hown (host := "") (Or.inl (Wd39 hw)) Via.refl el Fdl (g := (mkF m 38 #[.val (.ref a1), .val (.ref b5), .val (.ref b10), .val (.ref ca), .val (.ref da), .val (.int sh), .val (.ref r6), .val (.ref r7), .val (.ref r8), .val (.int 3), .val (.long lv), .second] [(.ref a1)])) rfl rfl (bd d14_38)
          refine OD.go (B := (T267.setTop (mkF m 41 #[.val (.ref a1), .val (.ref b5), .val (.ref b10), .val (.ref ca), .val (.ref da), .val (.int sh), .val (.ref r6), .val (.ref r7), .val (.ref r8), .val (.int 3), .val (.long lv), .second] [(.ref da)]))) st267 ?_
          obtain ⟨cl268, Ar268, hl268⟩ := own_len B2
          refine OD.go (B := (T267.setTop (mkF m 42 #[.val (.ref a1), .val (.ref b5), .val (.ref b10), .val (.ref ca), .val (.ref da), .val (.int sh), .val (.ref r6), .val (.ref r7), .val (.ref r8), .val (.int 3), .val (.long lv), .second] [(.int 3)]))) (fun t k => X267.arraylength hx (by rw [e267]; exact Ar268.1) (State.isArrayOf_alike hZ.alike Ar268.2.1) (g := (mkF m 41 #[.val (.ref a1), .val (.ref b5), .val (.ref b10), .val (.ref ca), .val (.ref da), .val (.int sh), .val (.ref r6), .val (.ref r7), .val (.ref r8), .val (.int 3), .val (.long lv), .second] [(.ref da)])) rfl rfl (bd d14_41) _ (by rw [hl268]; exact k)) ?_
          refine OD.go (B := (T267.setTop (mkF m 48 #[.val (.ref a1), .val (.ref b5), .val (.ref b10), .val (.ref ca), .val (.ref da), .val (.int sh), .val (.ref r6), .val (.ref r7), .val (.ref r8), .val (.int 3), .val (.long lv), .second] [(.int 257)]))) (fun t k => XS.ifNo X267.here hx rfl (bd d14_42) rfl (by rw [if0]; exact (tlt (by decide : (0 : Int32) < (3 : Int32))).2.2.2) (XS.sipush X267.here hx rfl (bd d14_45) k)) ?_
          obtain ⟨T269, h269, k269, X269, e269, E269, A269, st269⟩ := newP X267 hx hZ (aty := .int) (Wd0 hw) e267 (g := (mkF m 48 #[.val (.ref a1), .val (.ref b5), .val (.ref b10), .val (.ref ca), .val (.ref da), .val (.int sh), .val (.ref r6), .val (.ref r7), .val (.ref r8), .val (.int 3), .val (.long lv), .second] [(.int 257)])) rfl (bd d14_48) rfl (by decide) (cap := 257) (by decide) (by decide) (by show cn + 1 ≤ (10 : Nat); omega) (by show sn + 257 ≤ (2100 : Nat); omega)
          obtain ⟨b269, g269⟩ : ∃ z, z = hl.size := ⟨_, rfl⟩
          rw [← g269] at A269 st269
          have V269 : Arv Z h269 b269 k269 .int 257 (own_rg (257 : Int32).toNatClampNeg (fun x => .int (own_zero x))) (.int 0) := own_fill (Arv.new A269 (by decide))
          have gk269 : n0 ≤ b269 := Nat.le_trans Z0 (Nat.le_trans Kl.1 (Nat.le_of_eq g269.symm))
          have ok269 : h0.size ≤ b269 := Nat.le_trans Kl.1 (Nat.le_of_eq g269.symm)
          have nk269_ca : ca ≠ b269 := Nat.ne_of_lt (Nat.lt_of_lt_of_le B1.lt (Nat.le_of_eq g269.symm))
          have nk269_da : da ≠ b269 := Nat.ne_of_lt (Nat.lt_of_lt_of_le B2.lt (Nat.le_of_eq g269.symm))
          have nk269_b5 : b5 ≠ b269 := Nat.ne_of_lt (Nat.lt_of_lt_of_le B3.lt (Nat.le_of_eq g269.symm))
          have nk269_b10 : b10 ≠ b269 := Nat.ne_of_lt (Nat.lt_of_lt_of_le B4.lt (Nat.le_of_eq g269.symm))
          have nk269_a1 : a1 ≠ b269 := Nat.ne_of_lt (Nat.lt_of_lt_of_le Fdl.lt (Nat.le_of_eq g269.symm))
          refine OD.go st269 ?_
          refine OD.go (B := (T269.setTop (mkF m 57 #[.val (.ref a1), .val (.ref b5), .val (.ref b10), .val (.ref ca), .val (.ref da), .val (.int sh), .val (.ref b269), .val (.ref b5), .val (.ref r8), .val (.int 3), .val (.long lv), .second] [(.ref b5)]))) (fun t k => XS.astore X269.here hx rfl (bd d14_50) rfl rfl (l' := #[.val (.ref a1), .val (.ref b5), .val (.ref b10), .val (.ref ca), .val (.ref da), .val (.int sh), .val (.ref b269), .val (.ref r7), .val (.ref r8), .val (.int 3), .val (.long lv), .second]) rfl (XS.aloadN X269.here hx rfl (bd d14_52) rfl rfl (XS.astore X269.here hx rfl (bd d14_53) rfl rfl (l' := #[.val (.ref a1), .val (.ref b5), .val (.ref b10), .val (.ref ca), .val (.ref da), .val (.int sh), .val (.ref b269), .val (.ref b5), .val (.ref r8), .val (.int 3), .val (.long lv), .second]) rfl (XS.aload X269.here hx rfl (bd d14_55) rfl rfl k)))) ?_
          have f270 := (B3.ext E269)
          obtain ⟨cl271, Ar271, hl271⟩ := own_len f270
          refine OD.go (B := (T269.setTop (mkF m 58 #[.val (.ref a1), .val (.ref b5), .val (.ref b10), .val (.ref ca), .val (.ref da), .val (.int sh), .val (.ref b269), .val (.ref b5), .val (.ref r8), .val (.int 3), .val (.long lv), .second] [(.int 3)]))) (fun t k => X269.arraylength hx (by rw [e269]; exact Ar271.1) (State.isArrayOf_alike hZ.alike Ar271.2.1) (g := (mkF m 57 #[.val (.ref a1), .val (.ref b5), .val (.ref b10), .val (.ref ca), .val (.ref da), .val (.int sh), .val (.ref b269), .val (.ref b5), .val (.ref r8), .val (.int 3), .val (.long lv), .second] [(.ref b5)])) rfl rfl (bd d14_57) _ (by rw [hl271]; exact k)) ?_
          refine OD.go (B := (T269.setTop (mkF m 74 #[.val (.ref a1), .val (.ref b5), .val (.ref b10), .val (.ref ca), .val (.ref da), .val (.int sh), .val (.ref b269), .val (.ref b5), .val (.int 3), .val (.int 0), .val (.long lv), .second] [(.int 0), (.ref b5)]))) (fun t k => XS.istore X269.here hx rfl (bd d14_58) rfl (l' := #[.val (.ref a1), .val (.ref b5), .val (.ref b10), .val (.ref ca), .val (.ref da), .val (.int sh), .val (.ref b269), .val (.ref b5), .val (.int 3), .val (.int 3), .val (.long lv), .second]) rfl (XS.iconst X269.here hx rfl (bd d14_60) (XS.istore X269.here hx rfl (bd d14_61) rfl (l' := #[.val (.ref a1), .val (.ref b5), .val (.ref b10), .val (.ref ca), .val (.ref da), .val (.int sh), .val (.ref b269), .val (.ref b5), .val (.int 3), .val (.int 0), .val (.long lv), .second]) rfl (XS.iload X269.here hx rfl (bd d14_63) rfl (XS.iload X269.here hx rfl (bd d14_65) rfl (XS.icmpNo X269.here hx rfl (bd d14_67) rfl (tlt (by decide : (0 : Int32) < (3 : Int32))).2.1 (XS.aload X269.here hx rfl (bd d14_70) rfl rfl (XS.iload X269.here hx rfl (bd d14_72) rfl k)))))))) ?_
          obtain ⟨cl272, Ar272, hi272, ha272⟩ := own_at f270 (j := (0 : Int32)) (v := (.long (f2 (0 : Int32)))) ⟨by decide, by decide⟩ (own_rg_at ⟨by decide, by decide⟩ _ _)
          refine OD.go (B := (T269.setTop (mkF m 77 #[.val (.ref a1), .val (.ref b5), .val (.ref b10), .val (.ref ca), .val (.ref da), .val (.int sh), .val (.ref b269), .val (.ref b5), .val (.int 3), .val (.int 0), .val (.long (f2 (0 : Int32))), .second] []))) (fun t k => X269.laload hx (j := (0 : Int32)) (v := (.long (f2 (0 : Int32)))) (by rw [e269]; exact Ar272.1) (State.isArrayOf_alike hZ.alike Ar272.2.1) Ar272.2.2 hi272 ha272 (g := (mkF m 74 #[.val (.ref a1), .val (.ref b5), .val (.ref b10), .val (.ref ca), .val (.ref da), .val (.int sh), .val (.ref b269), .val (.ref b5), .val (.int 3), .val (.int 0), .val (.long lv), .second] [(.int 0), (.ref b5)])) rfl rfl (bd d14_74) _ (XS.lstore X269.here hx rfl (bd d14_75) rfl (l' := #[.val (.ref a1), .val (.ref b5), .val (.ref b10), .val (.ref ca), .val (.ref da), .val (.int sh), .val (.ref b269), .val (.ref b5), .val (.int 3), .val (.int 0), .val (.long (f2 (0 : Int32))), .second]) rfl k)) ?_
          exact mid _ _ _ _ _ X269 e269 Nl ((Keep.refl _ []).ext E269) gk269 ok269 nk269_a1 nk269_ca nk269_da nk269_b5 nk269_b10 V269
  exact loop 8 _ _ _ _ _ _ _ _ _ _ _ _ _ _ _ _ _ _ _ _ X10 (by decide) (by decide) e10 N0 (((Keep.refl h0 [ca, da]).ext E5).ext E10) ((Ac.ext E5).ext E10) (f8.ext E10) z_b5 z_b10 (Or.inl ⟨rfl, rfl, rfl, rfl⟩) (Or.inl ⟨rfl, rfl, rfl, rfl, rfl, rfl⟩) (by decide)
def Q_rmBo (Z : State) (a1 : Addr) (h0 : Heap) (n0 : Nat) (ba : Addr) (v : Option Value) (h : Heap) (L : List Loc) : Prop := v = none ∧ Fr n0 L ∧ Keep h0 h [ba]
set_option maxRecDepth 65536 in
set_option maxHeartbeats 40000000 in
theorem rmBo (l : Launch) (Z : State) (a0 : Array Value) (hw : HW a0 Z) (ws : List Jvm.Cond) (a1 : Addr) (h0 : Heap) (n0 : Nat) (Z0 : n0 ≤ h0.size) (ca ba : Addr) (kc kb : ClassId) (f : Int32 → Int64) (Fdimensions : Fld Z h0 a1 zZ0 "dimensions" "I" (.int 1)) (Fbounds : Fld Z h0 a1 zZ0 "bounds" "[J" (.ref ba)) (Fcoordinates : Fld Z h0 a1 zZ0 "coordinates" "[J" (.ref ca)) (Ac : Arv Z h0 ca kc .long (3 : Int32) (own_rg (3 : Int32).toNatClampNeg (fun x => .long (f x))) (.long (0 : Int64))) (Ab : Arv Z h0 ba kb .long (4 : Int32) [(.long (0 : Int64)), (.long (0 : Int64)), (.long (0 : Int64)), (.long (0 : Int64))] (.long (0 : Int64))) (gb : n0 ≤ ba) (nb : a1 ≠ ba) (ncb : ca ≠ ba) :
    MetFree l (⟨zZ0, "bound", "(III)V"⟩ : MethodName) (head1 (Jvm.Cond.code (⟨zZ0, "bound", "(III)V"⟩ : MethodName) kQ16 12 none :: ws) (rO 0 0 0 0)) (fun a U => a = #[(.ref a1), (.int 1), (.int 0), (.int 3)] ∧ Z.Warmed39 U.vm ∧ U.heap = h0) (fun _ _ _ _ _ => True) (fun _ U o U' => ∃ v L, o = .returned v ∧ Q_rmBo Z a1 h0 n0 ba v U'.heap L ∧ FrameEnd U o U' L (rO 0 0 0 0).cells (rO 0 0 0 0).slots) := by
  refine MetFree.of_bodySF (plainFor_of_name pn1) hisR ?_
  intro p e s m args below meth c s₁ Bd hml0 hP hK
  obtain ⟨rfl, hZ, hh⟩ := hP
  have hx := Bd.exec
  have hby := Bd.bytes
  have bd : ∀ {pc r}, decode kQ16 pc = r → decode c.code pc = r := fun q => hb hby q
  have hlk : meth.locks = false := Bd.notSynchronized
  have hml : c.maxLocals = 12 := hml0
  have hown : s.vm.findClass zZ0 = some m.cls := findClass_of_methodNamed Bd.named
  have hnm := (name_of_methodNamed Bd.named Bd.method).1
  have X0 : Stand p l e (rO 0 0 0 0) s m #[(.ref a1), (.int 1), (.int 0), (.int 3)] below meth c s₁ [] 0 0 := Stand.of_body Bd
  have e0 : s₁.heap = h0 := by rw [← hh, Bd.state]; rfl
  have N0 := Fr.nil n0
  suffices hgo : OD p e s below (Q_rmBo Z a1 h0 n0 ba) (rO 0 0 0 0).cells (rO 0 0 0 0).slots (s₁.setTop (mkF m 0 #[.val (.ref a1), .val (.int 1), .val (.int 0), .val (.int 3), .unset, .unset, .unset, .unset, .unset, .unset, .unset, .unset] [])) by
    obtain ⟨s₂, o, hgo1, hgo2⟩ := hgo
    exact ⟨s₂, o, castTop (ef11 m a1 (1 : Int32) (0 : Int32) (3 : Int32)) hgo1, hgo2⟩
  refine OD.go (B := (s₁.setTop (mkF m 1 #[.val (.ref a1), .val (.int 1), .val (.int 0), .val (.int 3), .unset, .unset, .unset, .unset, .unset, .unset, .unset, .unset] [(.ref a1)]))) (fun t k => XS.aloadN X0.here hx rfl (bd d17_0) rfl rfl k) ?_
  obtain ⟨T1, X1, e1, st1⟩ := getF X0 hx hZ hown (host := "") (Or.inl (Wd37 hw)) Via.refl e0 Fdimensions (g := (mkF m 1 #[.val (.ref a1), .val (.int 1), .val (.int 0), .val (.int 3), .unset, .unset, .unset, .unset, .unset, .unset, .unset, .unset] [(.ref a1)])) rfl rfl (bd d17_1)
  refine OD.go st1 ?_
  refine OD.go (B := (T1.setTop (mkF m 9 #[.val (.ref a1), .val (.int 1), .val (.int 0), .val (.int 3), .unset, .unset, .unset, .unset, .unset, .unset, .unset, .unset] [(.ref a1)]))) (fun t k => XS.iconst X1.here hx rfl (bd d17_4) (XS.icmpNo X1.here hx rfl (bd d17_5) rfl (teq (by decide : (1 : Int32) = (1 : Int32))).2 (XS.aloadN X1.here hx rfl (bd d17_8) rfl rfl k))) ?_
  obtain ⟨T2, X2, e2, st2⟩ := getF X1 hx hZ hown (host := "") (Or.inl (Wd52 hw)) Via.refl e1 Fbounds (g := (mkF m 9 #[.val (.ref a1), .val (.int 1), .val (.int 0), .val (.int 3), .unset, .unset, .unset, .unset, .unset, .unset, .unset, .unset] [(.ref a1)])) rfl rfl (bd d17_9)
  refine OD.go st2 ?_
  refine OD.go (B := (T2.setTop (mkF m 16 #[.val (.ref a1), .val (.int 1), .val (.int 0), .val (.int 3), .unset, .unset, .unset, .unset, .unset, .unset, .unset, .unset] [(.ref a1), (.int 2), (.ref ba)]))) (fun t k => XS.iconst X2.here hx rfl (bd d17_12) (XS.iloadN X2.here hx rfl (bd d17_13) rfl (XS.imul X2.here hx rfl (bd d17_14) rfl (XS.aloadN X2.here hx rfl (bd d17_15) rfl rfl k)))) ?_
  obtain ⟨T3, X3, e3, st3⟩ := getF X2 hx hZ hown (host := "") (Or.inl (Wd41 hw)) Via.refl e2 Fcoordinates (g := (mkF m 16 #[.val (.ref a1), .val (.int 1), .val (.int 0), .val (.int 3), .unset, .unset, .unset, .unset, .unset, .unset, .unset, .unset] [(.ref a1), (.int 2), (.ref ba)])) rfl rfl (bd d17_16)
  refine OD.go st3 ?_
  refine OD.go (B := (T3.setTop (mkF m 20 #[.val (.ref a1), .val (.int 1), .val (.int 0), .val (.int 3), .unset, .unset, .unset, .unset, .unset, .unset, .unset, .unset] [(.int 0), (.ref ca), (.int 2), (.ref ba)]))) (fun t k => XS.iloadN X3.here hx rfl (bd d17_19) rfl k) ?_
  obtain ⟨cl4, Ar4, hi4, ha4⟩ := own_at Ac (j := (0 : Int32)) (v := (.long (f (0 : Int32)))) ⟨by decide, by decide⟩ (own_rg_at ⟨by decide, by decide⟩ _ _)
  refine OD.go (B := (T3.setTop (mkF m 21 #[.val (.ref a1), .val (.int 1), .val (.int 0), .val (.int 3), .unset, .unset, .unset, .unset, .unset, .unset, .unset, .unset] [(.long (f (0 : Int32))), (.int 2), (.ref ba)]))) (fun t k => X3.laload hx (j := (0 : Int32)) (v := (.long (f (0 : Int32)))) (by rw [e3]; exact Ar4.1) (State.isArrayOf_alike hZ.alike Ar4.2.1) Ar4.2.2 hi4 ha4 (g := (mkF m 20 #[.val (.ref a1), .val (.int 1), .val (.int 0), .val (.int 3), .unset, .unset, .unset, .unset, .unset, .unset, .unset, .unset] [(.int 0), (.ref ca), (.int 2), (.ref ba)])) rfl rfl (bd d17_20) _ k) ?_
  obtain ⟨cl5, Ar5, q5, S5, M5, H5, G5⟩ := id Ab
  obtain ⟨T5, h5, X5, e5, W5, st5⟩ := stJ X3 hx hZ e3 Ar5 (j := (2 : Int32)) (inb_of S5 ⟨by decide, by decide⟩) (g := (mkF m 21 #[.val (.ref a1), .val (.int 1), .val (.int 0), .val (.int 3), .unset, .unset, .unset, .unset, .unset, .unset, .unset, .unset] [(.long (f (0 : Int32))), (.int 2), (.ref ba)])) rfl rfl (bd d17_21)
  have V5 : Arv Z h5 ba kb .long (4 : Int32) [(.long (0 : Int64)), (.long (0 : Int64)), (.long (f (0 : Int32))), (.long (0 : Int64))] (.long (0 : Int64)) := Arv.set Ar5 q5 S5 M5 H5 G5 rfl W5 2 rfl (nl rfl)
  have N5 := Fr.snoc X5 N0 gb
  refine OD.go st5 ?_
  refine OD.go (B := (T5.setTop (mkF m 23 #[.val (.ref a1), .val (.int 1), .val (.int 0), .val (.int 3), .unset, .unset, .unset, .unset, .unset, .unset, .unset, .unset] [(.ref a1)]))) (fun t k => XS.aloadN X5.here hx rfl (bd d17_22) rfl rfl k) ?_
  have f6 := (Fbounds.other W5 (Or.inl nb))
  obtain ⟨T7, X7, e7, st7⟩ := getF X5 hx hZ hown (host := "") (Or.inl (Wd52 hw)) Via.refl e5 f6 (g := (mkF m 23 #[.val (.ref a1), .val (.int 1), .val (.int 0), .val (.int 3), .unset, .unset, .unset, .unset, .unset, .unset, .unset, .unset] [(.ref a1)])) rfl rfl (bd d17_23)
  refine OD.go st7 ?_
  refine OD.go (B := (T7.setTop (mkF m 32 #[.val (.ref a1), .val (.int 1), .val (.int 0), .val (.int 3), .unset, .unset, .unset, .unset, .unset, .unset, .unset, .unset] [(.ref a1), (.int 3), (.ref ba)]))) (fun t k => XS.iconst X7.here hx rfl (bd d17_26) (XS.iloadN X7.here hx rfl (bd d17_27) rfl (XS.imul X7.here hx rfl (bd d17_28) rfl (XS.iconst X7.here hx rfl (bd d17_29) (XS.iadd X7.here hx rfl (bd d17_30) rfl (XS.aloadN X7.here hx rfl (bd d17_31) rfl rfl k)))))) ?_
  have f8 := (Fcoordinates.other W5 (Or.inl nb))
  obtain ⟨T9, X9, e9, st9⟩ := getF X7 hx hZ hown (host := "") (Or.inl (Wd41 hw)) Via.refl e7 f8 (g := (mkF m 32 #[.val (.ref a1), .val (.int 1), .val (.int 0), .val (.int 3), .unset, .unset, .unset, .unset, .unset, .unset, .unset, .unset] [(.ref a1), (.int 3), (.ref ba)])) rfl rfl (bd d17_32)
  refine OD.go st9 ?_
  refine OD.go (B := (T9.setTop (mkF m 38 #[.val (.ref a1), .val (.int 1), .val (.int 0), .val (.int 3), .unset, .unset, .unset, .unset, .unset, .unset, .unset, .unset] [(.int 2), (.ref ca), (.int 3), (.ref ba)]))) (fun t k => XS.iloadN X9.here hx rfl (bd d17_35) rfl (XS.iconst X9.here hx rfl (bd d17_36) (XS.isub X9.here hx rfl (bd d17_37) rfl k))) ?_
  have f10 := (Ac.other W5 ncb)
  obtain ⟨cl11, Ar11, hi11, ha11⟩ := own_at f10 (j := (2 : Int32)) (v := (.long (f (2 : Int32)))) ⟨by decide, by decide⟩ (own_rg_at ⟨by decide, by decide⟩ _ _)
  refine OD.go (B := (T9.setTop (mkF m 39 #[.val (.ref a1), .val (.int 1), .val (.int 0), .val (.int 3), .unset, .unset, .unset, .unset, .unset, .unset, .unset, .unset] [(.long (f (2 : Int32))), (.int 3), (.ref ba)]))) (fun t k => X9.laload hx (j := (2 : Int32)) (v := (.long (f (2 : Int32)))) (by rw [e9]; exact Ar11.1) (State.isArrayOf_alike hZ.alike Ar11.2.1) Ar11.2.2 hi11 ha11 (g := (mkF m 38 #[.val (.ref a1), .val (.int 1), .val (.int 0), .val (.int 3), .unset, .unset, .unset, .unset, .unset, .unset, .unset, .unset] [(.int 2), (.ref ca), (.int 3), (.ref ba)])) rfl rfl (bd d17_38) _ k) ?_
  obtain ⟨cl12, Ar12, q12, S12, M12, H12, G12⟩ := id V5
  obtain ⟨T12, h12, X12, e12, W12, st12⟩ := stJ X9 hx hZ e9 Ar12 (j := (3 : Int32)) (inb_of S12 ⟨by decide, by decide⟩) (g := (mkF m 39 #[.val (.ref a1), .val (.int 1), .val (.int 0), .val (.int 3), .unset, .unset, .unset, .unset, .unset, .unset, .unset, .unset] [(.long (f (2 : Int32))), (.int 3), (.ref ba)])) rfl rfl (bd d17_39)
  have V12 : Arv Z h12 ba kb .long (4 : Int32) [(.long (0 : Int64)), (.long (0 : Int64)), (.long (f (0 : Int32))), (.long (f (2 : Int32)))] (.long (0 : Int64)) := Arv.set Ar12 q12 S12 M12 H12 G12 rfl W12 3 rfl (nl rfl)
  have N12 := Fr.snoc X12 N5 gb
  refine OD.go (B := (T12.setTop (mkF m 40 #[.val (.ref a1), .val (.int 1), .val (.int 0), .val (.int 3), .unset, .unset, .unset, .unset, .unset, .unset, .unset, .unset] []))) st12 ?_
  exact OD.retV X12 hx hlk Bd.returns (bd d17_40) (nl rfl) (nl rfl) ⟨rfl, N12, by rw [e12]; exact (((Keep.refl h0 [ba]).wr W5 (Or.inl (List.mem_of_getElem? (i := 0) rfl))).wr W12 (Or.inl (List.mem_of_getElem? (i := 0) rfl)))⟩
def Q_rmSP (Z : State) (a1 : Addr) (h0 : Heap) (n0 : Nat) (ba : Addr) (lb : Addr) (v : Option Value) (h : Heap) (L : List Loc) : Prop := ∃ m, v = some (.int m) ∧ Fr n0 L ∧ Keep h0 h [ba, lb]
set_option maxRecDepth 65536 in
set_option maxHeartbeats 40000000 in
theorem rmSP (l : Launch) (Z : State) (a0 : Array Value) (hw : HW a0 Z) (ws : List Jvm.Cond) (a1 : Addr) (h0 : Heap) (n0 : Nat) (Z0 : n0 ≤ h0.size) (ca ba : Addr) (kc kb : ClassId) (f : Int32 → Int64) (Fdimensions : Fld Z h0 a1 zZ0 "dimensions" "I" (.int 1)) (Fbounds : Fld Z h0 a1 zZ0 "bounds" "[J" (.ref ba)) (Fcoordinates : Fld Z h0 a1 zZ0 "coordinates" "[J" (.ref ca)) (Ac : Arv Z h0 ca kc .long (3 : Int32) (own_rg (3 : Int32).toNatClampNeg (fun x => .long (f x))) (.long (0 : Int64))) (Ab : Arv Z h0 ba kb .long (4 : Int32) [(.long (0 : Int64)), (.long (0 : Int64)), (.long (0 : Int64)), (.long (0 : Int64))] (.long (0 : Int64))) (gb : n0 ≤ ba) (nb : a1 ≠ ba) (ncb : ca ≠ ba) (da lb : Addr) (kd kl : ClassId) (g : Int32 → Int32) (Fdocs : Fld Z h0 a1 zZ0 "docs" "[I" (.ref da)) (FleastDocs : Fld Z h0 a1 zZ0 "leastDocs" "[I" (.ref lb)) (FleafLevel : Fld Z h0 a1 zZ0 "leafLevel" "I" (.int 0)) (Ad : Arv Z h0 da kd .int 3 (own_rg (3 : Int32).toNatClampNeg (fun x => .int (g x))) (.int 0)) (Al : Arv Z h0 lb kl .int 2 [(.int 0), (.int 0)] (.int 0)) (gl : n0 ≤ lb) (nl_ : a1 ≠ lb) (ndb : da ≠ ba) (ndl : da ≠ lb) (nbl : ba ≠ lb) (E1 : Exa Z h0 a1 zZ0) :
    MetFree l (⟨zZ0, "split", "(IIII)I"⟩ : MethodName) (head1 (Jvm.Cond.code (⟨zZ0, "split", "(IIII)I"⟩ : MethodName) kQ17 7 (some .int) :: ws) (rO 1 0 0 25)) (fun a U => a = #[(.ref a1), (.int 1), (.int 0), (.int 3), (.int 0)] ∧ Z.Warmed39 U.vm ∧ U.heap = h0) (fun _ _ _ _ _ => True) (fun _ U o U' => ∃ v L, o = .returned v ∧ Q_rmSP Z a1 h0 n0 ba lb v U'.heap L ∧ FrameEnd U o U' L (rO 1 0 0 25).cells (rO 1 0 0 25).slots) := by
  refine MetFree.of_bodySF (plainFor_of_name pn1) hisR ?_
  intro p e s m args below meth c s₁ Bd hml0 hP hK
  obtain ⟨rfl, hZ, hh⟩ := hP
  have hx := Bd.exec
  have hby := Bd.bytes
  have bd : ∀ {pc r}, decode kQ17 pc = r → decode c.code pc = r := fun q => hb hby q
  have hlk : meth.locks = false := Bd.notSynchronized
  have hml : c.maxLocals = 7 := hml0
  have hown : s.vm.findClass zZ0 = some m.cls := findClass_of_methodNamed Bd.named
  have hnm := (name_of_methodNamed Bd.named Bd.method).1
  have X0 : Stand p l e (rO 1 0 0 25) s m #[(.ref a1), (.int 1), (.int 0), (.int 3), (.int 0)] below meth c s₁ [] 0 0 := Stand.of_body Bd
  have e0 : s₁.heap = h0 := by rw [← hh, Bd.state]; rfl
  have N0 := Fr.nil n0
  suffices hgo : OD p e s below (Q_rmSP Z a1 h0 n0 ba lb) (rO 1 0 0 25).cells (rO 1 0 0 25).slots (s₁.setTop (mkF m 0 #[.val (.ref a1), .val (.int 1), .val (.int 0), .val (.int 3), .val (.int 0), .unset, .unset] [])) by
    obtain ⟨s₂, o, hgo1, hgo2⟩ := hgo
    exact ⟨s₂, o, castTop (ef12 m a1 (1 : Int32) (0 : Int32) (3 : Int32) (0 : Int32)) hgo1, hgo2⟩
  refine OD.go (B := (s₁.setTop (mkF m 4 #[.val (.ref a1), .val (.int 1), .val (.int 0), .val (.int 3), .val (.int 0), .unset, .unset] [(.int 3), (.int 0), (.int 1), (.ref a1)]))) (fun t k => XS.aloadN X0.here hx rfl (bd d16_0) rfl rfl (XS.iloadN X0.here hx rfl (bd d16_1) rfl (XS.iloadN X0.here hx rfl (bd d16_2) rfl (XS.iloadN X0.here hx rfl (bd d16_3) rfl k)))) ?_
  obtain ⟨cq1, qa1, qb1⟩ := E1.cell
  obtain ⟨_, _, ⟨T1, L1, k1, n1⟩, -, X1, ⟨Lc1, hQ1, l1, y1, z1⟩, st1⟩ := X0.privateBack hx (y := (⟨zZ0, "bound", "(III)V"⟩ : MethodName)) hown (mvT hZ (Wd105 hw)) (mvT hZ (Wd106 hw)) (mvT hZ (own_selP (Wd3 hw) (Wd107 hw) (Wd106 hw) (by decide))) (Cond.privateMethod_at (mvP hZ (Wd107 hw) (args := #[]))) (mvT hZ (Wd108 hw)) (by decide) (backOf (W := 0) (rmBo l Z a0 hw [] a1 h0 n0 Z0 ca ba kc kb f Fdimensions Fbounds Fcoordinates Ac Ab gb nb ncb) hZ (Wd108 hw) (Wd4 hw) (by decide) (by decide)) (g := (mkF m 4 #[.val (.ref a1), .val (.int 1), .val (.int 0), .val (.int 3), .val (.int 0), .unset, .unset] [(.int 3), (.int 0), (.int 1), (.ref a1)])) rfl (by rw [hml]; rfl) (Steps.refl _) (a := a1) (by rw [e0]; exact qa1) qb1 (argsL := [(.int 1), (.int 0), (.int 3)]) (rest := []) (lenOf pd5 rfl) rfl (by show 2 * 0 + _ ≤ _; exact Nat.le_of_eq rfl) (bd d16_4) (fun _ _ => ⟨rfl, e0, (nl rfl), (nl rfl)⟩)
  dsimp only [Pt.U, Pt.locs, Pt.cells, Pt.slots] at X1 l1 y1 z1 st1 hQ1
  subst l1 y1 z1
  obtain ⟨rfl, Nq1, K1⟩ := hQ1
  have N1 := Fr.app N0 Nq1
  refine OD.via st1 ?_
  refine OD.go (B := (T1.setTop (mkF m 10 #[.val (.ref a1), .val (.int 1), .val (.int 0), .val (.int 3), .val (.int 0), .unset, .unset] [(.ref a1), (.int 0)]))) (fun t k => XS.iload X1.here hx rfl (bd d16_7) rfl (XS.aloadN X1.here hx rfl (bd d16_9) rfl rfl k)) ?_
  have f2 := (FleafLevel.keep K1 (ninS nb nin0))
  obtain ⟨T3, X3, e3, st3⟩ := getF X1 hx hZ hown (host := "") (Or.inl (Wd46 hw)) Via.refl rfl f2 (g := (mkF m 10 #[.val (.ref a1), .val (.int 1), .val (.int 0), .val (.int 3), .val (.int 0), .unset, .unset] [(.ref a1), (.int 0)])) rfl rfl (bd d16_10)
  refine OD.go st3 ?_
  refine OD.go (B := (T3.setTop (mkF m 32 #[.val (.ref a1), .val (.int 1), .val (.int 0), .val (.int 3), .val (.int 0), .val (.int 2147483647), .val (.int 0)] [(.ref a1), (.int 2147483647)]))) (fun t k => XS.icmpNo X3.here hx rfl (bd d16_13) rfl (teq (by decide : (0 : Int32) = (0 : Int32))).2 (X3.ldcInt hx hown (mv hZ (Wd109 hw)) (g := (mkF m 16 #[.val (.ref a1), .val (.int 1), .val (.int 0), .val (.int 3), .val (.int 0), .unset, .unset] [])) rfl (bd d16_16) _ (XS.istore X3.here hx rfl (bd d16_18) rfl (l' := #[.val (.ref a1), .val (.int 1), .val (.int 0), .val (.int 3), .val (.int 0), .val (.int 2147483647), .unset]) rfl (XS.iloadN X3.here hx rfl (bd d16_20) rfl (XS.istore X3.here hx rfl (bd d16_21) rfl (l' := #[.val (.ref a1), .val (.int 1), .val (.int 0), .val (.int 3), .val (.int 0), .val (.int 2147483647), .val (.int 0)]) rfl (XS.iload X3.here hx rfl (bd d16_23) rfl (XS.iloadN X3.here hx rfl (bd d16_25) rfl (XS.icmpNo X3.here hx rfl (bd d16_26) rfl (tlt (by decide : (0 : Int32) < (3 : Int32))).2.1 (XS.iload X3.here hx rfl (bd d16_29) rfl (XS.aloadN X3.here hx rfl (bd d16_31) rfl rfl k)))))))))) ?_
  have f4 := (Fdocs.keep K1 (ninS nb nin0))
  obtain ⟨T5, X5, e5, st5⟩ := getF X3 hx hZ hown (host := "") (Or.inl (Wd39 hw)) Via.refl e3 f4 (g := (mkF m 32 #[.val (.ref a1), .val (.int 1), .val (.int 0), .val (.int 3), .val (.int 0), .val (.int 2147483647), .val (.int 0)] [(.ref a1), (.int 2147483647)])) rfl rfl (bd d16_32)
  refine OD.go st5 ?_
  refine OD.go (B := (T5.setTop (mkF m 37 #[.val (.ref a1), .val (.int 1), .val (.int 0), .val (.int 3), .val (.int 0), .val (.int 2147483647), .val (.int 0)] [(.int 0), (.ref da), (.int 2147483647)]))) (fun t k => XS.iload X5.here hx rfl (bd d16_35) rfl k) ?_
  have f6 := (Ad.keep K1 (ninS ndb nin0))
  obtain ⟨cl7, Ar7, hi7, ha7⟩ := own_at f6 (j := (0 : Int32)) (v := (.int (g (0 : Int32)))) ⟨by decide, by decide⟩ (own_rg_at ⟨by decide, by decide⟩ _ _)
  refine OD.go (B := (T5.setTop (mkF m 38 #[.val (.ref a1), .val (.int 1), .val (.int 0), .val (.int 3), .val (.int 0), .val (.int 2147483647), .val (.int 0)] [(.int (g (0 : Int32))), (.int 2147483647)]))) (fun t k => X5.iaload hx (j := (0 : Int32)) (v := (.int (g (0 : Int32)))) (by rw [e5]; exact Ar7.1) (State.isArrayOf_alike hZ.alike Ar7.2.1) Ar7.2.2 hi7 ha7 (g := (mkF m 37 #[.val (.ref a1), .val (.int 1), .val (.int 0), .val (.int 3), .val (.int 0), .val (.int 2147483647), .val (.int 0)] [(.int 0), (.ref da), (.int 2147483647)])) rfl rfl (bd d16_37) _ k) ?_
  obtain ⟨_, _, ⟨T8, L8, k8, n8⟩, -, X8, ⟨Lc8, hQ8, l8, y8, z8⟩, st8⟩ := Jvm.LawKit.callS X5 hx (y := (⟨"java/lang/Math", "min", "(II)I"⟩ : MethodName)) hown (mvT hZ (Wd110 hw)) (mvT hZ (Wd111 hw)) (mvT hZ (Wd50 hw)) (mvT hZ (Wd112 hw)) (by decide) (backOf (W := 0) (rmMn l Z a0 hw [] (2147483647 : Int32) (g (0 : Int32)) T1.heap) hZ (Wd112 hw) (Wd50 hw) (by decide) (by decide)) (g := (mkF m 38 #[.val (.ref a1), .val (.int 1), .val (.int 0), .val (.int 3), .val (.int 0), .val (.int 2147483647), .val (.int 0)] [(.int (g (0 : Int32))), (.int 2147483647)])) rfl (by rw [hml]; rfl) (argsL := [(.int 2147483647), (.int (g (0 : Int32)))]) (rest := []) (lenOf pd6 rfl) rfl (by show 2 * 0 + _ ≤ _; exact Nat.le_of_eq rfl) (bd d16_38) (fun _ _ => ⟨rfl, e5, (nl rfl), (nl rfl)⟩)
  dsimp only [Pt.U, Pt.locs, Pt.cells, Pt.slots] at X8 l8 y8 z8 st8 hQ8
  subst l8 y8 z8
  obtain ⟨rfl, rfl, e8⟩ := hQ8
  have N8 := Fr.app N1 (Fr.nil _)
  refine OD.go st8 ?_
  refine OD.go (B := (T8.setTop (mkF m 32 #[.val (.ref a1), .val (.int 1), .val (.int 0), .val (.int 3), .val (.int 0), .val (.int (own_imin (2147483647 : Int32) (g (0 : Int32)))), .val (.int 1)] [(.ref a1), (.int (own_imin (2147483647 : Int32) (g (0 : Int32))))]))) (fun t k => XS.istore X8.here hx rfl (bd d16_41) rfl (l' := #[.val (.ref a1), .val (.int 1), .val (.int 0), .val (.int 3), .val (.int 0), .val (.int (own_imin (2147483647 : Int32) (g (0 : Int32)))), .val (.int 0)]) rfl (XS.iinc X8.here hx rfl (bd d16_43) rfl (l' := #[.val (.ref a1), .val (.int 1), .val (.int 0), .val (.int 3), .val (.int 0), .val (.int (own_imin (2147483647 : Int32) (g (0 : Int32)))), .val (.int 1)]) rfl (XS.goto X8.here hx rfl (pc0 := 46) (pc' := 23) rfl (bd d16_46) (by decide) (by decide) (XS.iload X8.here hx rfl (bd d16_23) rfl (XS.iloadN X8.here hx rfl (bd d16_25) rfl (XS.icmpNo X8.here hx rfl (bd d16_26) rfl (tlt (by decide : (1 : Int32) < (3 : Int32))).2.1 (XS.iload X8.here hx rfl (bd d16_29) rfl (XS.aloadN X8.here hx rfl (bd d16_31) rfl rfl k)))))))) ?_
  obtain ⟨T9, X9, e9, st9⟩ := getF X8 hx hZ hown (host := "") (Or.inl (Wd39 hw)) Via.refl e8 f4 (g := (mkF m 32 #[.val (.ref a1), .val (.int 1), .val (.int 0), .val (.int 3), .val (.int 0), .val (.int (own_imin (2147483647 : Int32) (g (0 : Int32)))), .val (.int 1)] [(.ref a1), (.int (own_imin (2147483647 : Int32) (g (0 : Int32))))])) rfl rfl (bd d16_32)
  refine OD.go st9 ?_
  refine OD.go (B := (T9.setTop (mkF m 37 #[.val (.ref a1), .val (.int 1), .val (.int 0), .val (.int 3), .val (.int 0), .val (.int (own_imin (2147483647 : Int32) (g (0 : Int32)))), .val (.int 1)] [(.int 1), (.ref da), (.int (own_imin (2147483647 : Int32) (g (0 : Int32))))]))) (fun t k => XS.iload X9.here hx rfl (bd d16_35) rfl k) ?_
  obtain ⟨cl10, Ar10, hi10, ha10⟩ := own_at f6 (j := (1 : Int32)) (v := (.int (g (1 : Int32)))) ⟨by decide, by decide⟩ (own_rg_at ⟨by decide, by decide⟩ _ _)
  refine OD.go (B := (T9.setTop (mkF m 38 #[.val (.ref a1), .val (.int 1), .val (.int 0), .val (.int 3), .val (.int 0), .val (.int (own_imin (2147483647 : Int32) (g (0 : Int32)))), .val (.int 1)] [(.int (g (1 : Int32))), (.int (own_imin (2147483647 : Int32) (g (0 : Int32))))]))) (fun t k => X9.iaload hx (j := (1 : Int32)) (v := (.int (g (1 : Int32)))) (by rw [e9]; exact Ar10.1) (State.isArrayOf_alike hZ.alike Ar10.2.1) Ar10.2.2 hi10 ha10 (g := (mkF m 37 #[.val (.ref a1), .val (.int 1), .val (.int 0), .val (.int 3), .val (.int 0), .val (.int (own_imin (2147483647 : Int32) (g (0 : Int32)))), .val (.int 1)] [(.int 1), (.ref da), (.int (own_imin (2147483647 : Int32) (g (0 : Int32))))])) rfl rfl (bd d16_37) _ k) ?_
  obtain ⟨_, _, ⟨T11, L11, k11, n11⟩, -, X11, ⟨Lc11, hQ11, l11, y11, z11⟩, st11⟩ := Jvm.LawKit.callS X9 hx (y := (⟨"java/lang/Math", "min", "(II)I"⟩ : MethodName)) hown (mvT hZ (Wd110 hw)) (mvT hZ (Wd111 hw)) (mvT hZ (Wd50 hw)) (mvT hZ (Wd112 hw)) (by decide) (backOf (W := 0) (rmMn l Z a0 hw [] (own_imin (2147483647 : Int32) (g (0 : Int32))) (g (1 : Int32)) T1.heap) hZ (Wd112 hw) (Wd50 hw) (by decide) (by decide)) (g := (mkF m 38 #[.val (.ref a1), .val (.int 1), .val (.int 0), .val (.int 3), .val (.int 0), .val (.int (own_imin (2147483647 : Int32) (g (0 : Int32)))), .val (.int 1)] [(.int (g (1 : Int32))), (.int (own_imin (2147483647 : Int32) (g (0 : Int32))))])) rfl (by rw [hml]; rfl) (argsL := [(.int (own_imin (2147483647 : Int32) (g (0 : Int32)))), (.int (g (1 : Int32)))]) (rest := []) (lenOf pd6 rfl) rfl (by show 2 * 0 + _ ≤ _; exact Nat.le_of_eq rfl) (bd d16_38) (fun _ _ => ⟨rfl, e9, (nl rfl), (nl rfl)⟩)
  dsimp only [Pt.U, Pt.locs, Pt.cells, Pt.slots] at X11 l11 y11 z11 st11 hQ11
  subst l11 y11 z11
  obtain ⟨rfl, rfl, e11⟩ := hQ11
  have N11 := Fr.app N8 (Fr.nil _)
  refine OD.go st11 ?_
  refine OD.go (B := (T11.setTop (mkF m 32 #[.val (.ref a1), .val (.int 1), .val (.int 0), .val (.int 3), .val (.int 0), .val (.int (own_imin (own_imin (2147483647 : Int32) (g (0 : Int32))) (g (1 : Int32)))), .val (.int 2)] [(.ref a1), (.int (own_imin (own_imin (2147483647 : Int32) (g (0 : Int32))) (g (1 : Int32))))]))) (fun t k => XS.istore X11.here hx rfl (bd d16_41) rfl (l' := #[.val (.ref a1), .val (.int 1), .val (.int 0), .val (.int 3), .val (.int 0), .val (.int (own_imin (own_imin (2147483647 : Int32) (g (0 : Int32))) (g (1 : Int32)))), .val (.int 1)]) rfl (XS.iinc X11.here hx rfl (bd d16_43) rfl (l' := #[.val (.ref a1), .val (.int 1), .val (.int 0), .val (.int 3), .val (.int 0), .val (.int (own_imin (own_imin (2147483647 : Int32) (g (0 : Int32))) (g (1 : Int32)))), .val (.int 2)]) rfl (XS.goto X11.here hx rfl (pc0 := 46) (pc' := 23) rfl (bd d16_46) (by decide) (by decide) (XS.iload X11.here hx rfl (bd d16_23) rfl (XS.iloadN X11.here hx rfl (bd d16_25) rfl (XS.icmpNo X11.here hx rfl (bd d16_26) rfl (tlt (by decide : (2 : Int32) < (3 : Int32))).2.1 (XS.iload X11.here hx rfl (bd d16_29) rfl (XS.aloadN X11.here hx rfl (bd d16_31) rfl rfl k)))))))) ?_
  obtain ⟨T12, X12, e12, st12⟩ := getF X11 hx hZ hown (host := "") (Or.inl (Wd39 hw)) Via.refl e11 f4 (g := (mkF m 32 #[.val (.ref a1), .val (.int 1), .val (.int 0), .val (.int 3), .val (.int 0), .val (.int (own_imin (own_imin (2147483647 : Int32) (g (0 : Int32))) (g (1 : Int32)))), .val (.int 2)] [(.ref a1), (.int (own_imin (own_imin (2147483647 : Int32) (g (0 : Int32))) (g (1 : Int32))))])) rfl rfl (bd d16_32)
  refine OD.go st12 ?_
  refine OD.go (B := (T12.setTop (mkF m 37 #[.val (.ref a1), .val (.int 1), .val (.int 0), .val (.int 3), .val (.int 0), .val (.int (own_imin (own_imin (2147483647 : Int32) (g (0 : Int32))) (g (1 : Int32)))), .val (.int 2)] [(.int 2), (.ref da), (.int (own_imin (own_imin (2147483647 : Int32) (g (0 : Int32))) (g (1 : Int32))))]))) (fun t k => XS.iload X12.here hx rfl (bd d16_35) rfl k) ?_
  obtain ⟨cl13, Ar13, hi13, ha13⟩ := own_at f6 (j := (2 : Int32)) (v := (.int (g (2 : Int32)))) ⟨by decide, by decide⟩ (own_rg_at ⟨by decide, by decide⟩ _ _)
  refine OD.go (B := (T12.setTop (mkF m 38 #[.val (.ref a1), .val (.int 1), .val (.int 0), .val (.int 3), .val (.int 0), .val (.int (own_imin (own_imin (2147483647 : Int32) (g (0 : Int32))) (g (1 : Int32)))), .val (.int 2)] [(.int (g (2 : Int32))), (.int (own_imin (own_imin (2147483647 : Int32) (g (0 : Int32))) (g (1 : Int32))))]))) (fun t k => X12.iaload hx (j := (2 : Int32)) (v := (.int (g (2 : Int32)))) (by rw [e12]; exact Ar13.1) (State.isArrayOf_alike hZ.alike Ar13.2.1) Ar13.2.2 hi13 ha13 (g := (mkF m 37 #[.val (.ref a1), .val (.int 1), .val (.int 0), .val (.int 3), .val (.int 0), .val (.int (own_imin (own_imin (2147483647 : Int32) (g (0 : Int32))) (g (1 : Int32)))), .val (.int 2)] [(.int 2), (.ref da), (.int (own_imin (own_imin (2147483647 : Int32) (g (0 : Int32))) (g (1 : Int32))))])) rfl rfl (bd d16_37) _ k) ?_
  obtain ⟨_, _, ⟨T14, L14, k14, n14⟩, -, X14, ⟨Lc14, hQ14, l14, y14, z14⟩, st14⟩ := Jvm.LawKit.callS X12 hx (y := (⟨"java/lang/Math", "min", "(II)I"⟩ : MethodName)) hown (mvT hZ (Wd110 hw)) (mvT hZ (Wd111 hw)) (mvT hZ (Wd50 hw)) (mvT hZ (Wd112 hw)) (by decide) (backOf (W := 0) (rmMn l Z a0 hw [] (own_imin (own_imin (2147483647 : Int32) (g (0 : Int32))) (g (1 : Int32))) (g (2 : Int32)) T1.heap) hZ (Wd112 hw) (Wd50 hw) (by decide) (by decide)) (g := (mkF m 38 #[.val (.ref a1), .val (.int 1), .val (.int 0), .val (.int 3), .val (.int 0), .val (.int (own_imin (own_imin (2147483647 : Int32) (g (0 : Int32))) (g (1 : Int32)))), .val (.int 2)] [(.int (g (2 : Int32))), (.int (own_imin (own_imin (2147483647 : Int32) (g (0 : Int32))) (g (1 : Int32))))])) rfl (by rw [hml]; rfl) (argsL := [(.int (own_imin (own_imin (2147483647 : Int32) (g (0 : Int32))) (g (1 : Int32)))), (.int (g (2 : Int32)))]) (rest := []) (lenOf pd6 rfl) rfl (by show 2 * 0 + _ ≤ _; exact Nat.le_of_eq rfl) (bd d16_38) (fun _ _ => ⟨rfl, e12, (nl rfl), (nl rfl)⟩)
  dsimp only [Pt.U, Pt.locs, Pt.cells, Pt.slots] at X14 l14 y14 z14 st14 hQ14
  subst l14 y14 z14
  obtain ⟨rfl, rfl, e14⟩ := hQ14
  have N14 := Fr.app N11 (Fr.nil _)
  refine OD.go st14 ?_
  refine OD.go (B := (T14.setTop (mkF m 50 #[.val (.ref a1), .val (.int 1), .val (.int 0), .val (.int 3), .val (.int 0), .val (.int (own_imin (own_imin (own_imin (2147483647 : Int32) (g (0 : Int32))) (g (1 : Int32))) (g (2 : Int32)))), .val (.int 3)] [(.ref a1)]))) (fun t k => XS.istore X14.here hx rfl (bd d16_41) rfl (l' := #[.val (.ref a1), .val (.int 1), .val (.int 0), .val (.int 3), .val (.int 0), .val (.int (own_imin (own_imin (own_imin (2147483647 : Int32) (g (0 : Int32))) (g (1 : Int32))) (g (2 : Int32)))), .val (.int 2)]) rfl (XS.iinc X14.here hx rfl (bd d16_43) rfl (l' := #[.val (.ref a1), .val (.int 1), .val (.int 0), .val (.int 3), .val (.int 0), .val (.int (own_imin (own_imin (own_imin (2147483647 : Int32) (g (0 : Int32))) (g (1 : Int32))) (g (2 : Int32)))), .val (.int 3)]) rfl (XS.goto X14.here hx rfl (pc0 := 46) (pc' := 23) rfl (bd d16_46) (by decide) (by decide) (XS.iload X14.here hx rfl (bd d16_23) rfl (XS.iloadN X14.here hx rfl (bd d16_25) rfl (XS.icmpYes X14.here hx rfl (pc0 := 26) (pc' := 49) rfl (bd d16_26) rfl (flt (by decide : ¬ (3 : Int32) < (3 : Int32))).2.1 (by decide) (by decide) (XS.aloadN X14.here hx rfl (bd d16_49) rfl rfl k))))))) ?_
  have f15 := (FleastDocs.keep K1 (ninS nb nin0))
  obtain ⟨T16, X16, e16, st16⟩ := getF X14 hx hZ hown (host := "") (Or.inl (Wd54 hw)) Via.refl e14 f15 (g := (mkF m 50 #[.val (.ref a1), .val (.int 1), .val (.int 0), .val (.int 3), .val (.int 0), .val (.int (own_imin (own_imin (own_imin (2147483647 : Int32) (g (0 : Int32))) (g (1 : Int32))) (g (2 : Int32)))), .val (.int 3)] [(.ref a1)])) rfl rfl (bd d16_50)
  refine OD.go st16 ?_
  refine OD.go (B := (T16.setTop (mkF m 56 #[.val (.ref a1), .val (.int 1), .val (.int 0), .val (.int 3), .val (.int 0), .val (.int (own_imin (own_imin (own_imin (2147483647 : Int32) (g (0 : Int32))) (g (1 : Int32))) (g (2 : Int32)))), .val (.int 3)] [(.int (own_imin (own_imin (own_imin (2147483647 : Int32) (g (0 : Int32))) (g (1 : Int32))) (g (2 : Int32)))), (.int 1), (.ref lb)]))) (fun t k => XS.iloadN X16.here hx rfl (bd d16_53) rfl (XS.iload X16.here hx rfl (bd d16_54) rfl k)) ?_
  have f17 := (Al.keep K1 (ninS (Ne.symm nbl) nin0))
  obtain ⟨cl18, Ar18, q18, S18, M18, H18, G18⟩ := id f17
  obtain ⟨T18, h18, X18, e18, W18, st18⟩ := stI X16 hx hZ e16 Ar18 (j := (1 : Int32)) (inb_of S18 ⟨by decide, by decide⟩) (g := (mkF m 56 #[.val (.ref a1), .val (.int 1), .val (.int 0), .val (.int 3), .val (.int 0), .val (.int (own_imin (own_imin (own_imin (2147483647 : Int32) (g (0 : Int32))) (g (1 : Int32))) (g (2 : Int32)))), .val (.int 3)] [(.int (own_imin (own_imin (own_imin (2147483647 : Int32) (g (0 : Int32))) (g (1 : Int32))) (g (2 : Int32)))), (.int 1), (.ref lb)])) rfl rfl (bd d16_56)
  have V18 : Arv Z h18 lb kl .int 2 [(.int 0), (.int (own_imin (own_imin (own_imin (2147483647 : Int32) (g (0 : Int32))) (g (1 : Int32))) (g (2 : Int32))))] (.int 0) := Arv.set Ar18 q18 S18 M18 H18 G18 rfl W18 1 rfl (nl rfl)
  have N18 := Fr.snoc X18 N14 gl
  refine OD.go st18 ?_
  refine OD.go (B := (T18.setTop (mkF m 59 #[.val (.ref a1), .val (.int 1), .val (.int 0), .val (.int 3), .val (.int 0), .val (.int (own_imin (own_imin (own_imin (2147483647 : Int32) (g (0 : Int32))) (g (1 : Int32))) (g (2 : Int32)))), .val (.int 3)] [(.int (own_imin (own_imin (own_imin (2147483647 : Int32) (g (0 : Int32))) (g (1 : Int32))) (g (2 : Int32))))]))) (fun t k => XS.iload X18.here hx rfl (bd d16_57) rfl k) ?_
  exact OD.ret X18 hx hlk (t := .int) Bd.returns rfl (Or.inl ⟨rfl, Or.inl rfl, _, rfl⟩) (bd d16_59) (nl rfl) (nl rfl) ⟨_, rfl, N18, by rw [e18]; exact (((Keep.refl h0 [ba, lb]).trans K1 (allS (Or.inl (List.mem_of_getElem? (i := 0) rfl)) all0)).wr W18 (Or.inl (List.mem_of_getElem? (i := 1) rfl)))⟩
def Q_rmT5 (Z : State) (a1 : Addr) (da : Addr) (ca : Addr) (rp : Int32) (h0 : Heap) (n0 : Nat) (xa xb xc : Int32) (v : Option Value) (h : Heap) (L : List Loc) : Prop := ∃ (bs wa : Addr) (kw : ClassId), v = none ∧ Fr n0 L ∧ Keep h0 h [a1, da, ca] ∧ h0.size ≤ bs ∧ h0.size ≤ wa ∧ bs ≠ wa ∧ Exa Z h bs "java/util/BitSet" ∧ Fld Z h a1 zZ0 "current" "Ljava/util/BitSet;" (.ref bs) ∧ Fld Z h a1 zZ0 "documentCount" "I" (.int ((0 : Int32) + own_bc ((((0 : Int64) ||| own_bit xa) ||| own_bit xb) ||| own_bit xc))) ∧ Fld Z h a1 zZ0 "currentCount" "I" (.int ((0 : Int32) + own_bc ((((0 : Int64) ||| own_bit xa) ||| own_bit xb) ||| own_bit xc))) ∧ Fld Z h bs "java/util/BitSet" "wordsInUse" "I" (.int 1) ∧ Fld Z h bs "java/util/BitSet" "words" "[J" (.ref wa) ∧ Arv Z h wa kw .long (1 : Int32) [(.long ((((0 : Int64) ||| own_bit xa) ||| own_bit xb) ||| own_bit xc))] (.long (0 : Int64))
set_option maxRecDepth 65536 in
set_option maxHeartbeats 40000000 in
theorem rmT5 (l : Launch) (Z : State) (a0 : Array Value) (hw : HW a0 Z) (ws : List Jvm.Cond) (a1 : Addr) (da : Addr) (ca : Addr) (rp : Int32) (h0 : Heap) (n0 : Nat) (Z0 : n0 ≤ h0.size) (X00 : Old Z n0 h0) (Sad : Sta Z Z.heap "java/util/BitSet" "$assertionsDisabled" "Z" (.int 1)) (xa xb xc : Int32) (ya yb yc : Int64) (sa : own_sm xa) (sb : own_sm xb) (sc : own_sm xc) (E1 : Exa Z h0 a1 zZ0) (g1 : n0 ≤ a1) (Fcurrent : Fld Z h0 a1 zZ0 "current" "Ljava/util/BitSet;" .null) (Fdimensions : Fld Z h0 a1 zZ0 "dimensions" "I" (.int 0)) (Fdocs : Fld Z h0 a1 zZ0 "docs" "[I" .null) (Fcoordinates : Fld Z h0 a1 zZ0 "coordinates" "[J" .null) (FrepeatsDocs : Fld Z h0 a1 zZ0 "repeatsDocs" "Z" (.int 0)) (FleafLevel : Fld Z h0 a1 zZ0 "leafLevel" "I" (.int 0)) (Fbounds : Fld Z h0 a1 zZ0 "bounds" "[J" .null) (FleastDocs : Fld Z h0 a1 zZ0 "leastDocs" "[I" .null) (FdocumentCount : Fld Z h0 a1 zZ0 "documentCount" "I" (.int 0)) (FcurrentCount : Fld Z h0 a1 zZ0 "currentCount" "I" (.int 0)) (kd kc : ClassId) (Ad : Arv Z h0 da kd .int 3 [(.int xa), (.int xb), (.int xc)] (.int 0)) (Ac : Arv Z h0 ca kc .long (3 : Int32) [(.long ya), (.long yb), (.long yc)] (.long (0 : Int64))) (gd : n0 ≤ da) (gc : n0 ≤ ca) (nd : a1 ≠ da) (nc : a1 ≠ ca) (ncd : ca ≠ da) :
    MetFree l (⟨zZ0, "<init>", "(I[I[JZZ)V"⟩ : MethodName) (head1 (Jvm.Cond.code (⟨zZ0, "<init>", "(I[I[JZZ)V"⟩ : MethodName) kQ18 12 none :: ws) (rO 3 14 2115 70)) (fun a U => a = #[(.ref a1), (.int 1), (.ref da), (.ref ca), (.int rp), (.int 0)] ∧ Z.Warmed39 U.vm ∧ U.heap = h0) (fun _ _ _ _ _ => True) (fun _ U o U' => ∃ v L, o = .returned v ∧ Q_rmT5 Z a1 da ca rp h0 n0 xa xb xc v U'.heap L ∧ FrameEnd U o U' L (rO 3 14 2115 70).cells (rO 3 14 2115 70).slots) := by
  refine MetFree.of_bodySF (plainFor_of_name pn1) hisR ?_
  intro p e s m args below meth c s₁ Bd hml0 hP hK
  obtain ⟨rfl, hZ, hh⟩ := hP
  have hx := Bd.exec
  have hby := Bd.bytes
  have bd : ∀ {pc r}, decode kQ18 pc = r → decode c.code pc = r := fun q => hb hby q
  have hlk : meth.locks = false := Bd.notSynchronized
  have hml : c.maxLocals = 12 := hml0
  have hown : s.vm.findClass zZ0 = some m.cls := findClass_of_methodNamed Bd.named
  have hnm := (name_of_methodNamed Bd.named Bd.method).1
  have X0 : Stand p l e (rO 3 14 2115 70) s m #[(.ref a1), (.int 1), (.ref da), (.ref ca), (.int rp), (.int 0)] below meth c s₁ [] 0 0 := Stand.of_body Bd
  have e0 : s₁.heap = h0 := by rw [← hh, Bd.state]; rfl
  have N0 := Fr.nil n0
  suffices hgo : OD p e s below (Q_rmT5 Z a1 da ca rp h0 n0 xa xb xc) (rO 3 14 2115 70).cells (rO 3 14 2115 70).slots (s₁.setTop (mkF m 0 #[.val (.ref a1), .val (.int 1), .val (.ref da), .val (.ref ca), .val (.int rp), .val (.int 0), .unset, .unset, .unset, .unset, .unset, .unset] [])) by
    obtain ⟨s₂, o, hgo1, hgo2⟩ := hgo
    exact ⟨s₂, o, castTop (ef13 m a1 (1 : Int32) da ca rp (0 : Int32)) hgo1, hgo2⟩
  refine OD.go (B := (s₁.setTop (mkF m 1 #[.val (.ref a1), .val (.int 1), .val (.ref da), .val (.ref ca), .val (.int rp), .val (.int 0), .unset, .unset, .unset, .unset, .unset, .unset] [(.ref a1)]))) (fun t k => XS.aloadN X0.here hx rfl (bd d2_0) rfl rfl k) ?_
  obtain ⟨T1, X1, e1, st1⟩ := initO X0 hx hZ hown (Wd11 hw) (Wd12 hw) (Wd13 hw) e0 (g := (mkF m 1 #[.val (.ref a1), .val (.int 1), .val (.ref da), .val (.ref ca), .val (.int rp), .val (.int 0), .unset, .unset, .unset, .unset, .unset, .unset] [(.ref a1)])) rfl (by rw [hml]; rfl) rfl (bd d2_1) (by decide) (W := 0) (by show 2 * 0 + _ ≤ _; exact Nat.le_of_eq rfl) (by decide)
  refine OD.go st1 ?_
  refine OD.go (B := (T1.setTop (mkF m 5 #[.val (.ref a1), .val (.int 1), .val (.ref da), .val (.ref ca), .val (.int rp), .val (.int 0), .unset, .unset, .unset, .unset, .unset, .unset] [(.ref a1)]))) (fun t k => XS.aloadN X1.here hx rfl (bd d2_4) rfl rfl k) ?_
  obtain ⟨T2, h2, X2, e2, E2, A2, D2, -, st2⟩ := newO X1 hx hZ hown (Wd14 hw) (Wd15 hw) (Wd16 hw) e1 (g := (mkF m 5 #[.val (.ref a1), .val (.int 1), .val (.ref da), .val (.ref ca), .val (.int rp), .val (.int 0), .unset, .unset, .unset, .unset, .unset, .unset] [(.ref a1)])) rfl (bd d2_5) (nl rfl) (nl rfl)
  obtain ⟨b2, g2⟩ : ∃ z, z = h0.size := ⟨_, rfl⟩
  rw [← g2] at A2 D2 st2
  have Fn3 : Fld Z h2 b2 "java/util/BitSet" "wordsInUse" "I" (.int 0) := D2 (Or.inl (Wd22 hw)) (ty := .int) (by decide)
  have Fn4 : Fld Z h2 b2 "java/util/BitSet" "sizeIsSticky" "Z" (.int 0) := D2 (Or.inl (Wd24 hw)) (ty := .boolean) (by decide)
  have Fn5 : Fld Z h2 b2 "java/util/BitSet" "words" "[J" .null := D2 (Or.inl (Wd34 hw)) (ty := (.array .long)) (by decide)
  refine OD.go st2 ?_
  refine OD.go (B := (T2.setTop (mkF m 9 #[.val (.ref a1), .val (.int 1), .val (.ref da), .val (.ref ca), .val (.int rp), .val (.int 0), .unset, .unset, .unset, .unset, .unset, .unset] [(.ref b2), (.ref b2), (.ref a1)]))) (fun t k => XS.dup X2.here hx rfl (bd d2_8) rfl rfl k) ?_
  obtain ⟨_, _, ⟨T6, L6, k6, n6⟩, -, X6, ⟨Lc6, hQ6, l6, y6, z6⟩, st6⟩ := X2.specialBack hx (y := (⟨"java/util/BitSet", "<init>", "()V"⟩ : MethodName)) rfl hown (mvT hZ (Wd17 hw)) (mvT hZ (Wd18 hw)) (mvT hZ (Wd19 hw)) (by decide) (backOf (W := 2) (rmBI l Z a0 hw [] b2 h2 n0 (Nat.le_trans Z0 E2.1) A2 (Nat.le_trans Z0 (Nat.le_of_eq g2.symm)) Fn3 Fn4 Fn5) hZ (Wd19 hw) (Wd16 hw) (by decide) (by decide)) (g := (mkF m 9 #[.val (.ref a1), .val (.int 1), .val (.ref da), .val (.ref ca), .val (.int rp), .val (.int 0), .unset, .unset, .unset, .unset, .unset, .unset] [(.ref b2), (.ref b2), (.ref a1)])) rfl (by rw [hml]; rfl) (Steps.refl _) (a := b2) (argsL := []) (rest := [(.ref b2), (.ref a1)]) (lenOf pd2 rfl) rfl (by show 2 * 0 + _ ≤ _; exact Nat.le_of_eq rfl) (bd d2_9) (fun _ _ => ⟨rfl, e2, (nl rfl), (nl rfl)⟩)
  dsimp only [Pt.U, Pt.locs, Pt.cells, Pt.slots] at X6 l6 y6 z6 st6 hQ6
  subst l6 y6 z6
  obtain ⟨b6, kw6, rfl, Nq6, K6, ob6, F06, F16, F26, A6⟩ := hQ6
  have N6 := Fr.app N0 Nq6
  have gb6 : n0 ≤ b6 := Nat.le_trans (Nat.le_trans Z0 E2.1) ob6
  refine OD.via (B := (T6.setTop (mkF m 12 #[.val (.ref a1), .val (.int 1), .val (.ref da), .val (.ref ca), .val (.int rp), .val (.int 0), .unset, .unset, .unset, .unset, .unset, .unset] [(.ref b2), (.ref a1)]))) st6 ?_
  have f7 := ((Fcurrent.ext E2).keep K6 (ninS (Nat.ne_of_lt (Nat.lt_of_lt_of_le E1.lt (Nat.le_of_eq g2.symm))) nin0))
  have f8 := ((E1.ext E2).keep K6)
  obtain ⟨T9, h9, X9, e9, W9, st9⟩ := putF X6 hx hZ hown (host := "") (Or.inl (Wd35 hw)) Via.refl rfl f7 f8 (Or.inr ⟨(Wd36 hw), rfl, hnm⟩) (Wd3 hw) (ty := (.object "java/util/BitSet")) (by decide) rfl rfl (g := (mkF m 12 #[.val (.ref a1), .val (.int 1), .val (.ref da), .val (.ref ca), .val (.int rp), .val (.int 0), .unset, .unset, .unset, .unset, .unset, .unset] [(.ref b2), (.ref a1)])) rfl rfl (bd d2_12)
  have Fx9 := f7.same W9
  have N9 := Fr.snoc X9 N6 g1
  refine OD.go st9 ?_
  refine OD.go (B := (T9.setTop (mkF m 17 #[.val (.ref a1), .val (.int 1), .val (.ref da), .val (.ref ca), .val (.int rp), .val (.int 0), .unset, .unset, .unset, .unset, .unset, .unset] [(.int 1), (.ref a1)]))) (fun t k => XS.aloadN X9.here hx rfl (bd d2_15) rfl rfl (XS.iloadN X9.here hx rfl (bd d2_16) rfl k)) ?_
  have f10 := (((Fdimensions.ext E2).keep K6 (ninS (Nat.ne_of_lt (Nat.lt_of_lt_of_le E1.lt (Nat.le_of_eq g2.symm))) nin0)).other W9 (Or.inr (slot_ne (Or.inr (Wd38 hw)) (Or.inr (Wd36 hw)) (by decide) (t := .int) (t' := (.object "java/util/BitSet")) (by decide) (by decide))))
  have f11 := (f8.wr W9)
  obtain ⟨T12, h12, X12, e12, W12, st12⟩ := putF X9 hx hZ hown (host := "") (Or.inl (Wd37 hw)) Via.refl e9 f10 f11 (Or.inr ⟨(Wd38 hw), rfl, hnm⟩) (Wd3 hw) (ty := .int) (by decide) rfl rfl (g := (mkF m 17 #[.val (.ref a1), .val (.int 1), .val (.ref da), .val (.ref ca), .val (.int rp), .val (.int 0), .unset, .unset, .unset, .unset, .unset, .unset] [(.int 1), (.ref a1)])) rfl rfl (bd d2_17)
  have Fx12 := f10.same W12
  have N12 := Fr.snoc X12 N9 g1
  refine OD.go st12 ?_
  refine OD.go (B := (T12.setTop (mkF m 22 #[.val (.ref a1), .val (.int 1), .val (.ref da), .val (.ref ca), .val (.int rp), .val (.int 0), .unset, .unset, .unset, .unset, .unset, .unset] [(.ref da), (.ref a1)]))) (fun t k => XS.aloadN X12.here hx rfl (bd d2_20) rfl rfl (XS.aloadN X12.here hx rfl (bd d2_21) rfl rfl k)) ?_
  have f13 := ((((Fdocs.ext E2).keep K6 (ninS (Nat.ne_of_lt (Nat.lt_of_lt_of_le E1.lt (Nat.le_of_eq g2.symm))) nin0)).other W9 (Or.inr (slot_ne (Or.inr (Wd40 hw)) (Or.inr (Wd36 hw)) (by decide) (t := (.array .int)) (t' := (.object "java/util/BitSet")) (by decide) (by decide)))).other W12 (Or.inr (slot_ne (Or.inr (Wd40 hw)) (Or.inr (Wd38 hw)) (by decide) (t := (.array .int)) (t' := .int) (by decide) (by decide))))
  have f14 := (f11.wr W12)
  obtain ⟨T15, h15, X15, e15, W15, st15⟩ := putF X12 hx hZ hown (host := "") (Or.inl (Wd39 hw)) Via.refl e12 f13 f14 (Or.inr ⟨(Wd40 hw), rfl, hnm⟩) (Wd3 hw) (ty := (.array .int)) (by decide) rfl rfl (g := (mkF m 22 #[.val (.ref a1), .val (.int 1), .val (.ref da), .val (.ref ca), .val (.int rp), .val (.int 0), .unset, .unset, .unset, .unset, .unset, .unset] [(.ref da), (.ref a1)])) rfl rfl (bd d2_22)
  have Fx15 := f13.same W15
  have N15 := Fr.snoc X15 N12 g1
  refine OD.go st15 ?_
  refine OD.go (B := (T15.setTop (mkF m 27 #[.val (.ref a1), .val (.int 1), .val (.ref da), .val (.ref ca), .val (.int rp), .val (.int 0), .unset, .unset, .unset, .unset, .unset, .unset] [(.ref ca), (.ref a1)]))) (fun t k => XS.aloadN X15.here hx rfl (bd d2_25) rfl rfl (XS.aloadN X15.here hx rfl (bd d2_26) rfl rfl k)) ?_
  have f16 := (((((Fcoordinates.ext E2).keep K6 (ninS (Nat.ne_of_lt (Nat.lt_of_lt_of_le E1.lt (Nat.le_of_eq g2.symm))) nin0)).other W9 (Or.inr (slot_ne (Or.inr (Wd42 hw)) (Or.inr (Wd36 hw)) (by decide) (t := (.array .long)) (t' := (.object "java/util/BitSet")) (by decide) (by decide)))).other W12 (Or.inr (slot_ne (Or.inr (Wd42 hw)) (Or.inr (Wd38 hw)) (by decide) (t := (.array .long)) (t' := .int) (by decide) (by decide)))).other W15 (Or.inr (slot_ne (Or.inr (Wd42 hw)) (Or.inr (Wd40 hw)) (by decide) (t := (.array .long)) (t' := (.array .int)) (by decide) (by decide))))
  have f17 := (f14.wr W15)
  obtain ⟨T18, h18, X18, e18, W18, st18⟩ := putF X15 hx hZ hown (host := "") (Or.inl (Wd41 hw)) Via.refl e15 f16 f17 (Or.inr ⟨(Wd42 hw), rfl, hnm⟩) (Wd3 hw) (ty := (.array .long)) (by decide) rfl rfl (g := (mkF m 27 #[.val (.ref a1), .val (.int 1), .val (.ref da), .val (.ref ca), .val (.int rp), .val (.int 0), .unset, .unset, .unset, .unset, .unset, .unset] [(.ref ca), (.ref a1)])) rfl rfl (bd d2_27)
  have Fx18 := f16.same W18
  have N18 := Fr.snoc X18 N15 g1
  refine OD.go st18 ?_
  refine OD.go (B := (T18.setTop (mkF m 33 #[.val (.ref a1), .val (.int 1), .val (.ref da), .val (.ref ca), .val (.int rp), .val (.int 0), .unset, .unset, .unset, .unset, .unset, .unset] [(.int rp), (.ref a1)]))) (fun t k => XS.aloadN X18.here hx rfl (bd d2_30) rfl rfl (XS.iload X18.here hx rfl (bd d2_31) rfl k)) ?_
  have f19 := ((((((FrepeatsDocs.ext E2).keep K6 (ninS (Nat.ne_of_lt (Nat.lt_of_lt_of_le E1.lt (Nat.le_of_eq g2.symm))) nin0)).other W9 (Or.inr (slot_ne (Or.inr (Wd44 hw)) (Or.inr (Wd36 hw)) (by decide) (t := .boolean) (t' := (.object "java/util/BitSet")) (by decide) (by decide)))).other W12 (Or.inr (slot_ne (Or.inr (Wd44 hw)) (Or.inr (Wd38 hw)) (by decide) (t := .boolean) (t' := .int) (by decide) (by decide)))).other W15 (Or.inr (slot_ne (Or.inr (Wd44 hw)) (Or.inr (Wd40 hw)) (by decide) (t := .boolean) (t' := (.array .int)) (by decide) (by decide)))).other W18 (Or.inr (slot_ne (Or.inr (Wd44 hw)) (Or.inr (Wd42 hw)) (by decide) (t := .boolean) (t' := (.array .long)) (by decide) (by decide))))
  have f20 := (f17.wr W18)
  obtain ⟨T21, h21, X21, e21, W21, st21⟩ := putFN X18 hx hZ hown (Wd43 hw) Via.refl e18 f19 f20 (Or.inr ⟨(Wd44 hw), rfl, hnm⟩) (Wd3 hw) (ty := .boolean) (v' := (.int (nar .boolean rp))) (by decide) rfl (fits_nar_bool _) (g := (mkF m 33 #[.val (.ref a1), .val (.int 1), .val (.ref da), .val (.ref ca), .val (.int rp), .val (.int 0), .unset, .unset, .unset, .unset, .unset, .unset] [(.int rp), (.ref a1)])) rfl rfl (bd d2_33)
  have Fx21 := f19.same W21
  have N21 := Fr.snoc X21 N18 g1
  refine OD.go st21 ?_
  refine OD.go (B := (T21.setTop (mkF m 40 #[.val (.ref a1), .val (.int 1), .val (.ref da), .val (.ref ca), .val (.int rp), .val (.int 0), .val (.int 0), .unset, .unset, .unset, .unset, .unset] [(.ref da)]))) (fun t k => XS.iconst X21.here hx rfl (bd d2_36) (XS.istore X21.here hx rfl (bd d2_37) rfl (l' := #[.val (.ref a1), .val (.int 1), .val (.ref da), .val (.ref ca), .val (.int rp), .val (.int 0), .val (.int 0), .unset, .unset, .unset, .unset, .unset]) rfl (XS.aloadN X21.here hx rfl (bd d2_39) rfl rfl k))) ?_
  have f22 := (((((((Ad.ext E2).keep K6 (ninS (Nat.ne_of_lt (Nat.lt_of_lt_of_le Ad.lt (Nat.le_of_eq g2.symm))) nin0)).other W9 (Ne.symm nd)).other W12 (Ne.symm nd)).other W15 (Ne.symm nd)).other W18 (Ne.symm nd)).other W21 (Ne.symm nd))
  obtain ⟨cl23, Ar23, hl23⟩ := own_len f22
  refine OD.go (B := (T21.setTop (mkF m 41 #[.val (.ref a1), .val (.int 1), .val (.ref da), .val (.ref ca), .val (.int rp), .val (.int 0), .val (.int 0), .unset, .unset, .unset, .unset, .unset] [(.int 3)]))) (fun t k => X21.arraylength hx (by rw [e21]; exact Ar23.1) (State.isArrayOf_alike hZ.alike Ar23.2.1) (g := (mkF m 40 #[.val (.ref a1), .val (.int 1), .val (.ref da), .val (.ref ca), .val (.int rp), .val (.int 0), .val (.int 0), .unset, .unset, .unset, .unset, .unset] [(.ref da)])) rfl rfl (bd d2_40) _ (by rw [hl23]; exact k)) ?_
  refine OD.go (B := (T21.setTop (mkF m 61 #[.val (.ref a1), .val (.int 1), .val (.ref da), .val (.ref ca), .val (.int rp), .val (.int 0), .val (.int 0), .unset, .unset, .unset, .unset, .unset] [(.int 0), (.ref a1)]))) (fun t k => XS.i2l X21.here hx rfl (bd d2_41) rfl (X21.ldc2Long hx hown (mv hZ (Wd45 hw)) (g := (mkF m 42 #[.val (.ref a1), .val (.int 1), .val (.ref da), .val (.ref ca), .val (.int rp), .val (.int 0), .val (.int 0), .unset, .unset, .unset, .unset, .unset] [(.long (3 : Int32).toInt64)])) rfl (bd d2_42) _ (XS.iload X21.here hx rfl (bd d2_45) rfl (XS.lshl X21.here hx rfl (bd d2_47) rfl (XS.lcmp X21.here hx rfl (bd d2_48) rfl (XS.ifYes X21.here hx rfl (pc0 := 49) (pc' := 58) rfl (bd d2_49) rfl (by rw [if0]; exact (flt (by decide)).2.2.2) (by decide) (by decide) (XS.aloadN X21.here hx rfl (bd d2_58) rfl rfl (XS.iload X21.here hx rfl (bd d2_59) rfl k)))))))) ?_
  have f24 := (((((((FleafLevel.ext E2).keep K6 (ninS (Nat.ne_of_lt (Nat.lt_of_lt_of_le E1.lt (Nat.le_of_eq g2.symm))) nin0)).other W9 (Or.inr (slot_ne (Or.inr (Wd47 hw)) (Or.inr (Wd36 hw)) (by decide) (t := .int) (t' := (.object "java/util/BitSet")) (by decide) (by decide)))).other W12 (Or.inr (slot_ne (Or.inr (Wd47 hw)) (Or.inr (Wd38 hw)) (by decide) (t := .int) (t' := .int) (by decide) (by decide)))).other W15 (Or.inr (slot_ne (Or.inr (Wd47 hw)) (Or.inr (Wd40 hw)) (by decide) (t := .int) (t' := (.array .int)) (by decide) (by decide)))).other W18 (Or.inr (slot_ne (Or.inr (Wd47 hw)) (Or.inr (Wd42 hw)) (by decide) (t := .int) (t' := (.array .long)) (by decide) (by decide)))).other W21 (Or.inr (slot_ne (Or.inr (Wd47 hw)) (Or.inr (Wd44 hw)) (by decide) (t := .int) (t' := .boolean) (by decide) (by decide))))
  have f25 := (f20.wr W21)
  obtain ⟨T26, h26, X26, e26, W26, st26⟩ := putF X21 hx hZ hown (host := "") (Or.inl (Wd46 hw)) Via.refl e21 f24 f25 (Or.inr ⟨(Wd47 hw), rfl, hnm⟩) (Wd3 hw) (ty := .int) (by decide) rfl rfl (g := (mkF m 61 #[.val (.ref a1), .val (.int 1), .val (.ref da), .val (.ref ca), .val (.int rp), .val (.int 0), .val (.int 0), .unset, .unset, .unset, .unset, .unset] [(.int 0), (.ref a1)])) rfl rfl (bd d2_61)
  have Fx26 := f24.same W26
  have N26 := Fr.snoc X26 N21 g1
  refine OD.go st26 ?_
  refine OD.go (B := (T26.setTop (mkF m 76 #[.val (.ref a1), .val (.int 1), .val (.ref da), .val (.ref ca), .val (.int rp), .val (.int 0), .val (.int 0), .val (.int 2), .unset, .unset, .unset, .unset] [(.int 2), (.int 2), (.ref a1)]))) (fun t k => XS.iconst X26.here hx rfl (bd d2_64) (XS.iload X26.here hx rfl (bd d2_65) rfl (XS.ishl X26.here hx rfl (bd d2_67) rfl (XS.istore X26.here hx rfl (bd d2_68) rfl (l' := #[.val (.ref a1), .val (.int 1), .val (.ref da), .val (.ref ca), .val (.int rp), .val (.int 0), .val (.int 0), .val (.int 2), .unset, .unset, .unset, .unset]) rfl (XS.aloadN X26.here hx rfl (bd d2_70) rfl rfl (XS.iconst X26.here hx rfl (bd d2_71) (XS.iloadN X26.here hx rfl (bd d2_72) rfl (XS.imul X26.here hx rfl (bd d2_73) rfl (XS.iload X26.here hx rfl (bd d2_74) rfl k))))))))) ?_
  obtain ⟨_, _, ⟨T27, L27, k27, n27⟩, -, X27, ⟨Lc27, hQ27, l27, y27, z27⟩, st27⟩ := Jvm.LawKit.callS X26 hx (y := (⟨"java/lang/Math", "multiplyExact", "(II)I"⟩ : MethodName)) hown (mvT hZ (Wd48 hw)) (mvT hZ (Wd49 hw)) (mvT hZ (Wd50 hw)) (mvT hZ (Wd51 hw)) (by decide) (backOf (W := 1) (rmME l Z a0 hw [] h26) hZ (Wd51 hw) (Wd50 hw) (by decide) (by decide)) (g := (mkF m 76 #[.val (.ref a1), .val (.int 1), .val (.ref da), .val (.ref ca), .val (.int rp), .val (.int 0), .val (.int 0), .val (.int 2), .unset, .unset, .unset, .unset] [(.int 2), (.int 2), (.ref a1)])) rfl (by rw [hml]; rfl) (argsL := [(.int 2), (.int 2)]) (rest := [(.ref a1)]) (lenOf pd6 rfl) rfl (by show 2 * 0 + _ ≤ _; exact Nat.le_of_eq rfl) (bd d2_76) (fun _ _ => ⟨rfl, e26, (nl rfl), (nl rfl)⟩)
  dsimp only [Pt.U, Pt.locs, Pt.cells, Pt.slots] at X27 l27 y27 z27 st27 hQ27
  subst l27 y27 z27
  obtain ⟨rfl, rfl, e27⟩ := hQ27
  have N27 := Fr.app N26 (Fr.nil _)
  refine OD.go (B := (T27.setTop (mkF m 79 #[.val (.ref a1), .val (.int 1), .val (.ref da), .val (.ref ca), .val (.int rp), .val (.int 0), .val (.int 0), .val (.int 2), .unset, .unset, .unset, .unset] [(.int 4), (.ref a1)]))) st27 ?_
  obtain ⟨T28, h28, k28, X28, e28, E28, A28, st28⟩ := newP X27 hx hZ (aty := .long) (Wd1 hw) e27 (g := (mkF m 79 #[.val (.ref a1), .val (.int 1), .val (.ref da), .val (.ref ca), .val (.int rp), .val (.int 0), .val (.int 0), .val (.int 2), .unset, .unset, .unset, .unset] [(.int 4), (.ref a1)])) rfl (bd d2_79) rfl (by decide) (cap := 4) (by decide) (by decide) (nl rfl) (nl rfl)
  obtain ⟨b28, g28⟩ : ∃ z, z = h26.size := ⟨_, rfl⟩
  rw [← g28] at A28 st28
  have V28 : Arv Z h28 b28 k28 .long (4 : Int32) [(.long (0 : Int64)), (.long (0 : Int64)), (.long (0 : Int64)), (.long (0 : Int64))] (.long (0 : Int64)) := (Arv.new A28 (by decide)).pad (pad_rep [] (.long (0 : Int64)) 4)
  refine OD.go (B := (T28.setTop (mkF m 81 #[.val (.ref a1), .val (.int 1), .val (.ref da), .val (.ref ca), .val (.int rp), .val (.int 0), .val (.int 0), .val (.int 2), .unset, .unset, .unset, .unset] [(.ref b28), (.ref a1)]))) st28 ?_
  have f29 := (((((((((Fbounds.ext E2).keep K6 (ninS (Nat.ne_of_lt (Nat.lt_of_lt_of_le E1.lt (Nat.le_of_eq g2.symm))) nin0)).other W9 (Or.inr (slot_ne (Or.inr (Wd53 hw)) (Or.inr (Wd36 hw)) (by decide) (t := (.array .long)) (t' := (.object "java/util/BitSet")) (by decide) (by decide)))).other W12 (Or.inr (slot_ne (Or.inr (Wd53 hw)) (Or.inr (Wd38 hw)) (by decide) (t := (.array .long)) (t' := .int) (by decide) (by decide)))).other W15 (Or.inr (slot_ne (Or.inr (Wd53 hw)) (Or.inr (Wd40 hw)) (by decide) (t := (.array .long)) (t' := (.array .int)) (by decide) (by decide)))).other W18 (Or.inr (slot_ne (Or.inr (Wd53 hw)) (Or.inr (Wd42 hw)) (by decide) (t := (.array .long)) (t' := (.array .long)) (by decide) (by decide)))).other W21 (Or.inr (slot_ne (Or.inr (Wd53 hw)) (Or.inr (Wd44 hw)) (by decide) (t := (.array .long)) (t' := .boolean) (by decide) (by decide)))).other W26 (Or.inr (slot_ne (Or.inr (Wd53 hw)) (Or.inr (Wd47 hw)) (by decide) (t := (.array .long)) (t' := .int) (by decide) (by decide)))).ext E28)
  have f30 := ((f25.wr W26).ext E28)
  obtain ⟨T31, h31, X31, e31, W31, st31⟩ := putF X28 hx hZ hown (host := "") (Or.inl (Wd52 hw)) Via.refl e28 f29 f30 (Or.inr ⟨(Wd53 hw), rfl, hnm⟩) (Wd3 hw) (ty := (.array .long)) (by decide) rfl rfl (g := (mkF m 81 #[.val (.ref a1), .val (.int 1), .val (.ref da), .val (.ref ca), .val (.int rp), .val (.int 0), .val (.int 0), .val (.int 2), .unset, .unset, .unset, .unset] [(.ref b28), (.ref a1)])) rfl rfl (bd d2_81)
  have Fx31 := f29.same W31
  have N31 := Fr.snoc X31 N27 g1
  refine OD.go st31 ?_
  refine OD.go (B := (T31.setTop (mkF m 87 #[.val (.ref a1), .val (.int 1), .val (.ref da), .val (.ref ca), .val (.int rp), .val (.int 0), .val (.int 0), .val (.int 2), .unset, .unset, .unset, .unset] [(.int 2), (.ref a1)]))) (fun t k => XS.aloadN X31.here hx rfl (bd d2_84) rfl rfl (XS.iload X31.here hx rfl (bd d2_85) rfl k)) ?_
  obtain ⟨T32, h32, k32, X32, e32, E32, A32, st32⟩ := newP X31 hx hZ (aty := .int) (Wd0 hw) e31 (g := (mkF m 87 #[.val (.ref a1), .val (.int 1), .val (.ref da), .val (.ref ca), .val (.int rp), .val (.int 0), .val (.int 0), .val (.int 2), .unset, .unset, .unset, .unset] [(.int 2), (.ref a1)])) rfl (bd d2_87) rfl (by decide) (cap := 2) (by decide) (by decide) (nl rfl) (nl rfl)
  obtain ⟨b32, g32⟩ : ∃ z, z = h31.size := ⟨_, rfl⟩
  rw [← g32] at A32 st32
  have V32 : Arv Z h32 b32 k32 .int 2 [(.int 0), (.int 0)] (.int 0) := (Arv.new A32 (by decide)).pad (pad_rep [] (.int 0) 2)
  refine OD.go (B := (T32.setTop (mkF m 89 #[.val (.ref a1), .val (.int 1), .val (.ref da), .val (.ref ca), .val (.int rp), .val (.int 0), .val (.int 0), .val (.int 2), .unset, .unset, .unset, .unset] [(.ref b32), (.ref a1)]))) st32 ?_
  have f33 := (((((((((((FleastDocs.ext E2).keep K6 (ninS (Nat.ne_of_lt (Nat.lt_of_lt_of_le E1.lt (Nat.le_of_eq g2.symm))) nin0)).other W9 (Or.inr (slot_ne (Or.inr (Wd55 hw)) (Or.inr (Wd36 hw)) (by decide) (t := (.array .int)) (t' := (.object "java/util/BitSet")) (by decide) (by decide)))).other W12 (Or.inr (slot_ne (Or.inr (Wd55 hw)) (Or.inr (Wd38 hw)) (by decide) (t := (.array .int)) (t' := .int) (by decide) (by decide)))).other W15 (Or.inr (slot_ne (Or.inr (Wd55 hw)) (Or.inr (Wd40 hw)) (by decide) (t := (.array .int)) (t' := (.array .int)) (by decide) (by decide)))).other W18 (Or.inr (slot_ne (Or.inr (Wd55 hw)) (Or.inr (Wd42 hw)) (by decide) (t := (.array .int)) (t' := (.array .long)) (by decide) (by decide)))).other W21 (Or.inr (slot_ne (Or.inr (Wd55 hw)) (Or.inr (Wd44 hw)) (by decide) (t := (.array .int)) (t' := .boolean) (by decide) (by decide)))).other W26 (Or.inr (slot_ne (Or.inr (Wd55 hw)) (Or.inr (Wd47 hw)) (by decide) (t := (.array .int)) (t' := .int) (by decide) (by decide)))).ext E28).other W31 (Or.inr (slot_ne (Or.inr (Wd55 hw)) (Or.inr (Wd53 hw)) (by decide) (t := (.array .int)) (t' := (.array .long)) (by decide) (by decide)))).ext E32)
  have f34 := ((f30.wr W31).ext E32)
  obtain ⟨T35, h35, X35, e35, W35, st35⟩ := putF X32 hx hZ hown (host := "") (Or.inl (Wd54 hw)) Via.refl e32 f33 f34 (Or.inr ⟨(Wd55 hw), rfl, hnm⟩) (Wd3 hw) (ty := (.array .int)) (by decide) rfl rfl (g := (mkF m 89 #[.val (.ref a1), .val (.int 1), .val (.ref da), .val (.ref ca), .val (.int rp), .val (.int 0), .val (.int 0), .val (.int 2), .unset, .unset, .unset, .unset] [(.ref b32), (.ref a1)])) rfl rfl (bd d2_89)
  have Fx35 := f33.same W35
  have N35 := Fr.snoc X35 N31 g1
  refine OD.go st35 ?_
  refine OD.go (B := (T35.setTop (mkF m 97 #[.val (.ref a1), .val (.int 1), .val (.ref da), .val (.ref ca), .val (.int rp), .val (.int 0), .val (.int 0), .val (.int 2), .val (.ref da), .unset, .unset, .unset] [(.ref da)]))) (fun t k => XS.aloadN X35.here hx rfl (bd d2_92) rfl rfl (XS.astore X35.here hx rfl (bd d2_93) rfl rfl (l' := #[.val (.ref a1), .val (.int 1), .val (.ref da), .val (.ref ca), .val (.int rp), .val (.int 0), .val (.int 0), .val (.int 2), .val (.ref da), .unset, .unset, .unset]) rfl (XS.aload X35.here hx rfl (bd d2_95) rfl rfl k))) ?_
  have f36 := (((((f22.other W26 (Ne.symm nd)).ext E28).other W31 (Ne.symm nd)).ext E32).other W35 (Ne.symm nd))
  obtain ⟨cl37, Ar37, hl37⟩ := own_len f36
  refine OD.go (B := (T35.setTop (mkF m 98 #[.val (.ref a1), .val (.int 1), .val (.ref da), .val (.ref ca), .val (.int rp), .val (.int 0), .val (.int 0), .val (.int 2), .val (.ref da), .unset, .unset, .unset] [(.int 3)]))) (fun t k => X35.arraylength hx (by rw [e35]; exact Ar37.1) (State.isArrayOf_alike hZ.alike Ar37.2.1) (g := (mkF m 97 #[.val (.ref a1), .val (.int 1), .val (.ref da), .val (.ref ca), .val (.int rp), .val (.int 0), .val (.int 0), .val (.int 2), .val (.ref da), .unset, .unset, .unset] [(.ref da)])) rfl rfl (bd d2_97) _ (by rw [hl37]; exact k)) ?_
  refine OD.go (B := (T35.setTop (mkF m 114 #[.val (.ref a1), .val (.int 1), .val (.ref da), .val (.ref ca), .val (.int rp), .val (.int 0), .val (.int 0), .val (.int 2), .val (.ref da), .val (.int 3), .val (.int 0), .unset] [(.int 0), (.ref da)]))) (fun t k => XS.istore X35.here hx rfl (bd d2_98) rfl (l' := #[.val (.ref a1), .val (.int 1), .val (.ref da), .val (.ref ca), .val (.int rp), .val (.int 0), .val (.int 0), .val (.int 2), .val (.ref da), .val (.int 3), .unset, .unset]) rfl (XS.iconst X35.here hx rfl (bd d2_100) (XS.istore X35.here hx rfl (bd d2_101) rfl (l' := #[.val (.ref a1), .val (.int 1), .val (.ref da), .val (.ref ca), .val (.int rp), .val (.int 0), .val (.int 0), .val (.int 2), .val (.ref da), .val (.int 3), .val (.int 0), .unset]) rfl (XS.iload X35.here hx rfl (bd d2_103) rfl (XS.iload X35.here hx rfl (bd d2_105) rfl (XS.icmpNo X35.here hx rfl (bd d2_107) rfl (tlt (by decide : (0 : Int32) < (3 : Int32))).2.1 (XS.aload X35.here hx rfl (bd d2_110) rfl rfl (XS.iload X35.here hx rfl (bd d2_112) rfl k)))))))) ?_
  obtain ⟨cl38, Ar38, hi38, ha38⟩ := own_at f36 (j := (0 : Int32)) (v := (.int xa)) ⟨by decide, by decide⟩ rfl
  refine OD.go (B := (T35.setTop (mkF m 118 #[.val (.ref a1), .val (.int 1), .val (.ref da), .val (.ref ca), .val (.int rp), .val (.int 0), .val (.int 0), .val (.int 2), .val (.ref da), .val (.int 3), .val (.int 0), .val (.int xa)] [(.ref a1)]))) (fun t k => X35.iaload hx (j := (0 : Int32)) (v := (.int xa)) (by rw [e35]; exact Ar38.1) (State.isArrayOf_alike hZ.alike Ar38.2.1) Ar38.2.2 hi38 ha38 (g := (mkF m 114 #[.val (.ref a1), .val (.int 1), .val (.ref da), .val (.ref ca), .val (.int rp), .val (.int 0), .val (.int 0), .val (.int 2), .val (.ref da), .val (.int 3), .val (.int 0), .unset] [(.int 0), (.ref da)])) rfl rfl (bd d2_114) _ (XS.istore X35.here hx rfl (bd d2_115) rfl (l' := #[.val (.ref a1), .val (.int 1), .val (.ref da), .val (.ref ca), .val (.int rp), .val (.int 0), .val (.int 0), .val (.int 2), .val (.ref da), .val (.int 3), .val (.int 0), .val (.int xa)]) rfl (XS.aloadN X35.here hx rfl (bd d2_117) rfl rfl k))) ?_
  have f39 := (((((((((Fx9.other W12 (Or.inr (slot_ne (Or.inr (Wd36 hw)) (Or.inr (Wd38 hw)) (by decide) (t := (.object "java/util/BitSet")) (t' := .int) (by decide) (by decide)))).other W15 (Or.inr (slot_ne (Or.inr (Wd36 hw)) (Or.inr (Wd40 hw)) (by decide) (t := (.object "java/util/BitSet")) (t' := (.array .int)) (by decide) (by decide)))).other W18 (Or.inr (slot_ne (Or.inr (Wd36 hw)) (Or.inr (Wd42 hw)) (by decide) (t := (.object "java/util/BitSet")) (t' := (.array .long)) (by decide) (by decide)))).other W21 (Or.inr (slot_ne (Or.inr (Wd36 hw)) (Or.inr (Wd44 hw)) (by decide) (t := (.object "java/util/BitSet")) (t' := .boolean) (by decide) (by decide)))).other W26 (Or.inr (slot_ne (Or.inr (Wd36 hw)) (Or.inr (Wd47 hw)) (by decide) (t := (.object "java/util/BitSet")) (t' := .int) (by decide) (by decide)))).ext E28).other W31 (Or.inr (slot_ne (Or.inr (Wd36 hw)) (Or.inr (Wd53 hw)) (by decide) (t := (.object "java/util/BitSet")) (t' := (.array .long)) (by decide) (by decide)))).ext E32).other W35 (Or.inr (slot_ne (Or.inr (Wd36 hw)) (Or.inr (Wd55 hw)) (by decide) (t := (.object "java/util/BitSet")) (t' := (.array .int)) (by decide) (by decide))))
  obtain ⟨T40, X40, e40, st40⟩ := getF X35 hx hZ hown (host := "") (Or.inl (Wd35 hw)) Via.refl e35 f39 (g := (mkF m 118 #[.val (.ref a1), .val (.int 1), .val (.ref da), .val (.ref ca), .val (.int rp), .val (.int 0), .val (.int 0), .val (.int 2), .val (.ref da), .val (.int 3), .val (.int 0), .val (.int xa)] [(.ref a1)])) rfl rfl (bd d2_118)
  refine OD.go st40 ?_
  refine OD.go (B := (T40.setTop (mkF m 123 #[.val (.ref a1), .val (.int 1), .val (.ref da), .val (.ref ca), .val (.int rp), .val (.int 0), .val (.int 0), .val (.int 2), .val (.ref da), .val (.int 3), .val (.int 0), .val (.int xa)] [(.int xa), (.ref b2)]))) (fun t k => XS.iload X40.here hx rfl (bd d2_121) rfl k) ?_
  have f41 := (((((((((((A2.keep K6).wr W9).wr W12).wr W15).wr W18).wr W21).wr W26).ext E28).wr W31).ext E32).wr W35)
  have f42 := ((((((((((F06.other W9 (Or.inl (Ne.symm (Nat.ne_of_lt (Nat.lt_of_lt_of_le E1.lt (Nat.le_of_eq g2.symm)))))).other W12 (Or.inl (Ne.symm (Nat.ne_of_lt (Nat.lt_of_lt_of_le E1.lt (Nat.le_of_eq g2.symm)))))).other W15 (Or.inl (Ne.symm (Nat.ne_of_lt (Nat.lt_of_lt_of_le E1.lt (Nat.le_of_eq g2.symm)))))).other W18 (Or.inl (Ne.symm (Nat.ne_of_lt (Nat.lt_of_lt_of_le E1.lt (Nat.le_of_eq g2.symm)))))).other W21 (Or.inl (Ne.symm (Nat.ne_of_lt (Nat.lt_of_lt_of_le E1.lt (Nat.le_of_eq g2.symm)))))).other W26 (Or.inl (Ne.symm (Nat.ne_of_lt (Nat.lt_of_lt_of_le E1.lt (Nat.le_of_eq g2.symm)))))).ext E28).other W31 (Or.inl (Ne.symm (Nat.ne_of_lt (Nat.lt_of_lt_of_le E1.lt (Nat.le_of_eq g2.symm)))))).ext E32).other W35 (Or.inl (Ne.symm (Nat.ne_of_lt (Nat.lt_of_lt_of_le E1.lt (Nat.le_of_eq g2.symm))))))
  have f43 := ((((((((((F26.other W9 (Or.inl (Ne.symm (Nat.ne_of_lt (Nat.lt_of_lt_of_le E1.lt (Nat.le_of_eq g2.symm)))))).other W12 (Or.inl (Ne.symm (Nat.ne_of_lt (Nat.lt_of_lt_of_le E1.lt (Nat.le_of_eq g2.symm)))))).other W15 (Or.inl (Ne.symm (Nat.ne_of_lt (Nat.lt_of_lt_of_le E1.lt (Nat.le_of_eq g2.symm)))))).other W18 (Or.inl (Ne.symm (Nat.ne_of_lt (Nat.lt_of_lt_of_le E1.lt (Nat.le_of_eq g2.symm)))))).other W21 (Or.inl (Ne.symm (Nat.ne_of_lt (Nat.lt_of_lt_of_le E1.lt (Nat.le_of_eq g2.symm)))))).other W26 (Or.inl (Ne.symm (Nat.ne_of_lt (Nat.lt_of_lt_of_le E1.lt (Nat.le_of_eq g2.symm)))))).ext E28).other W31 (Or.inl (Ne.symm (Nat.ne_of_lt (Nat.lt_of_lt_of_le E1.lt (Nat.le_of_eq g2.symm)))))).ext E32).other W35 (Or.inl (Ne.symm (Nat.ne_of_lt (Nat.lt_of_lt_of_le E1.lt (Nat.le_of_eq g2.symm))))))
  have f44 := ((((((((((A6.other W9 (Ne.symm (Nat.ne_of_lt (Nat.lt_of_lt_of_le (Nat.lt_of_lt_of_le E1.lt E2.1) ob6)))).other W12 (Ne.symm (Nat.ne_of_lt (Nat.lt_of_lt_of_le (Nat.lt_of_lt_of_le E1.lt E2.1) ob6)))).other W15 (Ne.symm (Nat.ne_of_lt (Nat.lt_of_lt_of_le (Nat.lt_of_lt_of_le E1.lt E2.1) ob6)))).other W18 (Ne.symm (Nat.ne_of_lt (Nat.lt_of_lt_of_le (Nat.lt_of_lt_of_le E1.lt E2.1) ob6)))).other W21 (Ne.symm (Nat.ne_of_lt (Nat.lt_of_lt_of_le (Nat.lt_of_lt_of_le E1.lt E2.1) ob6)))).other W26 (Ne.symm (Nat.ne_of_lt (Nat.lt_of_lt_of_le (Nat.lt_of_lt_of_le E1.lt E2.1) ob6)))).ext E28).other W31 (Ne.symm (Nat.ne_of_lt (Nat.lt_of_lt_of_le (Nat.lt_of_lt_of_le E1.lt E2.1) ob6)))).ext E32).other W35 (Ne.symm (Nat.ne_of_lt (Nat.lt_of_lt_of_le (Nat.lt_of_lt_of_le E1.lt E2.1) ob6))))
  obtain ⟨cq45, kq45, qa45, qb45, qc45⟩ := isOf hZ e40 f41
  obtain ⟨_, _, ⟨T45, L45, k45, n45⟩, -, X45, ⟨Lc45, hQ45, l45, y45, z45⟩, st45⟩ := X40.virtualBack hx (y := (⟨"java/util/BitSet", "set", "(I)V"⟩ : MethodName)) (z := (⟨"java/util/BitSet", "set", "(I)V"⟩ : MethodName)) hown (mvT hZ (Wd56 hw)) (mvT hZ (Wd57 hw)) (notFace_of_selects (args := #[]) (mvT hZ (Wd59 hw))) (mvT hZ (Wd59 hw)) (mvT hZ (Wd58 hw)) (by decide) (backOf (W := 0) (rmST0 l Z a0 hw [] b2 xa h35 n0 (Nat.le_trans (Nat.le_trans (Nat.le_trans (Nat.le_trans (Nat.le_trans (Nat.le_trans (Nat.le_trans (Nat.le_trans (Nat.le_trans (Nat.le_trans (Nat.le_trans (Nat.le_trans Z0 E2.1) K6.1) (Keep.of_wr W9).1) (Keep.of_wr W12).1) (Keep.of_wr W15).1) (Keep.of_wr W18).1) (Keep.of_wr W21).1) (Keep.of_wr W26).1) E28.1) (Keep.of_wr W31).1) E32.1) (Keep.of_wr W35).1) b6 ((((((((((((X00.ext E2).keep K6 (allS (Nat.le_trans Z0 (Nat.le_of_eq g2.symm)) all0)).wr W9 g1).wr W12 g1).wr W15 g1).wr W18 g1).wr W21 g1).wr W26 g1).ext E28).wr W31 g1).ext E32).wr W35 g1) Sad f41 (Nat.le_trans Z0 (Nat.le_of_eq g2.symm)) f42 f43 kw6 (0 : Int64) f44 gb6 (Nat.ne_of_lt (Nat.lt_of_lt_of_le A2.lt ob6)) sa) hZ (Wd60 hw) (Wd16 hw) (by decide) (by decide)) qa45 qc45 (g := (mkF m 123 #[.val (.ref a1), .val (.int 1), .val (.ref da), .val (.ref ca), .val (.int rp), .val (.int 0), .val (.int 0), .val (.int 2), .val (.ref da), .val (.int 3), .val (.int 0), .val (.int xa)] [(.int xa), (.ref b2)])) rfl (by rw [hml]; rfl) (Steps.refl _) (argsL := [(.int xa)]) (rest := []) (lenOf pd1 rfl) rfl (by show 2 * 0 + _ ≤ _; exact Nat.le_of_eq rfl) (bd d2_123) (fun _ _ => ⟨rfl, e40, (nl rfl), (nl rfl)⟩)
  dsimp only [Pt.U, Pt.locs, Pt.cells, Pt.slots] at X45 l45 y45 z45 st45 hQ45
  subst l45 y45 z45
  obtain ⟨rfl, Nq45, K45, U45, P45, A45⟩ := hQ45
  have N45 := Fr.app N35 Nq45
  refine OD.via st45 ?_
  refine OD.go (B := (T45.setTop (mkF m 114 #[.val (.ref a1), .val (.int 1), .val (.ref da), .val (.ref ca), .val (.int rp), .val (.int 0), .val (.int 0), .val (.int 2), .val (.ref da), .val (.int 3), .val (.int 1), .val (.int xa)] [(.int 1), (.ref da)]))) (fun t k => XS.iinc X45.here hx rfl (bd d2_126) rfl (l' := #[.val (.ref a1), .val (.int 1), .val (.ref da), .val (.ref ca), .val (.int rp), .val (.int 0), .val (.int 0), .val (.int 2), .val (.ref da), .val (.int 3), .val (.int 1), .val (.int xa)]) rfl (XS.goto X45.here hx rfl (pc0 := 129) (pc' := 103) rfl (bd d2_129) (by decide) (by decide) (XS.iload X45.here hx rfl (bd d2_103) rfl (XS.iload X45.here hx rfl (bd d2_105) rfl (XS.icmpNo X45.here hx rfl (bd d2_107) rfl (tlt (by decide : (1 : Int32) < (3 : Int32))).2.1 (XS.aload X45.here hx rfl (bd d2_110) rfl rfl (XS.iload X45.here hx rfl (bd d2_112) rfl k))))))) ?_
  have f46 := (f36.keep K45 (ninS (Nat.ne_of_lt (Nat.lt_of_lt_of_le Ad.lt (Nat.le_of_eq g2.symm))) (ninS (Nat.ne_of_lt (Nat.lt_of_lt_of_le (Nat.lt_of_lt_of_le Ad.lt E2.1) ob6)) nin0)))
  obtain ⟨cl47, Ar47, hi47, ha47⟩ := own_at f46 (j := (1 : Int32)) (v := (.int xb)) ⟨by decide, by decide⟩ rfl
  refine OD.go (B := (T45.setTop (mkF m 118 #[.val (.ref a1), .val (.int 1), .val (.ref da), .val (.ref ca), .val (.int rp), .val (.int 0), .val (.int 0), .val (.int 2), .val (.ref da), .val (.int 3), .val (.int 1), .val (.int xb)] [(.ref a1)]))) (fun t k => X45.iaload hx (j := (1 : Int32)) (v := (.int xb)) (by exact Ar47.1) (State.isArrayOf_alike hZ.alike Ar47.2.1) Ar47.2.2 hi47 ha47 (g := (mkF m 114 #[.val (.ref a1), .val (.int 1), .val (.ref da), .val (.ref ca), .val (.int rp), .val (.int 0), .val (.int 0), .val (.int 2), .val (.ref da), .val (.int 3), .val (.int 1), .val (.int xa)] [(.int 1), (.ref da)])) rfl rfl (bd d2_114) _ (XS.istore X45.here hx rfl (bd d2_115) rfl (l' := #[.val (.ref a1), .val (.int 1), .val (.ref da), .val (.ref ca), .val (.int rp), .val (.int 0), .val (.int 0), .val (.int 2), .val (.ref da), .val (.int 3), .val (.int 1), .val (.int xb)]) rfl (XS.aloadN X45.here hx rfl (bd d2_117) rfl rfl k))) ?_
  have f48 := (f39.keep K45 (ninS (Nat.ne_of_lt (Nat.lt_of_lt_of_le E1.lt (Nat.le_of_eq g2.symm))) (ninS (Nat.ne_of_lt (Nat.lt_of_lt_of_le (Nat.lt_of_lt_of_le E1.lt E2.1) ob6)) nin0)))
  obtain ⟨T49, X49, e49, st49⟩ := getF X45 hx hZ hown (host := "") (Or.inl (Wd35 hw)) Via.refl rfl f48 (g := (mkF m 118 #[.val (.ref a1), .val (.int 1), .val (.ref da), .val (.ref ca), .val (.int rp), .val (.int 0), .val (.int 0), .val (.int 2), .val (.ref da), .val (.int 3), .val (.int 1), .val (.int xb)] [(.ref a1)])) rfl rfl (bd d2_118)
  refine OD.go st49 ?_
  refine OD.go (B := (T49.setTop (mkF m 123 #[.val (.ref a1), .val (.int 1), .val (.ref da), .val (.ref ca), .val (.int rp), .val (.int 0), .val (.int 0), .val (.int 2), .val (.ref da), .val (.int 3), .val (.int 1), .val (.int xb)] [(.int xb), (.ref b2)]))) (fun t k => XS.iload X49.here hx rfl (bd d2_121) rfl k) ?_
  have f50 := (f41.keep K45)
  obtain ⟨cq51, kq51, qa51, qb51, qc51⟩ := isOf hZ e49 f50
  obtain ⟨_, _, ⟨T51, L51, k51, n51⟩, -, X51, ⟨Lc51, hQ51, l51, y51, z51⟩, st51⟩ := X49.virtualBack hx (y := (⟨"java/util/BitSet", "set", "(I)V"⟩ : MethodName)) (z := (⟨"java/util/BitSet", "set", "(I)V"⟩ : MethodName)) hown (mvT hZ (Wd56 hw)) (mvT hZ (Wd57 hw)) (notFace_of_selects (args := #[]) (mvT hZ (Wd59 hw))) (mvT hZ (Wd59 hw)) (mvT hZ (Wd58 hw)) (by decide) (backOf (W := 0) (rmST1 l Z a0 hw [] b2 xb T45.heap n0 (Nat.le_trans (Nat.le_trans (Nat.le_trans (Nat.le_trans (Nat.le_trans (Nat.le_trans (Nat.le_trans (Nat.le_trans (Nat.le_trans (Nat.le_trans (Nat.le_trans (Nat.le_trans (Nat.le_trans Z0 E2.1) K6.1) (Keep.of_wr W9).1) (Keep.of_wr W12).1) (Keep.of_wr W15).1) (Keep.of_wr W18).1) (Keep.of_wr W21).1) (Keep.of_wr W26).1) E28.1) (Keep.of_wr W31).1) E32.1) (Keep.of_wr W35).1) K45.1) b6 (((((((((((((X00.ext E2).keep K6 (allS (Nat.le_trans Z0 (Nat.le_of_eq g2.symm)) all0)).wr W9 g1).wr W12 g1).wr W15 g1).wr W18 g1).wr W21 g1).wr W26 g1).ext E28).wr W31 g1).ext E32).wr W35 g1).keep K45 (allS (Nat.le_trans Z0 (Nat.le_of_eq g2.symm)) (allS gb6 all0))) Sad f50 (Nat.le_trans Z0 (Nat.le_of_eq g2.symm)) U45 P45 kw6 ((0 : Int64) ||| own_bit xa) A45 gb6 (Nat.ne_of_lt (Nat.lt_of_lt_of_le A2.lt ob6)) sb) hZ (Wd60 hw) (Wd16 hw) (by decide) (by decide)) qa51 qc51 (g := (mkF m 123 #[.val (.ref a1), .val (.int 1), .val (.ref da), .val (.ref ca), .val (.int rp), .val (.int 0), .val (.int 0), .val (.int 2), .val (.ref da), .val (.int 3), .val (.int 1), .val (.int xb)] [(.int xb), (.ref b2)])) rfl (by rw [hml]; rfl) (Steps.refl _) (argsL := [(.int xb)]) (rest := []) (lenOf pd1 rfl) rfl (by show 2 * 0 + _ ≤ _; exact Nat.le_of_eq rfl) (bd d2_123) (fun _ _ => ⟨rfl, e49, (nl rfl), (nl rfl)⟩)
  dsimp only [Pt.U, Pt.locs, Pt.cells, Pt.slots] at X51 l51 y51 z51 st51 hQ51
  subst l51 y51 z51
  obtain ⟨rfl, Nq51, K51, U51, P51, A51⟩ := hQ51
  have N51 := Fr.app N45 Nq51
  refine OD.via st51 ?_
  refine OD.go (B := (T51.setTop (mkF m 114 #[.val (.ref a1), .val (.int 1), .val (.ref da), .val (.ref ca), .val (.int rp), .val (.int 0), .val (.int 0), .val (.int 2), .val (.ref da), .val (.int 3), .val (.int 2), .val (.int xb)] [(.int 2), (.ref da)]))) (fun t k => XS.iinc X51.here hx rfl (bd d2_126) rfl (l' := #[.val (.ref a1), .val (.int 1), .val (.ref da), .val (.ref ca), .val (.int rp), .val (.int 0), .val (.int 0), .val (.int 2), .val (.ref da), .val (.int 3), .val (.int 2), .val (.int xb)]) rfl (XS.goto X51.here hx rfl (pc0 := 129) (pc' := 103) rfl (bd d2_129) (by decide) (by decide) (XS.iload X51.here hx rfl (bd d2_103) rfl (XS.iload X51.here hx rfl (bd d2_105) rfl (XS.icmpNo X51.here hx rfl (bd d2_107) rfl (tlt (by decide : (2 : Int32) < (3 : Int32))).2.1 (XS.aload X51.here hx rfl (bd d2_110) rfl rfl (XS.iload X51.here hx rfl (bd d2_112) rfl k))))))) ?_
  have f52 := (f46.keep K51 (ninS (Nat.ne_of_lt (Nat.lt_of_lt_of_le Ad.lt (Nat.le_of_eq g2.symm))) (ninS (Nat.ne_of_lt (Nat.lt_of_lt_of_le (Nat.lt_of_lt_of_le Ad.lt E2.1) ob6)) nin0)))
  obtain ⟨cl53, Ar53, hi53, ha53⟩ := own_at f52 (j := (2 : Int32)) (v := (.int xc)) ⟨by decide, by decide⟩ rfl
  refine OD.go (B := (T51.setTop (mkF m 118 #[.val (.ref a1), .val (.int 1), .val (.ref da), .val (.ref ca), .val (.int rp), .val (.int 0), .val (.int 0), .val (.int 2), .val (.ref da), .val (.int 3), .val (.int 2), .val (.int xc)] [(.ref a1)]))) (fun t k => X51.iaload hx (j := (2 : Int32)) (v := (.int xc)) (by exact Ar53.1) (State.isArrayOf_alike hZ.alike Ar53.2.1) Ar53.2.2 hi53 ha53 (g := (mkF m 114 #[.val (.ref a1), .val (.int 1), .val (.ref da), .val (.ref ca), .val (.int rp), .val (.int 0), .val (.int 0), .val (.int 2), .val (.ref da), .val (.int 3), .val (.int 2), .val (.int xb)] [(.int 2), (.ref da)])) rfl rfl (bd d2_114) _ (XS.istore X51.here hx rfl (bd d2_115) rfl (l' := #[.val (.ref a1), .val (.int 1), .val (.ref da), .val (.ref ca), .val (.int rp), .val (.int 0), .val (.int 0), .val (.int 2), .val (.ref da), .val (.int 3), .val (.int 2), .val (.int xc)]) rfl (XS.aloadN X51.here hx rfl (bd d2_117) rfl rfl k))) ?_
  have f54 := (f48.keep K51 (ninS (Nat.ne_of_lt (Nat.lt_of_lt_of_le E1.lt (Nat.le_of_eq g2.symm))) (ninS (Nat.ne_of_lt (Nat.lt_of_lt_of_le (Nat.lt_of_lt_of_le E1.lt E2.1) ob6)) nin0)))
  obtain ⟨T55, X55, e55, st55⟩ := getF X51 hx hZ hown (host := "") (Or.inl (Wd35 hw)) Via.refl rfl f54 (g := (mkF m 118 #[.val (.ref a1), .val (.int 1), .val (.ref da), .val (.ref ca), .val (.int rp), .val (.int 0), .val (.int 0), .val (.int 2), .val (.ref da), .val (.int 3), .val (.int 2), .val (.int xc)] [(.ref a1)])) rfl rfl (bd d2_118)
  refine OD.go st55 ?_
  refine OD.go (B := (T55.setTop (mkF m 123 #[.val (.ref a1), .val (.int 1), .val (.ref da), .val (.ref ca), .val (.int rp), .val (.int 0), .val (.int 0), .val (.int 2), .val (.ref da), .val (.int 3), .val (.int 2), .val (.int xc)] [(.int xc), (.ref b2)]))) (fun t k => XS.iload X55.here hx rfl (bd d2_121) rfl k) ?_
  have f56 := (f50.keep K51)
  obtain ⟨cq57, kq57, qa57, qb57, qc57⟩ := isOf hZ e55 f56
  obtain ⟨_, _, ⟨T57, L57, k57, n57⟩, -, X57, ⟨Lc57, hQ57, l57, y57, z57⟩, st57⟩ := X55.virtualBack hx (y := (⟨"java/util/BitSet", "set", "(I)V"⟩ : MethodName)) (z := (⟨"java/util/BitSet", "set", "(I)V"⟩ : MethodName)) hown (mvT hZ (Wd56 hw)) (mvT hZ (Wd57 hw)) (notFace_of_selects (args := #[]) (mvT hZ (Wd59 hw))) (mvT hZ (Wd59 hw)) (mvT hZ (Wd58 hw)) (by decide) (backOf (W := 0) (rmST1 l Z a0 hw [] b2 xc T51.heap n0 (Nat.le_trans (Nat.le_trans (Nat.le_trans (Nat.le_trans (Nat.le_trans (Nat.le_trans (Nat.le_trans (Nat.le_trans (Nat.le_trans (Nat.le_trans (Nat.le_trans (Nat.le_trans (Nat.le_trans (Nat.le_trans Z0 E2.1) K6.1) (Keep.of_wr W9).1) (Keep.of_wr W12).1) (Keep.of_wr W15).1) (Keep.of_wr W18).1) (Keep.of_wr W21).1) (Keep.of_wr W26).1) E28.1) (Keep.of_wr W31).1) E32.1) (Keep.of_wr W35).1) K45.1) K51.1) b6 ((((((((((((((X00.ext E2).keep K6 (allS (Nat.le_trans Z0 (Nat.le_of_eq g2.symm)) all0)).wr W9 g1).wr W12 g1).wr W15 g1).wr W18 g1).wr W21 g1).wr W26 g1).ext E28).wr W31 g1).ext E32).wr W35 g1).keep K45 (allS (Nat.le_trans Z0 (Nat.le_of_eq g2.symm)) (allS gb6 all0))).keep K51 (allS (Nat.le_trans Z0 (Nat.le_of_eq g2.symm)) (allS gb6 all0))) Sad f56 (Nat.le_trans Z0 (Nat.le_of_eq g2.symm)) U51 P51 kw6 (((0 : Int64) ||| own_bit xa) ||| own_bit xb) A51 gb6 (Nat.ne_of_lt (Nat.lt_of_lt_of_le A2.lt ob6)) sc) hZ (Wd60 hw) (Wd16 hw) (by decide) (by decide)) qa57 qc57 (g := (mkF m 123 #[.val (.ref a1), .val (.int 1), .val (.ref da), .val (.ref ca), .val (.int rp), .val (.int 0), .val (.int 0), .val (.int 2), .val (.ref da), .val (.int 3), .val (.int 2), .val (.int xc)] [(.int xc), (.ref b2)])) rfl (by rw [hml]; rfl) (Steps.refl _) (argsL := [(.int xc)]) (rest := []) (lenOf pd1 rfl) rfl (by show 2 * 0 + _ ≤ _; exact Nat.le_of_eq rfl) (bd d2_123) (fun _ _ => ⟨rfl, e55, (nl rfl), (nl rfl)⟩)
  dsimp only [Pt.U, Pt.locs, Pt.cells, Pt.slots] at X57 l57 y57 z57 st57 hQ57
  subst l57 y57 z57
  obtain ⟨rfl, Nq57, K57, U57, P57, A57⟩ := hQ57
  have N57 := Fr.app N51 Nq57
  refine OD.via st57 ?_
  refine OD.go (B := (T57.setTop (mkF m 134 #[.val (.ref a1), .val (.int 1), .val (.ref da), .val (.ref ca), .val (.int rp), .val (.int 0), .val (.int 0), .val (.int 2), .val (.ref da), .val (.int 3), .val (.int 3), .val (.int xc)] [(.ref a1), (.ref a1)]))) (fun t k => XS.iinc X57.here hx rfl (bd d2_126) rfl (l' := #[.val (.ref a1), .val (.int 1), .val (.ref da), .val (.ref ca), .val (.int rp), .val (.int 0), .val (.int 0), .val (.int 2), .val (.ref da), .val (.int 3), .val (.int 3), .val (.int xc)]) rfl (XS.goto X57.here hx rfl (pc0 := 129) (pc' := 103) rfl (bd d2_129) (by decide) (by decide) (XS.iload X57.here hx rfl (bd d2_103) rfl (XS.iload X57.here hx rfl (bd d2_105) rfl (XS.icmpYes X57.here hx rfl (pc0 := 107) (pc' := 132) rfl (bd d2_107) rfl (flt (by decide : ¬ (3 : Int32) < (3 : Int32))).2.1 (by decide) (by decide) (XS.aloadN X57.here hx rfl (bd d2_132) rfl rfl (XS.aloadN X57.here hx rfl (bd d2_133) rfl rfl k))))))) ?_
  have f58 := (f54.keep K57 (ninS (Nat.ne_of_lt (Nat.lt_of_lt_of_le E1.lt (Nat.le_of_eq g2.symm))) (ninS (Nat.ne_of_lt (Nat.lt_of_lt_of_le (Nat.lt_of_lt_of_le E1.lt E2.1) ob6)) nin0)))
  obtain ⟨T59, X59, e59, st59⟩ := getF X57 hx hZ hown (host := "") (Or.inl (Wd35 hw)) Via.refl rfl f58 (g := (mkF m 134 #[.val (.ref a1), .val (.int 1), .val (.ref da), .val (.ref ca), .val (.int rp), .val (.int 0), .val (.int 0), .val (.int 2), .val (.ref da), .val (.int 3), .val (.int 3), .val (.int xc)] [(.ref a1), (.ref a1)])) rfl rfl (bd d2_134)
  refine OD.go (B := (T59.setTop (mkF m 137 #[.val (.ref a1), .val (.int 1), .val (.ref da), .val (.ref ca), .val (.int rp), .val (.int 0), .val (.int 0), .val (.int 2), .val (.ref da), .val (.int 3), .val (.int 3), .val (.int xc)] [(.ref b2), (.ref a1)]))) st59 ?_
  have f60 := (f56.keep K57)
  obtain ⟨cq61, kq61, qa61, qb61, qc61⟩ := isOf hZ e59 f60
  obtain ⟨_, _, ⟨T61, L61, k61, n61⟩, -, X61, ⟨Lc61, hQ61, l61, y61, z61⟩, st61⟩ := X59.virtualBack hx (y := (⟨"java/util/BitSet", "cardinality", "()I"⟩ : MethodName)) (z := (⟨"java/util/BitSet", "cardinality", "()I"⟩ : MethodName)) hown (mvT hZ (Wd77 hw)) (mvT hZ (Wd78 hw)) (notFace_of_selects (args := #[]) (mvT hZ (Wd80 hw))) (mvT hZ (Wd80 hw)) (mvT hZ (Wd79 hw)) (by decide) (backOf (W := 1) (rmCD l Z a0 hw [] b2 T57.heap n0 (Nat.le_trans (Nat.le_trans (Nat.le_trans (Nat.le_trans (Nat.le_trans (Nat.le_trans (Nat.le_trans (Nat.le_trans (Nat.le_trans (Nat.le_trans (Nat.le_trans (Nat.le_trans (Nat.le_trans (Nat.le_trans (Nat.le_trans Z0 E2.1) K6.1) (Keep.of_wr W9).1) (Keep.of_wr W12).1) (Keep.of_wr W15).1) (Keep.of_wr W18).1) (Keep.of_wr W21).1) (Keep.of_wr W26).1) E28.1) (Keep.of_wr W31).1) E32.1) (Keep.of_wr W35).1) K45.1) K51.1) K57.1) b6 (((((((((((((((X00.ext E2).keep K6 (allS (Nat.le_trans Z0 (Nat.le_of_eq g2.symm)) all0)).wr W9 g1).wr W12 g1).wr W15 g1).wr W18 g1).wr W21 g1).wr W26 g1).ext E28).wr W31 g1).ext E32).wr W35 g1).keep K45 (allS (Nat.le_trans Z0 (Nat.le_of_eq g2.symm)) (allS gb6 all0))).keep K51 (allS (Nat.le_trans Z0 (Nat.le_of_eq g2.symm)) (allS gb6 all0))).keep K57 (allS (Nat.le_trans Z0 (Nat.le_of_eq g2.symm)) (allS gb6 all0))) Sad f60 (Nat.le_trans Z0 (Nat.le_of_eq g2.symm)) U57 P57 kw6 ((((0 : Int64) ||| own_bit xa) ||| own_bit xb) ||| own_bit xc) A57 gb6 (Nat.ne_of_lt (Nat.lt_of_lt_of_le A2.lt ob6))) hZ (Wd81 hw) (Wd16 hw) (by decide) (by decide)) qa61 qc61 (g := (mkF m 137 #[.val (.ref a1), .val (.int 1), .val (.ref da), .val (.ref ca), .val (.int rp), .val (.int 0), .val (.int 0), .val (.int 2), .val (.ref da), .val (.int 3), .val (.int 3), .val (.int xc)] [(.ref b2), (.ref a1)])) rfl (by rw [hml]; rfl) (Steps.refl _) (argsL := []) (rest := [(.ref a1)]) (lenOf pd7 rfl) rfl (by show 2 * 0 + _ ≤ _; exact Nat.le_of_eq rfl) (bd d2_137) (fun _ _ => ⟨rfl, e59, (nl rfl), (nl rfl)⟩)
  dsimp only [Pt.U, Pt.locs, Pt.cells, Pt.slots] at X61 l61 y61 z61 st61 hQ61
  subst l61 y61 z61
  obtain ⟨rfl, rfl, e61⟩ := hQ61
  have N61 := Fr.app N57 (Fr.nil _)
  refine OD.via (B := (T61.setTop (mkF m 140 #[.val (.ref a1), .val (.int 1), .val (.ref da), .val (.ref ca), .val (.int rp), .val (.int 0), .val (.int 0), .val (.int 2), .val (.ref da), .val (.int 3), .val (.int 3), .val (.int xc)] [(.int ((0 : Int32) + own_bc ((((0 : Int64) ||| own_bit xa) ||| own_bit xb) ||| own_bit xc))), (.ref a1)]))) st61 ?_
  have f62 := (((((((((((((((FdocumentCount.ext E2).keep K6 (ninS (Nat.ne_of_lt (Nat.lt_of_lt_of_le E1.lt (Nat.le_of_eq g2.symm))) nin0)).other W9 (Or.inr (slot_ne (Or.inr (Wd90 hw)) (Or.inr (Wd36 hw)) (by decide) (t := .int) (t' := (.object "java/util/BitSet")) (by decide) (by decide)))).other W12 (Or.inr (slot_ne (Or.inr (Wd90 hw)) (Or.inr (Wd38 hw)) (by decide) (t := .int) (t' := .int) (by decide) (by decide)))).other W15 (Or.inr (slot_ne (Or.inr (Wd90 hw)) (Or.inr (Wd40 hw)) (by decide) (t := .int) (t' := (.array .int)) (by decide) (by decide)))).other W18 (Or.inr (slot_ne (Or.inr (Wd90 hw)) (Or.inr (Wd42 hw)) (by decide) (t := .int) (t' := (.array .long)) (by decide) (by decide)))).other W21 (Or.inr (slot_ne (Or.inr (Wd90 hw)) (Or.inr (Wd44 hw)) (by decide) (t := .int) (t' := .boolean) (by decide) (by decide)))).other W26 (Or.inr (slot_ne (Or.inr (Wd90 hw)) (Or.inr (Wd47 hw)) (by decide) (t := .int) (t' := .int) (by decide) (by decide)))).ext E28).other W31 (Or.inr (slot_ne (Or.inr (Wd90 hw)) (Or.inr (Wd53 hw)) (by decide) (t := .int) (t' := (.array .long)) (by decide) (by decide)))).ext E32).other W35 (Or.inr (slot_ne (Or.inr (Wd90 hw)) (Or.inr (Wd55 hw)) (by decide) (t := .int) (t' := (.array .int)) (by decide) (by decide)))).keep K45 (ninS (Nat.ne_of_lt (Nat.lt_of_lt_of_le E1.lt (Nat.le_of_eq g2.symm))) (ninS (Nat.ne_of_lt (Nat.lt_of_lt_of_le (Nat.lt_of_lt_of_le E1.lt E2.1) ob6)) nin0))).keep K51 (ninS (Nat.ne_of_lt (Nat.lt_of_lt_of_le E1.lt (Nat.le_of_eq g2.symm))) (ninS (Nat.ne_of_lt (Nat.lt_of_lt_of_le (Nat.lt_of_lt_of_le E1.lt E2.1) ob6)) nin0))).keep K57 (ninS (Nat.ne_of_lt (Nat.lt_of_lt_of_le E1.lt (Nat.le_of_eq g2.symm))) (ninS (Nat.ne_of_lt (Nat.lt_of_lt_of_le (Nat.lt_of_lt_of_le E1.lt E2.1) ob6)) nin0)))
  have f63 := ((((f34.wr W35).keep K45).keep K51).keep K57)
  obtain ⟨T64, h64, X64, e64, W64, st64⟩ := putF X61 hx hZ hown (host := "") (Or.inl (Wd89 hw)) Via.refl e61 f62 f63 (Or.inr ⟨(Wd90 hw), rfl, hnm⟩) (Wd3 hw) (ty := .int) (by decide) rfl rfl (g := (mkF m 140 #[.val (.ref a1), .val (.int 1), .val (.ref da), .val (.ref ca), .val (.int rp), .val (.int 0), .val (.int 0), .val (.int 2), .val (.ref da), .val (.int 3), .val (.int 3), .val (.int xc)] [(.int ((0 : Int32) + own_bc ((((0 : Int64) ||| own_bit xa) ||| own_bit xb) ||| own_bit xc))), (.ref a1)])) rfl rfl (bd d2_140)
  have Fx64 := f62.same W64
  have N64 := Fr.snoc X64 N61 g1
  refine OD.go st64 ?_
  refine OD.go (B := (T64.setTop (mkF m 145 #[.val (.ref a1), .val (.int 1), .val (.ref da), .val (.ref ca), .val (.int rp), .val (.int 0), .val (.int 0), .val (.int 2), .val (.ref da), .val (.int 3), .val (.int 3), .val (.int xc)] [(.ref a1), (.ref a1)]))) (fun t k => XS.aloadN X64.here hx rfl (bd d2_143) rfl rfl (XS.aloadN X64.here hx rfl (bd d2_144) rfl rfl k)) ?_
  obtain ⟨T65, X65, e65, st65⟩ := getF X64 hx hZ hown (host := "") (Or.inl (Wd89 hw)) Via.refl e64 Fx64 (g := (mkF m 145 #[.val (.ref a1), .val (.int 1), .val (.ref da), .val (.ref ca), .val (.int rp), .val (.int 0), .val (.int 0), .val (.int 2), .val (.ref da), .val (.int 3), .val (.int 3), .val (.int xc)] [(.ref a1), (.ref a1)])) rfl rfl (bd d2_145)
  refine OD.go (B := (T65.setTop (mkF m 148 #[.val (.ref a1), .val (.int 1), .val (.ref da), .val (.ref ca), .val (.int rp), .val (.int 0), .val (.int 0), .val (.int 2), .val (.ref da), .val (.int 3), .val (.int 3), .val (.int xc)] [(.int ((0 : Int32) + own_bc ((((0 : Int64) ||| own_bit xa) ||| own_bit xb) ||| own_bit xc))), (.ref a1)]))) st65 ?_
  have f66 := ((((((((((((((((FcurrentCount.ext E2).keep K6 (ninS (Nat.ne_of_lt (Nat.lt_of_lt_of_le E1.lt (Nat.le_of_eq g2.symm))) nin0)).other W9 (Or.inr (slot_ne (Or.inl (Wd92 hw)) (Or.inr (Wd36 hw)) (by decide) (t := .int) (t' := (.object "java/util/BitSet")) (by decide) (by decide)))).other W12 (Or.inr (slot_ne (Or.inl (Wd92 hw)) (Or.inr (Wd38 hw)) (by decide) (t := .int) (t' := .int) (by decide) (by decide)))).other W15 (Or.inr (slot_ne (Or.inl (Wd92 hw)) (Or.inr (Wd40 hw)) (by decide) (t := .int) (t' := (.array .int)) (by decide) (by decide)))).other W18 (Or.inr (slot_ne (Or.inl (Wd92 hw)) (Or.inr (Wd42 hw)) (by decide) (t := .int) (t' := (.array .long)) (by decide) (by decide)))).other W21 (Or.inr (slot_ne (Or.inl (Wd92 hw)) (Or.inr (Wd44 hw)) (by decide) (t := .int) (t' := .boolean) (by decide) (by decide)))).other W26 (Or.inr (slot_ne (Or.inl (Wd92 hw)) (Or.inr (Wd47 hw)) (by decide) (t := .int) (t' := .int) (by decide) (by decide)))).ext E28).other W31 (Or.inr (slot_ne (Or.inl (Wd92 hw)) (Or.inr (Wd53 hw)) (by decide) (t := .int) (t' := (.array .long)) (by decide) (by decide)))).ext E32).other W35 (Or.inr (slot_ne (Or.inl (Wd92 hw)) (Or.inr (Wd55 hw)) (by decide) (t := .int) (t' := (.array .int)) (by decide) (by decide)))).keep K45 (ninS (Nat.ne_of_lt (Nat.lt_of_lt_of_le E1.lt (Nat.le_of_eq g2.symm))) (ninS (Nat.ne_of_lt (Nat.lt_of_lt_of_le (Nat.lt_of_lt_of_le E1.lt E2.1) ob6)) nin0))).keep K51 (ninS (Nat.ne_of_lt (Nat.lt_of_lt_of_le E1.lt (Nat.le_of_eq g2.symm))) (ninS (Nat.ne_of_lt (Nat.lt_of_lt_of_le (Nat.lt_of_lt_of_le E1.lt E2.1) ob6)) nin0))).keep K57 (ninS (Nat.ne_of_lt (Nat.lt_of_lt_of_le E1.lt (Nat.le_of_eq g2.symm))) (ninS (Nat.ne_of_lt (Nat.lt_of_lt_of_le (Nat.lt_of_lt_of_le E1.lt E2.1) ob6)) nin0))).other W64 (Or.inr (slot_ne (Or.inl (Wd92 hw)) (Or.inr (Wd90 hw)) (by decide) (t := .int) (t' := .int) (by decide) (by decide))))
  have f67 := (f63.wr W64)
  obtain ⟨T68, h68, X68, e68, W68, st68⟩ := putF X65 hx hZ hown (host := "") (Or.inl (Wd91 hw)) Via.refl e65 f66 f67 (Or.inl (Wd92 hw)) (Wd3 hw) (ty := .int) (by decide) rfl rfl (g := (mkF m 148 #[.val (.ref a1), .val (.int 1), .val (.ref da), .val (.ref ca), .val (.int rp), .val (.int 0), .val (.int 0), .val (.int 2), .val (.ref da), .val (.int 3), .val (.int 3), .val (.int xc)] [(.int ((0 : Int32) + own_bc ((((0 : Int64) ||| own_bit xa) ||| own_bit xb) ||| own_bit xc))), (.ref a1)])) rfl rfl (bd d2_148)
  have Fx68 := f66.same W68
  have N68 := Fr.snoc X68 N64 g1
  refine OD.go st68 ?_
  refine OD.go (B := (T68.setTop (mkF m 162 #[.val (.ref a1), .val (.int 1), .val (.ref da), .val (.ref ca), .val (.int rp), .val (.int 0), .val (.int 0), .val (.int 2), .val (.ref da), .val (.int 3), .val (.int 3), .val (.int xc)] [(.ref a1)]))) (fun t k => XS.iloadN X68.here hx rfl (bd d2_151) rfl (XS.iconst X68.here hx rfl (bd d2_152) (XS.icmpNo X68.here hx rfl (bd d2_153) rfl (teq (by decide : (1 : Int32) = (1 : Int32))).2 (XS.iload X68.here hx rfl (bd d2_156) rfl (XS.ifNo X68.here hx rfl (bd d2_158) rfl (by rw [if0]; exact (teq (by decide : (0 : Int32) = (0 : Int32))).2) (XS.aloadN X68.here hx rfl (bd d2_161) rfl rfl k)))))) ?_
  have f69 := (((((((((((((((((Ac.ext E2).keep K6 (ninS (Nat.ne_of_lt (Nat.lt_of_lt_of_le Ac.lt (Nat.le_of_eq g2.symm))) nin0)).other W9 (Ne.symm nc)).other W12 (Ne.symm nc)).other W15 (Ne.symm nc)).other W18 (Ne.symm nc)).other W21 (Ne.symm nc)).other W26 (Ne.symm nc)).ext E28).other W31 (Ne.symm nc)).ext E32).other W35 (Ne.symm nc)).keep K45 (ninS (Nat.ne_of_lt (Nat.lt_of_lt_of_le Ac.lt (Nat.le_of_eq g2.symm))) (ninS (Nat.ne_of_lt (Nat.lt_of_lt_of_le (Nat.lt_of_lt_of_le Ac.lt E2.1) ob6)) nin0))).keep K51 (ninS (Nat.ne_of_lt (Nat.lt_of_lt_of_le Ac.lt (Nat.le_of_eq g2.symm))) (ninS (Nat.ne_of_lt (Nat.lt_of_lt_of_le (Nat.lt_of_lt_of_le Ac.lt E2.1) ob6)) nin0))).keep K57 (ninS (Nat.ne_of_lt (Nat.lt_of_lt_of_le Ac.lt (Nat.le_of_eq g2.symm))) (ninS (Nat.ne_of_lt (Nat.lt_of_lt_of_le (Nat.lt_of_lt_of_le Ac.lt E2.1) ob6)) nin0))).other W64 (Ne.symm nc)).other W68 (Ne.symm nc))
  have Vf70 : Arv Z h68 ca kc .long (3 : Int32) (own_rg (3 : Int32).toNatClampNeg (fun x => .long ((own_l3 ya yb yc) x))) (.long (0 : Int64)) := f69
  have f71 := (((f52.keep K57 (ninS (Nat.ne_of_lt (Nat.lt_of_lt_of_le Ad.lt (Nat.le_of_eq g2.symm))) (ninS (Nat.ne_of_lt (Nat.lt_of_lt_of_le (Nat.lt_of_lt_of_le Ad.lt E2.1) ob6)) nin0))).other W64 (Ne.symm nd)).other W68 (Ne.symm nd))
  have Vf72 : Arv Z h68 da kd .int 3 (own_rg (3 : Int32).toNatClampNeg (fun x => .int ((own_l3 xa xb xc) x))) (.int 0) := f71
  have f73 := (((((((((((Fx18.other W21 (Or.inr (slot_ne (Or.inr (Wd42 hw)) (Or.inr (Wd44 hw)) (by decide) (t := (.array .long)) (t' := .boolean) (by decide) (by decide)))).other W26 (Or.inr (slot_ne (Or.inr (Wd42 hw)) (Or.inr (Wd47 hw)) (by decide) (t := (.array .long)) (t' := .int) (by decide) (by decide)))).ext E28).other W31 (Or.inr (slot_ne (Or.inr (Wd42 hw)) (Or.inr (Wd53 hw)) (by decide) (t := (.array .long)) (t' := (.array .long)) (by decide) (by decide)))).ext E32).other W35 (Or.inr (slot_ne (Or.inr (Wd42 hw)) (Or.inr (Wd55 hw)) (by decide) (t := (.array .long)) (t' := (.array .int)) (by decide) (by decide)))).keep K45 (ninS (Nat.ne_of_lt (Nat.lt_of_lt_of_le E1.lt (Nat.le_of_eq g2.symm))) (ninS (Nat.ne_of_lt (Nat.lt_of_lt_of_le (Nat.lt_of_lt_of_le E1.lt E2.1) ob6)) nin0))).keep K51 (ninS (Nat.ne_of_lt (Nat.lt_of_lt_of_le E1.lt (Nat.le_of_eq g2.symm))) (ninS (Nat.ne_of_lt (Nat.lt_of_lt_of_le (Nat.lt_of_lt_of_le E1.lt E2.1) ob6)) nin0))).keep K57 (ninS (Nat.ne_of_lt (Nat.lt_of_lt_of_le E1.lt (Nat.le_of_eq g2.symm))) (ninS (Nat.ne_of_lt (Nat.lt_of_lt_of_le (Nat.lt_of_lt_of_le E1.lt E2.1) ob6)) nin0))).other W64 (Or.inr (slot_ne (Or.inr (Wd42 hw)) (Or.inr (Wd90 hw)) (by decide) (t := (.array .long)) (t' := .int) (by decide) (by decide)))).other W68 (Or.inr (slot_ne (Or.inr (Wd42 hw)) (Or.inl (Wd92 hw)) (by decide) (t := (.array .long)) (t' := .int) (by decide) (by decide))))
  have f74 := ((((((((((((Fx15.other W18 (Or.inr (slot_ne (Or.inr (Wd40 hw)) (Or.inr (Wd42 hw)) (by decide) (t := (.array .int)) (t' := (.array .long)) (by decide) (by decide)))).other W21 (Or.inr (slot_ne (Or.inr (Wd40 hw)) (Or.inr (Wd44 hw)) (by decide) (t := (.array .int)) (t' := .boolean) (by decide) (by decide)))).other W26 (Or.inr (slot_ne (Or.inr (Wd40 hw)) (Or.inr (Wd47 hw)) (by decide) (t := (.array .int)) (t' := .int) (by decide) (by decide)))).ext E28).other W31 (Or.inr (slot_ne (Or.inr (Wd40 hw)) (Or.inr (Wd53 hw)) (by decide) (t := (.array .int)) (t' := (.array .long)) (by decide) (by decide)))).ext E32).other W35 (Or.inr (slot_ne (Or.inr (Wd40 hw)) (Or.inr (Wd55 hw)) (by decide) (t := (.array .int)) (t' := (.array .int)) (by decide) (by decide)))).keep K45 (ninS (Nat.ne_of_lt (Nat.lt_of_lt_of_le E1.lt (Nat.le_of_eq g2.symm))) (ninS (Nat.ne_of_lt (Nat.lt_of_lt_of_le (Nat.lt_of_lt_of_le E1.lt E2.1) ob6)) nin0))).keep K51 (ninS (Nat.ne_of_lt (Nat.lt_of_lt_of_le E1.lt (Nat.le_of_eq g2.symm))) (ninS (Nat.ne_of_lt (Nat.lt_of_lt_of_le (Nat.lt_of_lt_of_le E1.lt E2.1) ob6)) nin0))).keep K57 (ninS (Nat.ne_of_lt (Nat.lt_of_lt_of_le E1.lt (Nat.le_of_eq g2.symm))) (ninS (Nat.ne_of_lt (Nat.lt_of_lt_of_le (Nat.lt_of_lt_of_le E1.lt E2.1) ob6)) nin0))).other W64 (Or.inr (slot_ne (Or.inr (Wd40 hw)) (Or.inr (Wd90 hw)) (by decide) (t := (.array .int)) (t' := .int) (by decide) (by decide)))).other W68 (Or.inr (slot_ne (Or.inr (Wd40 hw)) (Or.inl (Wd92 hw)) (by decide) (t := (.array .int)) (t' := .int) (by decide) (by decide))))
  have f75 := (f67.wr W68)
  obtain ⟨cq76, qa76, qb76⟩ := f75.cell
  obtain ⟨_, _, ⟨T76, L76, k76, n76⟩, -, X76, ⟨Lc76, hQ76, l76, y76, z76⟩, st76⟩ := X68.privateBack hx (y := (⟨zZ0, "sortByCoordinate", "()V"⟩ : MethodName)) hown (mvT hZ (Wd93 hw)) (mvT hZ (Wd94 hw)) (mvT hZ (own_selP (Wd3 hw) (Wd95 hw) (Wd94 hw) (by decide))) (Cond.privateMethod_at (mvP hZ (Wd95 hw) (args := #[]))) (mvT hZ (Wd96 hw)) (by decide) (backOf (W := 0) (rmSO l Z a0 hw [] a1 h68 n0 (Nat.le_trans (Nat.le_trans (Nat.le_trans (Nat.le_trans (Nat.le_trans (Nat.le_trans (Nat.le_trans (Nat.le_trans (Nat.le_trans (Nat.le_trans (Nat.le_trans (Nat.le_trans (Nat.le_trans (Nat.le_trans (Nat.le_trans (Nat.le_trans (Nat.le_trans Z0 E2.1) K6.1) (Keep.of_wr W9).1) (Keep.of_wr W12).1) (Keep.of_wr W15).1) (Keep.of_wr W18).1) (Keep.of_wr W21).1) (Keep.of_wr W26).1) E28.1) (Keep.of_wr W31).1) E32.1) (Keep.of_wr W35).1) K45.1) K51.1) K57.1) (Keep.of_wr W64).1) (Keep.of_wr W68).1) ca da kc kd (own_l3 ya yb yc) (own_l3 xa xb xc) f73 f74 Vf70 Vf72 gc gd nc nd ncd) hZ (Wd96 hw) (Wd4 hw) (by decide) (by decide)) (g := (mkF m 162 #[.val (.ref a1), .val (.int 1), .val (.ref da), .val (.ref ca), .val (.int rp), .val (.int 0), .val (.int 0), .val (.int 2), .val (.ref da), .val (.int 3), .val (.int 3), .val (.int xc)] [(.ref a1)])) rfl (by rw [hml]; rfl) (Steps.refl _) (a := a1) (by rw [e68]; exact qa76) qb76 (argsL := []) (rest := []) (lenOf pd2 rfl) rfl (by show 2 * 0 + _ ≤ _; exact Nat.le_of_eq rfl) (bd d2_162) (fun _ _ => ⟨rfl, e68, (nl rfl), (nl rfl)⟩)
  dsimp only [Pt.U, Pt.locs, Pt.cells, Pt.slots] at X76 l76 y76 z76 st76 hQ76
  subst l76 y76 z76
  obtain ⟨f76, g_76, rfl, Nq76, K76, Ac76, Ad76⟩ := hQ76
  have N76 := Fr.app N68 Nq76
  refine OD.via st76 ?_
  refine OD.go (B := (T76.setTop (mkF m 166 #[.val (.ref a1), .val (.int 1), .val (.ref da), .val (.ref ca), .val (.int rp), .val (.int 0), .val (.int 0), .val (.int 2), .val (.ref da), .val (.int 3), .val (.int 3), .val (.int xc)] [(.ref da)]))) (fun t k => XS.aloadN X76.here hx rfl (bd d2_165) rfl rfl k) ?_
  obtain ⟨cl77, Ar77, hl77⟩ := own_len Ad76
  refine OD.go (B := (T76.setTop (mkF m 167 #[.val (.ref a1), .val (.int 1), .val (.ref da), .val (.ref ca), .val (.int rp), .val (.int 0), .val (.int 0), .val (.int 2), .val (.ref da), .val (.int 3), .val (.int 3), .val (.int xc)] [(.int 3)]))) (fun t k => X76.arraylength hx (by exact Ar77.1) (State.isArrayOf_alike hZ.alike Ar77.2.1) (g := (mkF m 166 #[.val (.ref a1), .val (.int 1), .val (.ref da), .val (.ref ca), .val (.int rp), .val (.int 0), .val (.int 0), .val (.int 2), .val (.ref da), .val (.int 3), .val (.int 3), .val (.int xc)] [(.ref da)])) rfl rfl (bd d2_166) _ (by rw [hl77]; exact k)) ?_
  refine OD.go (B := (T76.setTop (mkF m 174 #[.val (.ref a1), .val (.int 1), .val (.ref da), .val (.ref ca), .val (.int rp), .val (.int 0), .val (.int 0), .val (.int 2), .val (.ref da), .val (.int 3), .val (.int 3), .val (.int xc)] [(.ref da), (.int 0), (.int 1), (.ref a1)]))) (fun t k => XS.ifNo X76.here hx rfl (bd d2_167) rfl (by rw [if0]; exact (tlt (by decide : (0 : Int32) < (3 : Int32))).2.2.2) (XS.aloadN X76.here hx rfl (bd d2_170) rfl rfl (XS.iconst X76.here hx rfl (bd d2_171) (XS.iconst X76.here hx rfl (bd d2_172) (XS.aloadN X76.here hx rfl (bd d2_173) rfl rfl k))))) ?_
  obtain ⟨cl78, Ar78, hl78⟩ := own_len Ad76
  refine OD.go (B := (T76.setTop (mkF m 175 #[.val (.ref a1), .val (.int 1), .val (.ref da), .val (.ref ca), .val (.int rp), .val (.int 0), .val (.int 0), .val (.int 2), .val (.ref da), .val (.int 3), .val (.int 3), .val (.int xc)] [(.int 3), (.int 0), (.int 1), (.ref a1)]))) (fun t k => X76.arraylength hx (by exact Ar78.1) (State.isArrayOf_alike hZ.alike Ar78.2.1) (g := (mkF m 174 #[.val (.ref a1), .val (.int 1), .val (.ref da), .val (.ref ca), .val (.int rp), .val (.int 0), .val (.int 0), .val (.int 2), .val (.ref da), .val (.int 3), .val (.int 3), .val (.int xc)] [(.ref da), (.int 0), (.int 1), (.ref a1)])) rfl rfl (bd d2_174) _ (by rw [hl78]; exact k)) ?_
  refine OD.go (B := (T76.setTop (mkF m 176 #[.val (.ref a1), .val (.int 1), .val (.ref da), .val (.ref ca), .val (.int rp), .val (.int 0), .val (.int 0), .val (.int 2), .val (.ref da), .val (.int 3), .val (.int 3), .val (.int xc)] [(.int 0), (.int 3), (.int 0), (.int 1), (.ref a1)]))) (fun t k => XS.iconst X76.here hx rfl (bd d2_175) k) ?_
  have f79 := ((((((((((((((Fx12.other W15 (Or.inr (slot_ne (Or.inr (Wd38 hw)) (Or.inr (Wd40 hw)) (by decide) (t := .int) (t' := (.array .int)) (by decide) (by decide)))).other W18 (Or.inr (slot_ne (Or.inr (Wd38 hw)) (Or.inr (Wd42 hw)) (by decide) (t := .int) (t' := (.array .long)) (by decide) (by decide)))).other W21 (Or.inr (slot_ne (Or.inr (Wd38 hw)) (Or.inr (Wd44 hw)) (by decide) (t := .int) (t' := .boolean) (by decide) (by decide)))).other W26 (Or.inr (slot_ne (Or.inr (Wd38 hw)) (Or.inr (Wd47 hw)) (by decide) (t := .int) (t' := .int) (by decide) (by decide)))).ext E28).other W31 (Or.inr (slot_ne (Or.inr (Wd38 hw)) (Or.inr (Wd53 hw)) (by decide) (t := .int) (t' := (.array .long)) (by decide) (by decide)))).ext E32).other W35 (Or.inr (slot_ne (Or.inr (Wd38 hw)) (Or.inr (Wd55 hw)) (by decide) (t := .int) (t' := (.array .int)) (by decide) (by decide)))).keep K45 (ninS (Nat.ne_of_lt (Nat.lt_of_lt_of_le E1.lt (Nat.le_of_eq g2.symm))) (ninS (Nat.ne_of_lt (Nat.lt_of_lt_of_le (Nat.lt_of_lt_of_le E1.lt E2.1) ob6)) nin0))).keep K51 (ninS (Nat.ne_of_lt (Nat.lt_of_lt_of_le E1.lt (Nat.le_of_eq g2.symm))) (ninS (Nat.ne_of_lt (Nat.lt_of_lt_of_le (Nat.lt_of_lt_of_le E1.lt E2.1) ob6)) nin0))).keep K57 (ninS (Nat.ne_of_lt (Nat.lt_of_lt_of_le E1.lt (Nat.le_of_eq g2.symm))) (ninS (Nat.ne_of_lt (Nat.lt_of_lt_of_le (Nat.lt_of_lt_of_le E1.lt E2.1) ob6)) nin0))).other W64 (Or.inr (slot_ne (Or.inr (Wd38 hw)) (Or.inr (Wd90 hw)) (by decide) (t := .int) (t' := .int) (by decide) (by decide)))).other W68 (Or.inr (slot_ne (Or.inr (Wd38 hw)) (Or.inl (Wd92 hw)) (by decide) (t := .int) (t' := .int) (by decide) (by decide)))).keep K76 (ninS nc (ninS nd nin0)))
  have f80 := ((((((((Fx31.ext E32).other W35 (Or.inr (slot_ne (Or.inr (Wd53 hw)) (Or.inr (Wd55 hw)) (by decide) (t := (.array .long)) (t' := (.array .int)) (by decide) (by decide)))).keep K45 (ninS (Nat.ne_of_lt (Nat.lt_of_lt_of_le E1.lt (Nat.le_of_eq g2.symm))) (ninS (Nat.ne_of_lt (Nat.lt_of_lt_of_le (Nat.lt_of_lt_of_le E1.lt E2.1) ob6)) nin0))).keep K51 (ninS (Nat.ne_of_lt (Nat.lt_of_lt_of_le E1.lt (Nat.le_of_eq g2.symm))) (ninS (Nat.ne_of_lt (Nat.lt_of_lt_of_le (Nat.lt_of_lt_of_le E1.lt E2.1) ob6)) nin0))).keep K57 (ninS (Nat.ne_of_lt (Nat.lt_of_lt_of_le E1.lt (Nat.le_of_eq g2.symm))) (ninS (Nat.ne_of_lt (Nat.lt_of_lt_of_le (Nat.lt_of_lt_of_le E1.lt E2.1) ob6)) nin0))).other W64 (Or.inr (slot_ne (Or.inr (Wd53 hw)) (Or.inr (Wd90 hw)) (by decide) (t := (.array .long)) (t' := .int) (by decide) (by decide)))).other W68 (Or.inr (slot_ne (Or.inr (Wd53 hw)) (Or.inl (Wd92 hw)) (by decide) (t := (.array .long)) (t' := .int) (by decide) (by decide)))).keep K76 (ninS nc (ninS nd nin0)))
  have f81 := (f73.keep K76 (ninS nc (ninS nd nin0)))
  have f82 := (((((((((V28.other W31 (Ne.symm (Nat.ne_of_lt (Nat.lt_of_lt_of_le (Nat.lt_of_lt_of_le (Nat.lt_of_lt_of_le (Nat.lt_of_lt_of_le (Nat.lt_of_lt_of_le (Nat.lt_of_lt_of_le (Nat.lt_of_lt_of_le (Nat.lt_of_lt_of_le (Nat.lt_of_lt_of_le E1.lt E2.1) K6.1) (Keep.of_wr W9).1) (Keep.of_wr W12).1) (Keep.of_wr W15).1) (Keep.of_wr W18).1) (Keep.of_wr W21).1) (Keep.of_wr W26).1) (Nat.le_of_eq g28.symm))))).ext E32).other W35 (Ne.symm (Nat.ne_of_lt (Nat.lt_of_lt_of_le (Nat.lt_of_lt_of_le (Nat.lt_of_lt_of_le (Nat.lt_of_lt_of_le (Nat.lt_of_lt_of_le (Nat.lt_of_lt_of_le (Nat.lt_of_lt_of_le (Nat.lt_of_lt_of_le (Nat.lt_of_lt_of_le E1.lt E2.1) K6.1) (Keep.of_wr W9).1) (Keep.of_wr W12).1) (Keep.of_wr W15).1) (Keep.of_wr W18).1) (Keep.of_wr W21).1) (Keep.of_wr W26).1) (Nat.le_of_eq g28.symm))))).keep K45 (ninS (Ne.symm (Nat.ne_of_lt (Nat.lt_of_lt_of_le (Nat.lt_of_lt_of_le (Nat.lt_of_lt_of_le (Nat.lt_of_lt_of_le (Nat.lt_of_lt_of_le (Nat.lt_of_lt_of_le (Nat.lt_of_lt_of_le (Nat.lt_of_lt_of_le A2.lt K6.1) (Keep.of_wr W9).1) (Keep.of_wr W12).1) (Keep.of_wr W15).1) (Keep.of_wr W18).1) (Keep.of_wr W21).1) (Keep.of_wr W26).1) (Nat.le_of_eq g28.symm)))) (ninS (Ne.symm (Nat.ne_of_lt (Nat.lt_of_lt_of_le (Nat.lt_of_lt_of_le (Nat.lt_of_lt_of_le (Nat.lt_of_lt_of_le (Nat.lt_of_lt_of_le (Nat.lt_of_lt_of_le (Nat.lt_of_lt_of_le A6.lt (Keep.of_wr W9).1) (Keep.of_wr W12).1) (Keep.of_wr W15).1) (Keep.of_wr W18).1) (Keep.of_wr W21).1) (Keep.of_wr W26).1) (Nat.le_of_eq g28.symm)))) nin0))).keep K51 (ninS (Ne.symm (Nat.ne_of_lt (Nat.lt_of_lt_of_le (Nat.lt_of_lt_of_le (Nat.lt_of_lt_of_le (Nat.lt_of_lt_of_le (Nat.lt_of_lt_of_le (Nat.lt_of_lt_of_le (Nat.lt_of_lt_of_le (Nat.lt_of_lt_of_le A2.lt K6.1) (Keep.of_wr W9).1) (Keep.of_wr W12).1) (Keep.of_wr W15).1) (Keep.of_wr W18).1) (Keep.of_wr W21).1) (Keep.of_wr W26).1) (Nat.le_of_eq g28.symm)))) (ninS (Ne.symm (Nat.ne_of_lt (Nat.lt_of_lt_of_le (Nat.lt_of_lt_of_le (Nat.lt_of_lt_of_le (Nat.lt_of_lt_of_le (Nat.lt_of_lt_of_le (Nat.lt_of_lt_of_le (Nat.lt_of_lt_of_le A6.lt (Keep.of_wr W9).1) (Keep.of_wr W12).1) (Keep.of_wr W15).1) (Keep.of_wr W18).1) (Keep.of_wr W21).1) (Keep.of_wr W26).1) (Nat.le_of_eq g28.symm)))) nin0))).keep K57 (ninS (Ne.symm (Nat.ne_of_lt (Nat.lt_of_lt_of_le (Nat.lt_of_lt_of_le (Nat.lt_of_lt_of_le (Nat.lt_of_lt_of_le (Nat.lt_of_lt_of_le (Nat.lt_of_lt_of_le (Nat.lt_of_lt_of_le (Nat.lt_of_lt_of_le A2.lt K6.1) (Keep.of_wr W9).1) (Keep.of_wr W12).1) (Keep.of_wr W15).1) (Keep.of_wr W18).1) (Keep.of_wr W21).1) (Keep.of_wr W26).1) (Nat.le_of_eq g28.symm)))) (ninS (Ne.symm (Nat.ne_of_lt (Nat.lt_of_lt_of_le (Nat.lt_of_lt_of_le (Nat.lt_of_lt_of_le (Nat.lt_of_lt_of_le (Nat.lt_of_lt_of_le (Nat.lt_of_lt_of_le (Nat.lt_of_lt_of_le A6.lt (Keep.of_wr W9).1) (Keep.of_wr W12).1) (Keep.of_wr W15).1) (Keep.of_wr W18).1) (Keep.of_wr W21).1) (Keep.of_wr W26).1) (Nat.le_of_eq g28.symm)))) nin0))).other W64 (Ne.symm (Nat.ne_of_lt (Nat.lt_of_lt_of_le (Nat.lt_of_lt_of_le (Nat.lt_of_lt_of_le (Nat.lt_of_lt_of_le (Nat.lt_of_lt_of_le (Nat.lt_of_lt_of_le (Nat.lt_of_lt_of_le (Nat.lt_of_lt_of_le (Nat.lt_of_lt_of_le E1.lt E2.1) K6.1) (Keep.of_wr W9).1) (Keep.of_wr W12).1) (Keep.of_wr W15).1) (Keep.of_wr W18).1) (Keep.of_wr W21).1) (Keep.of_wr W26).1) (Nat.le_of_eq g28.symm))))).other W68 (Ne.symm (Nat.ne_of_lt (Nat.lt_of_lt_of_le (Nat.lt_of_lt_of_le (Nat.lt_of_lt_of_le (Nat.lt_of_lt_of_le (Nat.lt_of_lt_of_le (Nat.lt_of_lt_of_le (Nat.lt_of_lt_of_le (Nat.lt_of_lt_of_le (Nat.lt_of_lt_of_le E1.lt E2.1) K6.1) (Keep.of_wr W9).1) (Keep.of_wr W12).1) (Keep.of_wr W15).1) (Keep.of_wr W18).1) (Keep.of_wr W21).1) (Keep.of_wr W26).1) (Nat.le_of_eq g28.symm))))).keep K76 (ninS (Ne.symm (Nat.ne_of_lt (Nat.lt_of_lt_of_le (Nat.lt_of_lt_of_le (Nat.lt_of_lt_of_le (Nat.lt_of_lt_of_le (Nat.lt_of_lt_of_le (Nat.lt_of_lt_of_le (Nat.lt_of_lt_of_le (Nat.lt_of_lt_of_le (Nat.lt_of_lt_of_le Ac.lt E2.1) K6.1) (Keep.of_wr W9).1) (Keep.of_wr W12).1) (Keep.of_wr W15).1) (Keep.of_wr W18).1) (Keep.of_wr W21).1) (Keep.of_wr W26).1) (Nat.le_of_eq g28.symm)))) (ninS (Ne.symm (Nat.ne_of_lt (Nat.lt_of_lt_of_le (Nat.lt_of_lt_of_le (Nat.lt_of_lt_of_le (Nat.lt_of_lt_of_le (Nat.lt_of_lt_of_le (Nat.lt_of_lt_of_le (Nat.lt_of_lt_of_le (Nat.lt_of_lt_of_le (Nat.lt_of_lt_of_le Ad.lt E2.1) K6.1) (Keep.of_wr W9).1) (Keep.of_wr W12).1) (Keep.of_wr W15).1) (Keep.of_wr W18).1) (Keep.of_wr W21).1) (Keep.of_wr W26).1) (Nat.le_of_eq g28.symm)))) nin0)))
  have f83 := (f74.keep K76 (ninS nc (ninS nd nin0)))
  have f84 := ((((((Fx35.keep K45 (ninS (Nat.ne_of_lt (Nat.lt_of_lt_of_le E1.lt (Nat.le_of_eq g2.symm))) (ninS (Nat.ne_of_lt (Nat.lt_of_lt_of_le (Nat.lt_of_lt_of_le E1.lt E2.1) ob6)) nin0))).keep K51 (ninS (Nat.ne_of_lt (Nat.lt_of_lt_of_le E1.lt (Nat.le_of_eq g2.symm))) (ninS (Nat.ne_of_lt (Nat.lt_of_lt_of_le (Nat.lt_of_lt_of_le E1.lt E2.1) ob6)) nin0))).keep K57 (ninS (Nat.ne_of_lt (Nat.lt_of_lt_of_le E1.lt (Nat.le_of_eq g2.symm))) (ninS (Nat.ne_of_lt (Nat.lt_of_lt_of_le (Nat.lt_of_lt_of_le E1.lt E2.1) ob6)) nin0))).other W64 (Or.inr (slot_ne (Or.inr (Wd55 hw)) (Or.inr (Wd90 hw)) (by decide) (t := (.array .int)) (t' := .int) (by decide) (by decide)))).other W68 (Or.inr (slot_ne (Or.inr (Wd55 hw)) (Or.inl (Wd92 hw)) (by decide) (t := (.array .int)) (t' := .int) (by decide) (by decide)))).keep K76 (ninS nc (ninS nd nin0)))
  have f85 := ((((((((((Fx26.ext E28).other W31 (Or.inr (slot_ne (Or.inr (Wd47 hw)) (Or.inr (Wd53 hw)) (by decide) (t := .int) (t' := (.array .long)) (by decide) (by decide)))).ext E32).other W35 (Or.inr (slot_ne (Or.inr (Wd47 hw)) (Or.inr (Wd55 hw)) (by decide) (t := .int) (t' := (.array .int)) (by decide) (by decide)))).keep K45 (ninS (Nat.ne_of_lt (Nat.lt_of_lt_of_le E1.lt (Nat.le_of_eq g2.symm))) (ninS (Nat.ne_of_lt (Nat.lt_of_lt_of_le (Nat.lt_of_lt_of_le E1.lt E2.1) ob6)) nin0))).keep K51 (ninS (Nat.ne_of_lt (Nat.lt_of_lt_of_le E1.lt (Nat.le_of_eq g2.symm))) (ninS (Nat.ne_of_lt (Nat.lt_of_lt_of_le (Nat.lt_of_lt_of_le E1.lt E2.1) ob6)) nin0))).keep K57 (ninS (Nat.ne_of_lt (Nat.lt_of_lt_of_le E1.lt (Nat.le_of_eq g2.symm))) (ninS (Nat.ne_of_lt (Nat.lt_of_lt_of_le (Nat.lt_of_lt_of_le E1.lt E2.1) ob6)) nin0))).other W64 (Or.inr (slot_ne (Or.inr (Wd47 hw)) (Or.inr (Wd90 hw)) (by decide) (t := .int) (t' := .int) (by decide) (by decide)))).other W68 (Or.inr (slot_ne (Or.inr (Wd47 hw)) (Or.inl (Wd92 hw)) (by decide) (t := .int) (t' := .int) (by decide) (by decide)))).keep K76 (ninS nc (ninS nd nin0)))
  have f86 := (((((((V32.other W35 (Ne.symm (Nat.ne_of_lt (Nat.lt_of_lt_of_le (Nat.lt_of_lt_of_le (Nat.lt_of_lt_of_le (Nat.lt_of_lt_of_le (Nat.lt_of_lt_of_le (Nat.lt_of_lt_of_le (Nat.lt_of_lt_of_le (Nat.lt_of_lt_of_le (Nat.lt_of_lt_of_le (Nat.lt_of_lt_of_le (Nat.lt_of_lt_of_le E1.lt E2.1) K6.1) (Keep.of_wr W9).1) (Keep.of_wr W12).1) (Keep.of_wr W15).1) (Keep.of_wr W18).1) (Keep.of_wr W21).1) (Keep.of_wr W26).1) E28.1) (Keep.of_wr W31).1) (Nat.le_of_eq g32.symm))))).keep K45 (ninS (Ne.symm (Nat.ne_of_lt (Nat.lt_of_lt_of_le (Nat.lt_of_lt_of_le (Nat.lt_of_lt_of_le (Nat.lt_of_lt_of_le (Nat.lt_of_lt_of_le (Nat.lt_of_lt_of_le (Nat.lt_of_lt_of_le (Nat.lt_of_lt_of_le (Nat.lt_of_lt_of_le (Nat.lt_of_lt_of_le A2.lt K6.1) (Keep.of_wr W9).1) (Keep.of_wr W12).1) (Keep.of_wr W15).1) (Keep.of_wr W18).1) (Keep.of_wr W21).1) (Keep.of_wr W26).1) E28.1) (Keep.of_wr W31).1) (Nat.le_of_eq g32.symm)))) (ninS (Ne.symm (Nat.ne_of_lt (Nat.lt_of_lt_of_le (Nat.lt_of_lt_of_le (Nat.lt_of_lt_of_le (Nat.lt_of_lt_of_le (Nat.lt_of_lt_of_le (Nat.lt_of_lt_of_le (Nat.lt_of_lt_of_le (Nat.lt_of_lt_of_le (Nat.lt_of_lt_of_le A6.lt (Keep.of_wr W9).1) (Keep.of_wr W12).1) (Keep.of_wr W15).1) (Keep.of_wr W18).1) (Keep.of_wr W21).1) (Keep.of_wr W26).1) E28.1) (Keep.of_wr W31).1) (Nat.le_of_eq g32.symm)))) nin0))).keep K51 (ninS (Ne.symm (Nat.ne_of_lt (Nat.lt_of_lt_of_le (Nat.lt_of_lt_of_le (Nat.lt_of_lt_of_le (Nat.lt_of_lt_of_le (Nat.lt_of_lt_of_le (Nat.lt_of_lt_of_le (Nat.lt_of_lt_of_le (Nat.lt_of_lt_of_le (Nat.lt_of_lt_of_le (Nat.lt_of_lt_of_le A2.lt K6.1) (Keep.of_wr W9).1) (Keep.of_wr W12).1) (Keep.of_wr W15).1) (Keep.of_wr W18).1) (Keep.of_wr W21).1) (Keep.of_wr W26).1) E28.1) (Keep.of_wr W31).1) (Nat.le_of_eq g32.symm)))) (ninS (Ne.symm (Nat.ne_of_lt (Nat.lt_of_lt_of_le (Nat.lt_of_lt_of_le (Nat.lt_of_lt_of_le (Nat.lt_of_lt_of_le (Nat.lt_of_lt_of_le (Nat.lt_of_lt_of_le (Nat.lt_of_lt_of_le (Nat.lt_of_lt_of_le (Nat.lt_of_lt_of_le A6.lt (Keep.of_wr W9).1) (Keep.of_wr W12).1) (Keep.of_wr W15).1) (Keep.of_wr W18).1) (Keep.of_wr W21).1) (Keep.of_wr W26).1) E28.1) (Keep.of_wr W31).1) (Nat.le_of_eq g32.symm)))) nin0))).keep K57 (ninS (Ne.symm (Nat.ne_of_lt (Nat.lt_of_lt_of_le (Nat.lt_of_lt_of_le (Nat.lt_of_lt_of_le (Nat.lt_of_lt_of_le (Nat.lt_of_lt_of_le (Nat.lt_of_lt_of_le (Nat.lt_of_lt_of_le (Nat.lt_of_lt_of_le (Nat.lt_of_lt_of_le (Nat.lt_of_lt_of_le A2.lt K6.1) (Keep.of_wr W9).1) (Keep.of_wr W12).1) (Keep.of_wr W15).1) (Keep.of_wr W18).1) (Keep.of_wr W21).1) (Keep.of_wr W26).1) E28.1) (Keep.of_wr W31).1) (Nat.le_of_eq g32.symm)))) (ninS (Ne.symm (Nat.ne_of_lt (Nat.lt_of_lt_of_le (Nat.lt_of_lt_of_le (Nat.lt_of_lt_of_le (Nat.lt_of_lt_of_le (Nat.lt_of_lt_of_le (Nat.lt_of_lt_of_le (Nat.lt_of_lt_of_le (Nat.lt_of_lt_of_le (Nat.lt_of_lt_of_le A6.lt (Keep.of_wr W9).1) (Keep.of_wr W12).1) (Keep.of_wr W15).1) (Keep.of_wr W18).1) (Keep.of_wr W21).1) (Keep.of_wr W26).1) E28.1) (Keep.of_wr W31).1) (Nat.le_of_eq g32.symm)))) nin0))).other W64 (Ne.symm (Nat.ne_of_lt (Nat.lt_of_lt_of_le (Nat.lt_of_lt_of_le (Nat.lt_of_lt_of_le (Nat.lt_of_lt_of_le (Nat.lt_of_lt_of_le (Nat.lt_of_lt_of_le (Nat.lt_of_lt_of_le (Nat.lt_of_lt_of_le (Nat.lt_of_lt_of_le (Nat.lt_of_lt_of_le (Nat.lt_of_lt_of_le E1.lt E2.1) K6.1) (Keep.of_wr W9).1) (Keep.of_wr W12).1) (Keep.of_wr W15).1) (Keep.of_wr W18).1) (Keep.of_wr W21).1) (Keep.of_wr W26).1) E28.1) (Keep.of_wr W31).1) (Nat.le_of_eq g32.symm))))).other W68 (Ne.symm (Nat.ne_of_lt (Nat.lt_of_lt_of_le (Nat.lt_of_lt_of_le (Nat.lt_of_lt_of_le (Nat.lt_of_lt_of_le (Nat.lt_of_lt_of_le (Nat.lt_of_lt_of_le (Nat.lt_of_lt_of_le (Nat.lt_of_lt_of_le (Nat.lt_of_lt_of_le (Nat.lt_of_lt_of_le (Nat.lt_of_lt_of_le E1.lt E2.1) K6.1) (Keep.of_wr W9).1) (Keep.of_wr W12).1) (Keep.of_wr W15).1) (Keep.of_wr W18).1) (Keep.of_wr W21).1) (Keep.of_wr W26).1) E28.1) (Keep.of_wr W31).1) (Nat.le_of_eq g32.symm))))).keep K76 (ninS (Ne.symm (Nat.ne_of_lt (Nat.lt_of_lt_of_le (Nat.lt_of_lt_of_le (Nat.lt_of_lt_of_le (Nat.lt_of_lt_of_le (Nat.lt_of_lt_of_le (Nat.lt_of_lt_of_le (Nat.lt_of_lt_of_le (Nat.lt_of_lt_of_le (Nat.lt_of_lt_of_le (Nat.lt_of_lt_of_le (Nat.lt_of_lt_of_le Ac.lt E2.1) K6.1) (Keep.of_wr W9).1) (Keep.of_wr W12).1) (Keep.of_wr W15).1) (Keep.of_wr W18).1) (Keep.of_wr W21).1) (Keep.of_wr W26).1) E28.1) (Keep.of_wr W31).1) (Nat.le_of_eq g32.symm)))) (ninS (Ne.symm (Nat.ne_of_lt (Nat.lt_of_lt_of_le (Nat.lt_of_lt_of_le (Nat.lt_of_lt_of_le (Nat.lt_of_lt_of_le (Nat.lt_of_lt_of_le (Nat.lt_of_lt_of_le (Nat.lt_of_lt_of_le (Nat.lt_of_lt_of_le (Nat.lt_of_lt_of_le (Nat.lt_of_lt_of_le (Nat.lt_of_lt_of_le Ad.lt E2.1) K6.1) (Keep.of_wr W9).1) (Keep.of_wr W12).1) (Keep.of_wr W15).1) (Keep.of_wr W18).1) (Keep.of_wr W21).1) (Keep.of_wr W26).1) E28.1) (Keep.of_wr W31).1) (Nat.le_of_eq g32.symm)))) nin0)))
  have f87 := (f75.keep K76)
  obtain ⟨cq88, qa88, qb88⟩ := f87.cell
  obtain ⟨_, _, ⟨T88, L88, k88, n88⟩, -, X88, ⟨Lc88, hQ88, l88, y88, z88⟩, st88⟩ := X76.privateBack hx (y := (⟨zZ0, "split", "(IIII)I"⟩ : MethodName)) hown (mvT hZ (Wd101 hw)) (mvT hZ (Wd102 hw)) (mvT hZ (own_selP (Wd3 hw) (Wd103 hw) (Wd102 hw) (by decide))) (Cond.privateMethod_at (mvP hZ (Wd103 hw) (args := #[]))) (mvT hZ (Wd104 hw)) (by decide) (backOf (W := 0) (rmSP l Z a0 hw [] a1 T76.heap n0 (Nat.le_trans (Nat.le_trans (Nat.le_trans (Nat.le_trans (Nat.le_trans (Nat.le_trans (Nat.le_trans (Nat.le_trans (Nat.le_trans (Nat.le_trans (Nat.le_trans (Nat.le_trans (Nat.le_trans (Nat.le_trans (Nat.le_trans (Nat.le_trans (Nat.le_trans (Nat.le_trans Z0 E2.1) K6.1) (Keep.of_wr W9).1) (Keep.of_wr W12).1) (Keep.of_wr W15).1) (Keep.of_wr W18).1) (Keep.of_wr W21).1) (Keep.of_wr W26).1) E28.1) (Keep.of_wr W31).1) E32.1) (Keep.of_wr W35).1) K45.1) K51.1) K57.1) (Keep.of_wr W64).1) (Keep.of_wr W68).1) K76.1) ca b28 kc k28 f76 f79 f80 f81 Ac76 f82 (Nat.le_trans (Nat.le_trans (Nat.le_trans (Nat.le_trans (Nat.le_trans (Nat.le_trans (Nat.le_trans (Nat.le_trans (Nat.le_trans Z0 E2.1) K6.1) (Keep.of_wr W9).1) (Keep.of_wr W12).1) (Keep.of_wr W15).1) (Keep.of_wr W18).1) (Keep.of_wr W21).1) (Keep.of_wr W26).1) (Nat.le_of_eq g28.symm)) (Nat.ne_of_lt (Nat.lt_of_lt_of_le (Nat.lt_of_lt_of_le (Nat.lt_of_lt_of_le (Nat.lt_of_lt_of_le (Nat.lt_of_lt_of_le (Nat.lt_of_lt_of_le (Nat.lt_of_lt_of_le (Nat.lt_of_lt_of_le (Nat.lt_of_lt_of_le E1.lt E2.1) K6.1) (Keep.of_wr W9).1) (Keep.of_wr W12).1) (Keep.of_wr W15).1) (Keep.of_wr W18).1) (Keep.of_wr W21).1) (Keep.of_wr W26).1) (Nat.le_of_eq g28.symm))) (Nat.ne_of_lt (Nat.lt_of_lt_of_le (Nat.lt_of_lt_of_le (Nat.lt_of_lt_of_le (Nat.lt_of_lt_of_le (Nat.lt_of_lt_of_le (Nat.lt_of_lt_of_le (Nat.lt_of_lt_of_le (Nat.lt_of_lt_of_le (Nat.lt_of_lt_of_le Ac.lt E2.1) K6.1) (Keep.of_wr W9).1) (Keep.of_wr W12).1) (Keep.of_wr W15).1) (Keep.of_wr W18).1) (Keep.of_wr W21).1) (Keep.of_wr W26).1) (Nat.le_of_eq g28.symm))) da b32 kd k32 g_76 f83 f84 f85 Ad76 f86 (Nat.le_trans (Nat.le_trans (Nat.le_trans (Nat.le_trans (Nat.le_trans (Nat.le_trans (Nat.le_trans (Nat.le_trans (Nat.le_trans (Nat.le_trans (Nat.le_trans Z0 E2.1) K6.1) (Keep.of_wr W9).1) (Keep.of_wr W12).1) (Keep.of_wr W15).1) (Keep.of_wr W18).1) (Keep.of_wr W21).1) (Keep.of_wr W26).1) E28.1) (Keep.of_wr W31).1) (Nat.le_of_eq g32.symm)) (Nat.ne_of_lt (Nat.lt_of_lt_of_le (Nat.lt_of_lt_of_le (Nat.lt_of_lt_of_le (Nat.lt_of_lt_of_le (Nat.lt_of_lt_of_le (Nat.lt_of_lt_of_le (Nat.lt_of_lt_of_le (Nat.lt_of_lt_of_le (Nat.lt_of_lt_of_le (Nat.lt_of_lt_of_le (Nat.lt_of_lt_of_le E1.lt E2.1) K6.1) (Keep.of_wr W9).1) (Keep.of_wr W12).1) (Keep.of_wr W15).1) (Keep.of_wr W18).1) (Keep.of_wr W21).1) (Keep.of_wr W26).1) E28.1) (Keep.of_wr W31).1) (Nat.le_of_eq g32.symm))) (Nat.ne_of_lt (Nat.lt_of_lt_of_le (Nat.lt_of_lt_of_le (Nat.lt_of_lt_of_le (Nat.lt_of_lt_of_le (Nat.lt_of_lt_of_le (Nat.lt_of_lt_of_le (Nat.lt_of_lt_of_le (Nat.lt_of_lt_of_le (Nat.lt_of_lt_of_le Ad.lt E2.1) K6.1) (Keep.of_wr W9).1) (Keep.of_wr W12).1) (Keep.of_wr W15).1) (Keep.of_wr W18).1) (Keep.of_wr W21).1) (Keep.of_wr W26).1) (Nat.le_of_eq g28.symm))) (Nat.ne_of_lt (Nat.lt_of_lt_of_le (Nat.lt_of_lt_of_le (Nat.lt_of_lt_of_le (Nat.lt_of_lt_of_le (Nat.lt_of_lt_of_le (Nat.lt_of_lt_of_le (Nat.lt_of_lt_of_le (Nat.lt_of_lt_of_le (Nat.lt_of_lt_of_le (Nat.lt_of_lt_of_le (Nat.lt_of_lt_of_le Ad.lt E2.1) K6.1) (Keep.of_wr W9).1) (Keep.of_wr W12).1) (Keep.of_wr W15).1) (Keep.of_wr W18).1) (Keep.of_wr W21).1) (Keep.of_wr W26).1) E28.1) (Keep.of_wr W31).1) (Nat.le_of_eq g32.symm))) (Nat.ne_of_lt (Nat.lt_of_lt_of_le (Nat.lt_of_lt_of_le V28.lt (Keep.of_wr W31).1) (Nat.le_of_eq g32.symm))) f87) hZ (Wd104 hw) (Wd4 hw) (by decide) (by decide)) (g := (mkF m 176 #[.val (.ref a1), .val (.int 1), .val (.ref da), .val (.ref ca), .val (.int rp), .val (.int 0), .val (.int 0), .val (.int 2), .val (.ref da), .val (.int 3), .val (.int 3), .val (.int xc)] [(.int 0), (.int 3), (.int 0), (.int 1), (.ref a1)])) rfl (by rw [hml]; rfl) (Steps.refl _) (a := a1) qa88 qb88 (argsL := [(.int 1), (.int 0), (.int 3), (.int 0)]) (rest := []) (lenOf pd8 rfl) rfl (by show 2 * 0 + _ ≤ _; exact Nat.le_of_eq rfl) (bd d2_176) (fun _ _ => ⟨rfl, rfl, (nl rfl), (nl rfl)⟩)
  dsimp only [Pt.U, Pt.locs, Pt.cells, Pt.slots] at X88 l88 y88 z88 st88 hQ88
  subst l88 y88 z88
  obtain ⟨m88, rfl, Nq88, K88⟩ := hQ88
  have N88 := Fr.app N76 Nq88
  refine OD.via st88 ?_
  refine OD.go (B := (T88.setTop (mkF m 180 #[.val (.ref a1), .val (.int 1), .val (.ref da), .val (.ref ca), .val (.int rp), .val (.int 0), .val (.int 0), .val (.int 2), .val (.ref da), .val (.int 3), .val (.int 3), .val (.int xc)] []))) (fun t k => XS.pop X88.here hx rfl (bd d2_179) rfl rfl k) ?_
  exact OD.retV X88 hx hlk Bd.returns (bd d2_180) (nl rfl) (nl rfl) ⟨_, _, _, rfl, N88, by exact ((((((((((((((((((((Keep.refl h0 [a1, da, ca]).ext E2).trans K6 (allS (Or.inr (Nat.le_trans (Nat.le_refl _) (Nat.le_of_eq g2.symm))) all0)).wr W9 (Or.inl (List.mem_of_getElem? (i := 0) rfl))).wr W12 (Or.inl (List.mem_of_getElem? (i := 0) rfl))).wr W15 (Or.inl (List.mem_of_getElem? (i := 0) rfl))).wr W18 (Or.inl (List.mem_of_getElem? (i := 0) rfl))).wr W21 (Or.inl (List.mem_of_getElem? (i := 0) rfl))).wr W26 (Or.inl (List.mem_of_getElem? (i := 0) rfl))).ext E28).wr W31 (Or.inl (List.mem_of_getElem? (i := 0) rfl))).ext E32).wr W35 (Or.inl (List.mem_of_getElem? (i := 0) rfl))).trans K45 (allS (Or.inr (Nat.le_trans (Nat.le_refl _) (Nat.le_of_eq g2.symm))) (allS (Or.inr (Nat.le_trans (Nat.le_trans (Nat.le_refl _) E2.1) ob6)) all0))).trans K51 (allS (Or.inr (Nat.le_trans (Nat.le_refl _) (Nat.le_of_eq g2.symm))) (allS (Or.inr (Nat.le_trans (Nat.le_trans (Nat.le_refl _) E2.1) ob6)) all0))).trans K57 (allS (Or.inr (Nat.le_trans (Nat.le_refl _) (Nat.le_of_eq g2.symm))) (allS (Or.inr (Nat.le_trans (Nat.le_trans (Nat.le_refl _) E2.1) ob6)) all0))).wr W64 (Or.inl (List.mem_of_getElem? (i := 0) rfl))).wr W68 (Or.inl (List.mem_of_getElem? (i := 0) rfl))).trans K76 (allS (Or.inl (List.mem_of_getElem? (i := 2) rfl)) (allS (Or.inl (List.mem_of_getElem? (i := 1) rfl)) all0))).trans K88 (allS (Or.inr (Nat.le_trans (Nat.le_trans (Nat.le_trans (Nat.le_trans (Nat.le_trans (Nat.le_trans (Nat.le_trans (Nat.le_trans (Nat.le_trans (Nat.le_refl _) E2.1) K6.1) (Keep.of_wr W9).1) (Keep.of_wr W12).1) (Keep.of_wr W15).1) (Keep.of_wr W18).1) (Keep.of_wr W21).1) (Keep.of_wr W26).1) (Nat.le_of_eq g28.symm))) (allS (Or.inr (Nat.le_trans (Nat.le_trans (Nat.le_trans (Nat.le_trans (Nat.le_trans (Nat.le_trans (Nat.le_trans (Nat.le_trans (Nat.le_trans (Nat.le_trans (Nat.le_trans (Nat.le_refl _) E2.1) K6.1) (Keep.of_wr W9).1) (Keep.of_wr W12).1) (Keep.of_wr W15).1) (Keep.of_wr W18).1) (Keep.of_wr W21).1) (Keep.of_wr W26).1) E28.1) (Keep.of_wr W31).1) (Nat.le_of_eq g32.symm))) all0))), (Nat.le_trans (Nat.le_refl _) (Nat.le_of_eq g2.symm)), (Nat.le_trans (Nat.le_trans (Nat.le_refl _) E2.1) ob6), (Nat.ne_of_lt (Nat.lt_of_lt_of_le A2.lt ob6)), by exact ((((f60.wr W64).wr W68).keep K76).keep K88), by exact ((((f58.other W64 (Or.inr (slot_ne (Or.inr (Wd36 hw)) (Or.inr (Wd90 hw)) (by decide) (t := (.object "java/util/BitSet")) (t' := .int) (by decide) (by decide)))).other W68 (Or.inr (slot_ne (Or.inr (Wd36 hw)) (Or.inl (Wd92 hw)) (by decide) (t := (.object "java/util/BitSet")) (t' := .int) (by decide) (by decide)))).keep K76 (ninS nc (ninS nd nin0))).keep K88 (ninS (Nat.ne_of_lt (Nat.lt_of_lt_of_le (Nat.lt_of_lt_of_le (Nat.lt_of_lt_of_le (Nat.lt_of_lt_of_le (Nat.lt_of_lt_of_le (Nat.lt_of_lt_of_le (Nat.lt_of_lt_of_le (Nat.lt_of_lt_of_le (Nat.lt_of_lt_of_le E1.lt E2.1) K6.1) (Keep.of_wr W9).1) (Keep.of_wr W12).1) (Keep.of_wr W15).1) (Keep.of_wr W18).1) (Keep.of_wr W21).1) (Keep.of_wr W26).1) (Nat.le_of_eq g28.symm))) (ninS (Nat.ne_of_lt (Nat.lt_of_lt_of_le (Nat.lt_of_lt_of_le (Nat.lt_of_lt_of_le (Nat.lt_of_lt_of_le (Nat.lt_of_lt_of_le (Nat.lt_of_lt_of_le (Nat.lt_of_lt_of_le (Nat.lt_of_lt_of_le (Nat.lt_of_lt_of_le (Nat.lt_of_lt_of_le (Nat.lt_of_lt_of_le E1.lt E2.1) K6.1) (Keep.of_wr W9).1) (Keep.of_wr W12).1) (Keep.of_wr W15).1) (Keep.of_wr W18).1) (Keep.of_wr W21).1) (Keep.of_wr W26).1) E28.1) (Keep.of_wr W31).1) (Nat.le_of_eq g32.symm))) nin0))), by exact (((Fx64.other W68 (Or.inr (slot_ne (Or.inr (Wd90 hw)) (Or.inl (Wd92 hw)) (by decide) (t := .int) (t' := .int) (by decide) (by decide)))).keep K76 (ninS nc (ninS nd nin0))).keep K88 (ninS (Nat.ne_of_lt (Nat.lt_of_lt_of_le (Nat.lt_of_lt_of_le (Nat.lt_of_lt_of_le (Nat.lt_of_lt_of_le (Nat.lt_of_lt_of_le (Nat.lt_of_lt_of_le (Nat.lt_of_lt_of_le (Nat.lt_of_lt_of_le (Nat.lt_of_lt_of_le E1.lt E2.1) K6.1) (Keep.of_wr W9).1) (Keep.of_wr W12).1) (Keep.of_wr W15).1) (Keep.of_wr W18).1) (Keep.of_wr W21).1) (Keep.of_wr W26).1) (Nat.le_of_eq g28.symm))) (ninS (Nat.ne_of_lt (Nat.lt_of_lt_of_le (Nat.lt_of_lt_of_le (Nat.lt_of_lt_of_le (Nat.lt_of_lt_of_le (Nat.lt_of_lt_of_le (Nat.lt_of_lt_of_le (Nat.lt_of_lt_of_le (Nat.lt_of_lt_of_le (Nat.lt_of_lt_of_le (Nat.lt_of_lt_of_le (Nat.lt_of_lt_of_le E1.lt E2.1) K6.1) (Keep.of_wr W9).1) (Keep.of_wr W12).1) (Keep.of_wr W15).1) (Keep.of_wr W18).1) (Keep.of_wr W21).1) (Keep.of_wr W26).1) E28.1) (Keep.of_wr W31).1) (Nat.le_of_eq g32.symm))) nin0))), by exact ((Fx68.keep K76 (ninS nc (ninS nd nin0))).keep K88 (ninS (Nat.ne_of_lt (Nat.lt_of_lt_of_le (Nat.lt_of_lt_of_le (Nat.lt_of_lt_of_le (Nat.lt_of_lt_of_le (Nat.lt_of_lt_of_le (Nat.lt_of_lt_of_le (Nat.lt_of_lt_of_le (Nat.lt_of_lt_of_le (Nat.lt_of_lt_of_le E1.lt E2.1) K6.1) (Keep.of_wr W9).1) (Keep.of_wr W12).1) (Keep.of_wr W15).1) (Keep.of_wr W18).1) (Keep.of_wr W21).1) (Keep.of_wr W26).1) (Nat.le_of_eq g28.symm))) (ninS (Nat.ne_of_lt (Nat.lt_of_lt_of_le (Nat.lt_of_lt_of_le (Nat.lt_of_lt_of_le (Nat.lt_of_lt_of_le (Nat.lt_of_lt_of_le (Nat.lt_of_lt_of_le (Nat.lt_of_lt_of_le (Nat.lt_of_lt_of_le (Nat.lt_of_lt_of_le (Nat.lt_of_lt_of_le (Nat.lt_of_lt_of_le E1.lt E2.1) K6.1) (Keep.of_wr W9).1) (Keep.of_wr W12).1) (Keep.of_wr W15).1) (Keep.of_wr W18).1) (Keep.of_wr W21).1) (Keep.of_wr W26).1) E28.1) (Keep.of_wr W31).1) (Nat.le_of_eq g32.symm))) nin0))), by exact ((((U57.other W64 (Or.inl (Ne.symm (Nat.ne_of_lt (Nat.lt_of_lt_of_le E1.lt (Nat.le_of_eq g2.symm)))))).other W68 (Or.inl (Ne.symm (Nat.ne_of_lt (Nat.lt_of_lt_of_le E1.lt (Nat.le_of_eq g2.symm)))))).keep K76 (ninS (Ne.symm (Nat.ne_of_lt (Nat.lt_of_lt_of_le Ac.lt (Nat.le_of_eq g2.symm)))) (ninS (Ne.symm (Nat.ne_of_lt (Nat.lt_of_lt_of_le Ad.lt (Nat.le_of_eq g2.symm)))) nin0))).keep K88 (ninS (Nat.ne_of_lt (Nat.lt_of_lt_of_le (Nat.lt_of_lt_of_le (Nat.lt_of_lt_of_le (Nat.lt_of_lt_of_le (Nat.lt_of_lt_of_le (Nat.lt_of_lt_of_le (Nat.lt_of_lt_of_le (Nat.lt_of_lt_of_le A2.lt K6.1) (Keep.of_wr W9).1) (Keep.of_wr W12).1) (Keep.of_wr W15).1) (Keep.of_wr W18).1) (Keep.of_wr W21).1) (Keep.of_wr W26).1) (Nat.le_of_eq g28.symm))) (ninS (Nat.ne_of_lt (Nat.lt_of_lt_of_le (Nat.lt_of_lt_of_le (Nat.lt_of_lt_of_le (Nat.lt_of_lt_of_le (Nat.lt_of_lt_of_le (Nat.lt_of_lt_of_le (Nat.lt_of_lt_of_le (Nat.lt_of_lt_of_le (Nat.lt_of_lt_of_le (Nat.lt_of_lt_of_le A2.lt K6.1) (Keep.of_wr W9).1) (Keep.of_wr W12).1) (Keep.of_wr W15).1) (Keep.of_wr W18).1) (Keep.of_wr W21).1) (Keep.of_wr W26).1) E28.1) (Keep.of_wr W31).1) (Nat.le_of_eq g32.symm))) nin0))), by exact ((((P57.other W64 (Or.inl (Ne.symm (Nat.ne_of_lt (Nat.lt_of_lt_of_le E1.lt (Nat.le_of_eq g2.symm)))))).other W68 (Or.inl (Ne.symm (Nat.ne_of_lt (Nat.lt_of_lt_of_le E1.lt (Nat.le_of_eq g2.symm)))))).keep K76 (ninS (Ne.symm (Nat.ne_of_lt (Nat.lt_of_lt_of_le Ac.lt (Nat.le_of_eq g2.symm)))) (ninS (Ne.symm (Nat.ne_of_lt (Nat.lt_of_lt_of_le Ad.lt (Nat.le_of_eq g2.symm)))) nin0))).keep K88 (ninS (Nat.ne_of_lt (Nat.lt_of_lt_of_le (Nat.lt_of_lt_of_le (Nat.lt_of_lt_of_le (Nat.lt_of_lt_of_le (Nat.lt_of_lt_of_le (Nat.lt_of_lt_of_le (Nat.lt_of_lt_of_le (Nat.lt_of_lt_of_le A2.lt K6.1) (Keep.of_wr W9).1) (Keep.of_wr W12).1) (Keep.of_wr W15).1) (Keep.of_wr W18).1) (Keep.of_wr W21).1) (Keep.of_wr W26).1) (Nat.le_of_eq g28.symm))) (ninS (Nat.ne_of_lt (Nat.lt_of_lt_of_le (Nat.lt_of_lt_of_le (Nat.lt_of_lt_of_le (Nat.lt_of_lt_of_le (Nat.lt_of_lt_of_le (Nat.lt_of_lt_of_le (Nat.lt_of_lt_of_le (Nat.lt_of_lt_of_le (Nat.lt_of_lt_of_le (Nat.lt_of_lt_of_le A2.lt K6.1) (Keep.of_wr W9).1) (Keep.of_wr W12).1) (Keep.of_wr W15).1) (Keep.of_wr W18).1) (Keep.of_wr W21).1) (Keep.of_wr W26).1) E28.1) (Keep.of_wr W31).1) (Nat.le_of_eq g32.symm))) nin0))), by exact ((((A57.other W64 (Ne.symm (Nat.ne_of_lt (Nat.lt_of_lt_of_le (Nat.lt_of_lt_of_le E1.lt E2.1) ob6)))).other W68 (Ne.symm (Nat.ne_of_lt (Nat.lt_of_lt_of_le (Nat.lt_of_lt_of_le E1.lt E2.1) ob6)))).keep K76 (ninS (Ne.symm (Nat.ne_of_lt (Nat.lt_of_lt_of_le (Nat.lt_of_lt_of_le Ac.lt E2.1) ob6))) (ninS (Ne.symm (Nat.ne_of_lt (Nat.lt_of_lt_of_le (Nat.lt_of_lt_of_le Ad.lt E2.1) ob6))) nin0))).keep K88 (ninS (Nat.ne_of_lt (Nat.lt_of_lt_of_le (Nat.lt_of_lt_of_le (Nat.lt_of_lt_of_le (Nat.lt_of_lt_of_le (Nat.lt_of_lt_of_le (Nat.lt_of_lt_of_le (Nat.lt_of_lt_of_le A6.lt (Keep.of_wr W9).1) (Keep.of_wr W12).1) (Keep.of_wr W15).1) (Keep.of_wr W18).1) (Keep.of_wr W21).1) (Keep.of_wr W26).1) (Nat.le_of_eq g28.symm))) (ninS (Nat.ne_of_lt (Nat.lt_of_lt_of_le (Nat.lt_of_lt_of_le (Nat.lt_of_lt_of_le (Nat.lt_of_lt_of_le (Nat.lt_of_lt_of_le (Nat.lt_of_lt_of_le (Nat.lt_of_lt_of_le (Nat.lt_of_lt_of_le (Nat.lt_of_lt_of_le A6.lt (Keep.of_wr W9).1) (Keep.of_wr W12).1) (Keep.of_wr W15).1) (Keep.of_wr W18).1) (Keep.of_wr W21).1) (Keep.of_wr W26).1) E28.1) (Keep.of_wr W31).1) (Nat.le_of_eq g32.symm))) nin0)))⟩
def Q_rmT4 (Z : State) (a1 : Addr) (da : Addr) (ca : Addr) (rp : Int32) (h0 : Heap) (n0 : Nat) (xa xb xc : Int32) (v : Option Value) (h : Heap) (L : List Loc) : Prop := ∃ (bs wa : Addr) (kw : ClassId), v = none ∧ Fr n0 L ∧ Keep h0 h [a1, da, ca] ∧ h0.size ≤ bs ∧ h0.size ≤ wa ∧ bs ≠ wa ∧ Exa Z h bs "java/util/BitSet" ∧ Fld Z h a1 zZ0 "current" "Ljava/util/BitSet;" (.ref bs) ∧ Fld Z h a1 zZ0 "documentCount" "I" (.int ((0 : Int32) + own_bc ((((0 : Int64) ||| own_bit xa) ||| own_bit xb) ||| own_bit xc))) ∧ Fld Z h a1 zZ0 "currentCount" "I" (.int ((0 : Int32) + own_bc ((((0 : Int64) ||| own_bit xa) ||| own_bit xb) ||| own_bit xc))) ∧ Fld Z h bs "java/util/BitSet" "wordsInUse" "I" (.int 1) ∧ Fld Z h bs "java/util/BitSet" "words" "[J" (.ref wa) ∧ Arv Z h wa kw .long (1 : Int32) [(.long ((((0 : Int64) ||| own_bit xa) ||| own_bit xb) ||| own_bit xc))] (.long (0 : Int64))
set_option maxRecDepth 65536 in
set_option maxHeartbeats 40000000 in
theorem rmT4 (l : Launch) (Z : State) (a0 : Array Value) (hw : HW a0 Z) (ws : List Jvm.Cond) (a1 : Addr) (da : Addr) (ca : Addr) (rp : Int32) (h0 : Heap) (n0 : Nat) (Z0 : n0 ≤ h0.size) (X00 : Old Z n0 h0) (Sad : Sta Z Z.heap "java/util/BitSet" "$assertionsDisabled" "Z" (.int 1)) (xa xb xc : Int32) (ya yb yc : Int64) (sa : own_sm xa) (sb : own_sm xb) (sc : own_sm xc) (E1 : Exa Z h0 a1 zZ0) (g1 : n0 ≤ a1) (Fcurrent : Fld Z h0 a1 zZ0 "current" "Ljava/util/BitSet;" .null) (Fdimensions : Fld Z h0 a1 zZ0 "dimensions" "I" (.int 0)) (Fdocs : Fld Z h0 a1 zZ0 "docs" "[I" .null) (Fcoordinates : Fld Z h0 a1 zZ0 "coordinates" "[J" .null) (FrepeatsDocs : Fld Z h0 a1 zZ0 "repeatsDocs" "Z" (.int 0)) (FleafLevel : Fld Z h0 a1 zZ0 "leafLevel" "I" (.int 0)) (Fbounds : Fld Z h0 a1 zZ0 "bounds" "[J" .null) (FleastDocs : Fld Z h0 a1 zZ0 "leastDocs" "[I" .null) (FdocumentCount : Fld Z h0 a1 zZ0 "documentCount" "I" (.int 0)) (FcurrentCount : Fld Z h0 a1 zZ0 "currentCount" "I" (.int 0)) (kd kc : ClassId) (Ad : Arv Z h0 da kd .int 3 [(.int xa), (.int xb), (.int xc)] (.int 0)) (Ac : Arv Z h0 ca kc .long (3 : Int32) [(.long ya), (.long yb), (.long yc)] (.long (0 : Int64))) (gd : n0 ≤ da) (gc : n0 ≤ ca) (nd : a1 ≠ da) (nc : a1 ≠ ca) (ncd : ca ≠ da) :
    MetFree l (⟨zZ0, "<init>", "(I[I[JZ)V"⟩ : MethodName) (head1 (Jvm.Cond.code (⟨zZ0, "<init>", "(I[I[JZ)V"⟩ : MethodName) kQ19 5 none :: ws) (rO 4 14 2115 93)) (fun a U => a = #[(.ref a1), (.int 1), (.ref da), (.ref ca), (.int rp)] ∧ Z.Warmed39 U.vm ∧ U.heap = h0) (fun _ _ _ _ _ => True) (fun _ U o U' => ∃ v L, o = .returned v ∧ Q_rmT4 Z a1 da ca rp h0 n0 xa xb xc v U'.heap L ∧ FrameEnd U o U' L (rO 4 14 2115 93).cells (rO 4 14 2115 93).slots) := by
  refine MetFree.of_bodySF (plainFor_of_name pn1) hisR ?_
  intro p e s m args below meth c s₁ Bd hml0 hP hK
  obtain ⟨rfl, hZ, hh⟩ := hP
  have hx := Bd.exec
  have hby := Bd.bytes
  have bd : ∀ {pc r}, decode kQ19 pc = r → decode c.code pc = r := fun q => hb hby q
  have hlk : meth.locks = false := Bd.notSynchronized
  have hml : c.maxLocals = 5 := hml0
  have hown : s.vm.findClass zZ0 = some m.cls := findClass_of_methodNamed Bd.named
  have hnm := (name_of_methodNamed Bd.named Bd.method).1
  have X0 : Stand p l e (rO 4 14 2115 93) s m #[(.ref a1), (.int 1), (.ref da), (.ref ca), (.int rp)] below meth c s₁ [] 0 0 := Stand.of_body Bd
  have e0 : s₁.heap = h0 := by rw [← hh, Bd.state]; rfl
  have N0 := Fr.nil n0
  suffices hgo : OD p e s below (Q_rmT4 Z a1 da ca rp h0 n0 xa xb xc) (rO 4 14 2115 93).cells (rO 4 14 2115 93).slots (s₁.setTop (mkF m 0 #[.val (.ref a1), .val (.int 1), .val (.ref da), .val (.ref ca), .val (.int rp)] [])) by
    obtain ⟨s₂, o, hgo1, hgo2⟩ := hgo
    exact ⟨s₂, o, castTop (ef14 m a1 (1 : Int32) da ca rp) hgo1, hgo2⟩
  refine OD.go (B := (s₁.setTop (mkF m 7 #[.val (.ref a1), .val (.int 1), .val (.ref da), .val (.ref ca), .val (.int rp)] [(.int 0), (.int rp), (.ref ca), (.ref da), (.int 1), (.ref a1)]))) (fun t k => XS.aloadN X0.here hx rfl (bd d1_0) rfl rfl (XS.iloadN X0.here hx rfl (bd d1_1) rfl (XS.aloadN X0.here hx rfl (bd d1_2) rfl rfl (XS.aloadN X0.here hx rfl (bd d1_3) rfl rfl (XS.iload X0.here hx rfl (bd d1_4) rfl (XS.iconst X0.here hx rfl (bd d1_6) k)))))) ?_
  obtain ⟨_, _, ⟨T1, L1, k1, n1⟩, -, X1, ⟨Lc1, hQ1, l1, y1, z1⟩, st1⟩ := X0.specialBack hx (y := (⟨zZ0, "<init>", "(I[I[JZZ)V"⟩ : MethodName)) rfl hown (mvT hZ (Wd8 hw)) (mvT hZ (Wd9 hw)) (mvT hZ (Wd10 hw)) (by decide) (backOf (W := 0) (rmT5 l Z a0 hw [] a1 da ca rp h0 n0 Z0 X00 Sad xa xb xc ya yb yc sa sb sc E1 g1 Fcurrent Fdimensions Fdocs Fcoordinates FrepeatsDocs FleafLevel Fbounds FleastDocs FdocumentCount FcurrentCount kd kc Ad Ac gd gc nd nc ncd) hZ (Wd10 hw) (Wd4 hw) (by decide) (by decide)) (g := (mkF m 7 #[.val (.ref a1), .val (.int 1), .val (.ref da), .val (.ref ca), .val (.int rp)] [(.int 0), (.int rp), (.ref ca), (.ref da), (.int 1), (.ref a1)])) rfl (by rw [hml]; rfl) (Steps.refl _) (a := a1) (argsL := [(.int 1), (.ref da), (.ref ca), (.int rp), (.int 0)]) (rest := []) (lenOf pd9 rfl) rfl (by show 2 * 0 + _ ≤ _; exact Nat.le_of_eq rfl) (bd d1_7) (fun _ _ => ⟨rfl, e0, (nl rfl), (nl rfl)⟩)
  dsimp only [Pt.U, Pt.locs, Pt.cells, Pt.slots] at X1 l1 y1 z1 st1 hQ1
  subst l1 y1 z1
  obtain ⟨bs1, wa1, kw1, rfl, Nq1, K1, ob1, ow1, nbw1, E1, C01, C11, C21, U1, P1, A1⟩ := hQ1
  have gw1 : n0 ≤ wa1 := Nat.le_trans Z0 ow1
  have N1 := Fr.app N0 Nq1
  have gb1 : n0 ≤ bs1 := Nat.le_trans Z0 ob1
  refine OD.via (B := (T1.setTop (mkF m 10 #[.val (.ref a1), .val (.int 1), .val (.ref da), .val (.ref ca), .val (.int rp)] []))) st1 ?_
  exact OD.retV X1 hx hlk Bd.returns (bd d1_10) (nl rfl) (nl rfl) ⟨_, _, _, rfl, N1, by exact ((Keep.refl h0 [a1, da, ca]).trans K1 (allS (Or.inl (List.mem_of_getElem? (i := 0) rfl)) (allS (Or.inl (List.mem_of_getElem? (i := 1) rfl)) (allS (Or.inl (List.mem_of_getElem? (i := 2) rfl)) all0)))), (Nat.le_trans (Nat.le_refl _) ob1), (Nat.le_trans (Nat.le_refl _) ow1), nbw1, by exact E1, by exact C01, by exact C11, by exact C21, by exact U1, by exact P1, by exact A1⟩
def Q_rm_documentCount (Z : State) (a1 : Addr) (h0 : Heap) (u : Int32) (v : Option Value) (h : Heap) (L : List Loc) : Prop := v = some (.int u) ∧ L = [] ∧ h = h0
set_option maxRecDepth 65536 in
set_option maxHeartbeats 40000000 in
theorem rm_documentCount (l : Launch) (Z : State) (a0 : Array Value) (hw : HW a0 Z) (ws : List Jvm.Cond) (a1 : Addr) (h0 : Heap) (u : Int32) (F1 : Fld Z h0 a1 zZ0 "documentCount" "I" (.int u)) :
    MetFree l (⟨zZ0, "documentCount", "()I"⟩ : MethodName) (head1 (Jvm.Cond.code (⟨zZ0, "documentCount", "()I"⟩ : MethodName) kQ20 1 (some .int) :: ws) (rO 0 0 0 0)) (fun a U => a = #[(.ref a1)] ∧ Z.Warmed39 U.vm ∧ U.heap = h0) (fun _ _ _ _ _ => True) (fun _ U o U' => ∃ v L, o = .returned v ∧ Q_rm_documentCount Z a1 h0 u v U'.heap L ∧ FrameEnd U o U' L (rO 0 0 0 0).cells (rO 0 0 0 0).slots) := by
  refine MetFree.of_bodySF (plainFor_of_name pn1) hisR ?_
  intro p e s m args below meth c s₁ Bd hml0 hP hK
  obtain ⟨rfl, hZ, hh⟩ := hP
  have hx := Bd.exec
  have hby := Bd.bytes
  have bd : ∀ {pc r}, decode kQ20 pc = r → decode c.code pc = r := fun q => hb hby q
  have hlk : meth.locks = false := Bd.notSynchronized
  have hml : c.maxLocals = 1 := hml0
  have hown : s.vm.findClass zZ0 = some m.cls := findClass_of_methodNamed Bd.named
  have hnm := (name_of_methodNamed Bd.named Bd.method).1
  have X0 : Stand p l e (rO 0 0 0 0) s m #[(.ref a1)] below meth c s₁ [] 0 0 := Stand.of_body Bd
  have e0 : s₁.heap = h0 := by rw [← hh, Bd.state]; rfl
  suffices hgo : OD p e s below (Q_rm_documentCount Z a1 h0 u) (rO 0 0 0 0).cells (rO 0 0 0 0).slots (s₁.setTop (mkF m 0 #[.val (.ref a1)] [])) by
    obtain ⟨s₂, o, hgo1, hgo2⟩ := hgo
    exact ⟨s₂, o, castTop (ef6 m a1) hgo1, hgo2⟩
  refine OD.go (B := (s₁.setTop (mkF m 1 #[.val (.ref a1)] [(.ref a1)]))) (fun t k => XS.aloadN X0.here hx rfl (bd d19_0) rfl rfl k) ?_
  obtain ⟨T1, X1, e1, st1⟩ := getF X0 hx hZ hown (host := "") (Or.inl (Wd89 hw)) Via.refl e0 F1 (g := (mkF m 1 #[.val (.ref a1)] [(.ref a1)])) rfl rfl (bd d19_1)
  refine OD.go (B := (T1.setTop (mkF m 4 #[.val (.ref a1)] [(.int u)]))) st1 ?_
  exact OD.ret X1 hx hlk (t := .int) Bd.returns rfl (Or.inl ⟨rfl, Or.inl rfl, _, rfl⟩) (bd d19_4) (nl rfl) (nl rfl) ⟨rfl, rfl, e1⟩
def Q_rm_currentCount (Z : State) (a1 : Addr) (h0 : Heap) (u : Int32) (v : Option Value) (h : Heap) (L : List Loc) : Prop := v = some (.int u) ∧ L = [] ∧ h = h0
set_option maxRecDepth 65536 in
set_option maxHeartbeats 40000000 in
theorem rm_currentCount (l : Launch) (Z : State) (a0 : Array Value) (hw : HW a0 Z) (ws : List Jvm.Cond) (a1 : Addr) (h0 : Heap) (u : Int32) (F1 : Fld Z h0 a1 zZ0 "currentCount" "I" (.int u)) :
    MetFree l (⟨zZ0, "currentCount", "()I"⟩ : MethodName) (head1 (Jvm.Cond.code (⟨zZ0, "currentCount", "()I"⟩ : MethodName) kQ21 1 (some .int) :: ws) (rO 0 0 0 0)) (fun a U => a = #[(.ref a1)] ∧ Z.Warmed39 U.vm ∧ U.heap = h0) (fun _ _ _ _ _ => True) (fun _ U o U' => ∃ v L, o = .returned v ∧ Q_rm_currentCount Z a1 h0 u v U'.heap L ∧ FrameEnd U o U' L (rO 0 0 0 0).cells (rO 0 0 0 0).slots) := by
  refine MetFree.of_bodySF (plainFor_of_name pn1) hisR ?_
  intro p e s m args below meth c s₁ Bd hml0 hP hK
  obtain ⟨rfl, hZ, hh⟩ := hP
  have hx := Bd.exec
  have hby := Bd.bytes
  have bd : ∀ {pc r}, decode kQ21 pc = r → decode c.code pc = r := fun q => hb hby q
  have hlk : meth.locks = false := Bd.notSynchronized
  have hml : c.maxLocals = 1 := hml0
  have hown : s.vm.findClass zZ0 = some m.cls := findClass_of_methodNamed Bd.named
  have hnm := (name_of_methodNamed Bd.named Bd.method).1
  have X0 : Stand p l e (rO 0 0 0 0) s m #[(.ref a1)] below meth c s₁ [] 0 0 := Stand.of_body Bd
  have e0 : s₁.heap = h0 := by rw [← hh, Bd.state]; rfl
  suffices hgo : OD p e s below (Q_rm_currentCount Z a1 h0 u) (rO 0 0 0 0).cells (rO 0 0 0 0).slots (s₁.setTop (mkF m 0 #[.val (.ref a1)] [])) by
    obtain ⟨s₂, o, hgo1, hgo2⟩ := hgo
    exact ⟨s₂, o, castTop (ef6 m a1) hgo1, hgo2⟩
  refine OD.go (B := (s₁.setTop (mkF m 1 #[.val (.ref a1)] [(.ref a1)]))) (fun t k => XS.aloadN X0.here hx rfl (bd d20_0) rfl rfl k) ?_
  obtain ⟨T1, X1, e1, st1⟩ := getF X0 hx hZ hown (host := "") (Or.inl (Wd91 hw)) Via.refl e0 F1 (g := (mkF m 1 #[.val (.ref a1)] [(.ref a1)])) rfl rfl (bd d20_1)
  refine OD.go (B := (T1.setTop (mkF m 4 #[.val (.ref a1)] [(.int u)]))) st1 ?_
  exact OD.ret X1 hx hlk (t := .int) Bd.returns rfl (Or.inl ⟨rfl, Or.inl rfl, _, rfl⟩) (bd d20_4) (nl rfl) (nl rfl) ⟨rfl, rfl, e1⟩
def Q_rmO1 (Z : State) (a1 : Addr) (d : Int32) (h0 : Heap) (n0 : Nat) (bs wa : Addr) (cc dc : Int32) (kw : ClassId) (W : Int64) (v : Option Value) (h : Heap) (L : List Loc) : Prop := ∃ u : Int32, own_wu u (own_W W d) ∧ v = none ∧ Fr n0 L ∧ Keep h0 h [a1, bs, wa] ∧ Fld Z h a1 zZ0 "current" "Ljava/util/BitSet;" (.ref bs) ∧ Fld Z h a1 zZ0 "documentCount" "I" (.int dc) ∧ Fld Z h a1 zZ0 "currentCount" "I" (.int (own_cc cc W d)) ∧ Fld Z h bs "java/util/BitSet" "wordsInUse" "I" (.int u) ∧ Fld Z h bs "java/util/BitSet" "words" "[J" (.ref wa) ∧ Arv Z h wa kw .long (1 : Int32) [(.long (own_W W d))] (.long (0 : Int64))
set_option maxRecDepth 65536 in
set_option maxHeartbeats 40000000 in
theorem rmO1 (l : Launch) (Z : State) (a0 : Array Value) (hw : HW a0 Z) (ws : List Jvm.Cond) (a1 : Addr) (d : Int32) (h0 : Heap) (n0 : Nat) (Z0 : n0 ≤ h0.size) (bs wa : Addr) (X00 : Old Z n0 h0) (Sad : Sta Z Z.heap "java/util/BitSet" "$assertionsDisabled" "Z" (.int 1)) (E0 : Exa Z h0 a1 zZ0) (g0 : n0 ≤ a1) (cc dc : Int32) (Fcurrent : Fld Z h0 a1 zZ0 "current" "Ljava/util/BitSet;" (.ref bs)) (FdocumentCount : Fld Z h0 a1 zZ0 "documentCount" "I" (.int dc)) (FcurrentCount : Fld Z h0 a1 zZ0 "currentCount" "I" (.int cc)) (E1 : Exa Z h0 bs "java/util/BitSet") (g1 : n0 ≤ bs) (F0 : Fld Z h0 bs "java/util/BitSet" "wordsInUse" "I" (.int 1)) (F2 : Fld Z h0 bs "java/util/BitSet" "words" "[J" (.ref wa)) (kw : ClassId) (W : Int64) (A1 : Arv Z h0 wa kw .long (1 : Int32) [(.long W)] (.long (0 : Int64))) (g2 : n0 ≤ wa) (nw : bs ≠ wa) (hsm : own_sm d) (nab : a1 ≠ bs) (naw : a1 ≠ wa) :
    MetFree l (⟨zZ0, "outdate", "(I)V"⟩ : MethodName) (head1 (Jvm.Cond.code (⟨zZ0, "outdate", "(I)V"⟩ : MethodName) kQ22 2 none :: ws) (rO 2 0 0 27)) (fun a U => a = #[(.ref a1), (.int d)] ∧ Z.Warmed39 U.vm ∧ U.heap = h0) (fun _ _ _ _ _ => True) (fun _ U o U' => ∃ v L, o = .returned v ∧ Q_rmO1 Z a1 d h0 n0 bs wa cc dc kw W v U'.heap L ∧ FrameEnd U o U' L (rO 2 0 0 27).cells (rO 2 0 0 27).slots) := by
  refine MetFree.of_bodySF (plainFor_of_name pn1) hisR ?_
  intro p e s m args below meth c s₁ Bd hml0 hP hK
  obtain ⟨rfl, hZ, hh⟩ := hP
  have hx := Bd.exec
  have hby := Bd.bytes
  have bd : ∀ {pc r}, decode kQ22 pc = r → decode c.code pc = r := fun q => hb hby q
  have hlk : meth.locks = false := Bd.notSynchronized
  have hml : c.maxLocals = 2 := hml0
  have hown : s.vm.findClass zZ0 = some m.cls := findClass_of_methodNamed Bd.named
  have hnm := (name_of_methodNamed Bd.named Bd.method).1
  have X0 : Stand p l e (rO 2 0 0 27) s m #[(.ref a1), (.int d)] below meth c s₁ [] 0 0 := Stand.of_body Bd
  have e0 : s₁.heap = h0 := by rw [← hh, Bd.state]; rfl
  have N0 := Fr.nil n0
  suffices hgo : OD p e s below (Q_rmO1 Z a1 d h0 n0 bs wa cc dc kw W) (rO 2 0 0 27).cells (rO 2 0 0 27).slots (s₁.setTop (mkF m 0 #[.val (.ref a1), .val (.int d)] [])) by
    obtain ⟨s₂, o, hgo1, hgo2⟩ := hgo
    exact ⟨s₂, o, castTop (ef5 m a1 d) hgo1, hgo2⟩
  refine OD.go (B := (s₁.setTop (mkF m 1 #[.val (.ref a1), .val (.int d)] [(.ref a1)]))) (fun t k => XS.aloadN X0.here hx rfl (bd d21_0) rfl rfl k) ?_
  obtain ⟨T1, X1, e1, st1⟩ := getF X0 hx hZ hown (host := "") (Or.inl (Wd35 hw)) Via.refl e0 Fcurrent (g := (mkF m 1 #[.val (.ref a1), .val (.int d)] [(.ref a1)])) rfl rfl (bd d21_1)
  refine OD.go st1 ?_
  refine OD.go (B := (T1.setTop (mkF m 5 #[.val (.ref a1), .val (.int d)] [(.int d), (.ref bs)]))) (fun t k => XS.iloadN X1.here hx rfl (bd d21_4) rfl k) ?_
  obtain ⟨cq2, kq2, qa2, qb2, qc2⟩ := isOf hZ e1 E1
  obtain ⟨_, _, ⟨T2, L2, k2, n2⟩, -, X2, ⟨Lc2, hQ2, l2, y2, z2⟩, st2⟩ := X1.virtualBack hx (y := (⟨"java/util/BitSet", "get", "(I)Z"⟩ : MethodName)) (z := (⟨"java/util/BitSet", "get", "(I)Z"⟩ : MethodName)) hown (mvT hZ (Wd128 hw)) (mvT hZ (Wd129 hw)) (notFace_of_selects (args := #[]) (mvT hZ (Wd131 hw))) (mvT hZ (Wd131 hw)) (mvT hZ (Wd130 hw)) (by decide) (backOf (W := 0) (rmGT1 l Z a0 hw [] bs d h0 n0 Z0 wa X00 Sad E1 g1 F0 F2 kw W A1 g2 nw hsm) hZ (Wd132 hw) (Wd16 hw) (by decide) (by decide)) qa2 qc2 (g := (mkF m 5 #[.val (.ref a1), .val (.int d)] [(.int d), (.ref bs)])) rfl (by rw [hml]; rfl) (Steps.refl _) (argsL := [(.int d)]) (rest := []) (lenOf pd10 rfl) rfl (by show 2 * 0 + _ ≤ _; exact Nat.le_of_eq rfl) (bd d21_5) (fun _ _ => ⟨rfl, e1, (nl rfl), (nl rfl)⟩)
  dsimp only [Pt.U, Pt.locs, Pt.cells, Pt.slots] at X2 l2 y2 z2 st2 hQ2
  subst l2 y2 z2
  obtain ⟨rfl, rfl, e2⟩ := hQ2
  have N2 := Fr.app N0 (Fr.nil _)
  refine OD.via (B := (T2.setTop (mkF m 8 #[.val (.ref a1), .val (.int d)] [(.int (own_get W d))]))) st2 ?_
  by_cases c8_3 : (own_get W d) = (0 : Int32)
  · refine OD.go (B := (T2.setTop (mkF m 29 #[.val (.ref a1), .val (.int d)] []))) (fun t k => XS.ifYes X2.here hx rfl (pc0 := 8) (pc' := 29) rfl (bd d21_8) rfl (by rw [if0]; exact (teq c8_3).1) (by decide) (by decide) k) ?_
    have eW : own_W W d = W := if_pos c8_3
    have eC : own_cc cc W d = cc := if_pos c8_3
    exact OD.retV X2 hx hlk Bd.returns (bd d21_29) (nl rfl) (nl rfl) ⟨_, by rw [eW]; exact Or.inl rfl, rfl, N2, by rw [e2]; exact (Keep.refl h0 [a1, bs, wa]), by rw [e2]; exact Fcurrent, by rw [e2]; exact FdocumentCount, by rw [e2, eC]; exact FcurrentCount, by rw [e2]; exact F0, by rw [e2]; exact F2, by rw [e2, eW]; exact A1⟩
  · refine OD.go (B := (T2.setTop (mkF m 12 #[.val (.ref a1), .val (.int d)] [(.ref a1)]))) (fun t k => XS.ifNo X2.here hx rfl (bd d21_8) rfl (by rw [if0]; exact (feq c8_3).1) (XS.aloadN X2.here hx rfl (bd d21_11) rfl rfl k)) ?_
    obtain ⟨T4, X4, e4, st4⟩ := getF X2 hx hZ hown (host := "") (Or.inl (Wd35 hw)) Via.refl e2 Fcurrent (g := (mkF m 12 #[.val (.ref a1), .val (.int d)] [(.ref a1)])) rfl rfl (bd d21_12)
    refine OD.go st4 ?_
    refine OD.go (B := (T4.setTop (mkF m 16 #[.val (.ref a1), .val (.int d)] [(.int d), (.ref bs)]))) (fun t k => XS.iloadN X4.here hx rfl (bd d21_15) rfl k) ?_
    obtain ⟨cq5, kq5, qa5, qb5, qc5⟩ := isOf hZ e4 E1
    obtain ⟨_, _, ⟨T5, L5, k5, n5⟩, -, X5, ⟨Lc5, hQ5, l5, y5, z5⟩, st5⟩ := X4.virtualBack hx (y := (⟨"java/util/BitSet", "clear", "(I)V"⟩ : MethodName)) (z := (⟨"java/util/BitSet", "clear", "(I)V"⟩ : MethodName)) hown (mvT hZ (Wd133 hw)) (mvT hZ (Wd134 hw)) (notFace_of_selects (args := #[]) (mvT hZ (Wd136 hw))) (mvT hZ (Wd136 hw)) (mvT hZ (Wd135 hw)) (by decide) (backOf (W := 0) (rmCR l Z a0 hw [] bs d h0 n0 Z0 wa X00 Sad E1 g1 F0 F2 kw W A1 g2 nw hsm) hZ (Wd137 hw) (Wd16 hw) (by decide) (by decide)) qa5 qc5 (g := (mkF m 16 #[.val (.ref a1), .val (.int d)] [(.int d), (.ref bs)])) rfl (by rw [hml]; rfl) (Steps.refl _) (argsL := [(.int d)]) (rest := []) (lenOf pd1 rfl) rfl (by show 2 * 0 + _ ≤ _; exact Nat.le_of_eq rfl) (bd d21_16) (fun _ _ => ⟨rfl, e4, (nl rfl), (nl rfl)⟩)
    dsimp only [Pt.U, Pt.locs, Pt.cells, Pt.slots] at X5 l5 y5 z5 st5 hQ5
    subst l5 y5 z5
    obtain ⟨u5, wu5, rfl, Nq5, K5, U5, P5, A5⟩ := hQ5
    have N5 := Fr.app N2 Nq5
    refine OD.via st5 ?_
    refine OD.go (B := (T5.setTop (mkF m 21 #[.val (.ref a1), .val (.int d)] [(.ref a1), (.ref a1)]))) (fun t k => XS.aloadN X5.here hx rfl (bd d21_19) rfl rfl (XS.dup X5.here hx rfl (bd d21_20) rfl rfl k)) ?_
    have f6 := (FcurrentCount.keep K5 (ninS nab (ninS naw nin0)))
    obtain ⟨T7, X7, e7, st7⟩ := getF X5 hx hZ hown (host := "") (Or.inl (Wd91 hw)) Via.refl rfl f6 (g := (mkF m 21 #[.val (.ref a1), .val (.int d)] [(.ref a1), (.ref a1)])) rfl rfl (bd d21_21)
    refine OD.go st7 ?_
    refine OD.go (B := (T7.setTop (mkF m 26 #[.val (.ref a1), .val (.int d)] [(.int (cc - (1 : Int32))), (.ref a1)]))) (fun t k => XS.iconst X7.here hx rfl (bd d21_24) (XS.isub X7.here hx rfl (bd d21_25) rfl k)) ?_
    have f8 := (E0.keep K5)
    obtain ⟨T9, h9, X9, e9, W9, st9⟩ := putF X7 hx hZ hown (host := "") (Or.inl (Wd91 hw)) Via.refl e7 f6 f8 (Or.inl (Wd92 hw)) (Wd3 hw) (ty := .int) (by decide) rfl rfl (g := (mkF m 26 #[.val (.ref a1), .val (.int d)] [(.int (cc - (1 : Int32))), (.ref a1)])) rfl rfl (bd d21_26)
    have Fx9 := f6.same W9
    have N9 := Fr.snoc X9 N5 g0
    refine OD.go (B := (T9.setTop (mkF m 29 #[.val (.ref a1), .val (.int d)] []))) st9 ?_
    have eW : own_W W d = own_clr W d := if_neg c8_3
    have eC : own_cc cc W d = cc - (1 : Int32) := if_neg c8_3
    exact OD.retV X9 hx hlk Bd.returns (bd d21_29) (nl rfl) (nl rfl) ⟨_, by rw [eW]; exact wu5, rfl, N9, by rw [e9]; exact (((Keep.refl h0 [a1, bs, wa]).trans K5 (allS (Or.inl (List.mem_of_getElem? (i := 1) rfl)) (allS (Or.inl (List.mem_of_getElem? (i := 2) rfl)) all0))).wr W9 (Or.inl (List.mem_of_getElem? (i := 0) rfl))), by rw [e9]; exact ((Fcurrent.keep K5 (ninS nab (ninS naw nin0))).other W9 (Or.inr (slot_ne (Or.inr (Wd36 hw)) (Or.inl (Wd92 hw)) (by decide) (t := (.object "java/util/BitSet")) (t' := .int) (by decide) (by decide)))), by rw [e9]; exact ((FdocumentCount.keep K5 (ninS nab (ninS naw nin0))).other W9 (Or.inr (slot_ne (Or.inr (Wd90 hw)) (Or.inl (Wd92 hw)) (by decide) (t := .int) (t' := .int) (by decide) (by decide)))), by rw [e9, eC]; exact Fx9, by rw [e9]; exact (U5.other W9 (Or.inl (Ne.symm nab))), by rw [e9]; exact (P5.other W9 (Or.inl (Ne.symm nab))), by rw [e9, eW]; exact (A5.other W9 (Ne.symm naw))⟩
def Q_rmO0 (Z : State) (a1 : Addr) (d : Int32) (h0 : Heap) (v : Option Value) (h : Heap) (L : List Loc) : Prop := v = none ∧ L = [] ∧ h = h0
set_option maxRecDepth 65536 in
set_option maxHeartbeats 40000000 in
theorem rmO0 (l : Launch) (Z : State) (a0 : Array Value) (hw : HW a0 Z) (ws : List Jvm.Cond) (a1 : Addr) (d : Int32) (h0 : Heap) (n0 : Nat) (Z0 : n0 ≤ h0.size) (bs wa : Addr) (X00 : Old Z n0 h0) (Sad : Sta Z Z.heap "java/util/BitSet" "$assertionsDisabled" "Z" (.int 1)) (E0 : Exa Z h0 a1 zZ0) (g0 : n0 ≤ a1) (cc dc : Int32) (Fcurrent : Fld Z h0 a1 zZ0 "current" "Ljava/util/BitSet;" (.ref bs)) (FdocumentCount : Fld Z h0 a1 zZ0 "documentCount" "I" (.int dc)) (FcurrentCount : Fld Z h0 a1 zZ0 "currentCount" "I" (.int cc)) (E1 : Exa Z h0 bs "java/util/BitSet") (g1 : n0 ≤ bs) (F0 : Fld Z h0 bs "java/util/BitSet" "wordsInUse" "I" (.int 0)) (F2 : Fld Z h0 bs "java/util/BitSet" "words" "[J" (.ref wa)) (kw : ClassId) (W : Int64) (A1 : Arv Z h0 wa kw .long (1 : Int32) [(.long W)] (.long (0 : Int64))) (g2 : n0 ≤ wa) (nw : bs ≠ wa) (hsm : own_sm d) (nab : a1 ≠ bs) (naw : a1 ≠ wa) :
    MetFree l (⟨zZ0, "outdate", "(I)V"⟩ : MethodName) (head1 (Jvm.Cond.code (⟨zZ0, "outdate", "(I)V"⟩ : MethodName) kQ22 2 none :: ws) (rO 2 0 0 27)) (fun a U => a = #[(.ref a1), (.int d)] ∧ Z.Warmed39 U.vm ∧ U.heap = h0) (fun _ _ _ _ _ => True) (fun _ U o U' => ∃ v L, o = .returned v ∧ Q_rmO0 Z a1 d h0 v U'.heap L ∧ FrameEnd U o U' L (rO 2 0 0 27).cells (rO 2 0 0 27).slots) := by
  refine MetFree.of_bodySF (plainFor_of_name pn1) hisR ?_
  intro p e s m args below meth c s₁ Bd hml0 hP hK
  obtain ⟨rfl, hZ, hh⟩ := hP
  have hx := Bd.exec
  have hby := Bd.bytes
  have bd : ∀ {pc r}, decode kQ22 pc = r → decode c.code pc = r := fun q => hb hby q
  have hlk : meth.locks = false := Bd.notSynchronized
  have hml : c.maxLocals = 2 := hml0
  have hown : s.vm.findClass zZ0 = some m.cls := findClass_of_methodNamed Bd.named
  have hnm := (name_of_methodNamed Bd.named Bd.method).1
  have X0 : Stand p l e (rO 2 0 0 27) s m #[(.ref a1), (.int d)] below meth c s₁ [] 0 0 := Stand.of_body Bd
  have e0 : s₁.heap = h0 := by rw [← hh, Bd.state]; rfl
  suffices hgo : OD p e s below (Q_rmO0 Z a1 d h0) (rO 2 0 0 27).cells (rO 2 0 0 27).slots (s₁.setTop (mkF m 0 #[.val (.ref a1), .val (.int d)] [])) by
    obtain ⟨s₂, o, hgo1, hgo2⟩ := hgo
    exact ⟨s₂, o, castTop (ef5 m a1 d) hgo1, hgo2⟩
  refine OD.go (B := (s₁.setTop (mkF m 1 #[.val (.ref a1), .val (.int d)] [(.ref a1)]))) (fun t k => XS.aloadN X0.here hx rfl (bd d21_0) rfl rfl k) ?_
  obtain ⟨T1, X1, e1, st1⟩ := getF X0 hx hZ hown (host := "") (Or.inl (Wd35 hw)) Via.refl e0 Fcurrent (g := (mkF m 1 #[.val (.ref a1), .val (.int d)] [(.ref a1)])) rfl rfl (bd d21_1)
  refine OD.go st1 ?_
  refine OD.go (B := (T1.setTop (mkF m 5 #[.val (.ref a1), .val (.int d)] [(.int d), (.ref bs)]))) (fun t k => XS.iloadN X1.here hx rfl (bd d21_4) rfl k) ?_
  obtain ⟨cq2, kq2, qa2, qb2, qc2⟩ := isOf hZ e1 E1
  obtain ⟨_, _, ⟨T2, L2, k2, n2⟩, -, X2, ⟨Lc2, hQ2, l2, y2, z2⟩, st2⟩ := X1.virtualBack hx (y := (⟨"java/util/BitSet", "get", "(I)Z"⟩ : MethodName)) (z := (⟨"java/util/BitSet", "get", "(I)Z"⟩ : MethodName)) hown (mvT hZ (Wd128 hw)) (mvT hZ (Wd129 hw)) (notFace_of_selects (args := #[]) (mvT hZ (Wd131 hw))) (mvT hZ (Wd131 hw)) (mvT hZ (Wd130 hw)) (by decide) (backOf (W := 0) (rmGT0 l Z a0 hw [] bs d h0 n0 Z0 wa X00 Sad E1 g1 F0 F2 kw W A1 g2 nw hsm) hZ (Wd132 hw) (Wd16 hw) (by decide) (by decide)) qa2 qc2 (g := (mkF m 5 #[.val (.ref a1), .val (.int d)] [(.int d), (.ref bs)])) rfl (by rw [hml]; rfl) (Steps.refl _) (argsL := [(.int d)]) (rest := []) (lenOf pd10 rfl) rfl (by show 2 * 0 + _ ≤ _; exact Nat.le_of_eq rfl) (bd d21_5) (fun _ _ => ⟨rfl, e1, (nl rfl), (nl rfl)⟩)
  dsimp only [Pt.U, Pt.locs, Pt.cells, Pt.slots] at X2 l2 y2 z2 st2 hQ2
  subst l2 y2 z2
  obtain ⟨rfl, rfl, e2⟩ := hQ2
  refine OD.via st2 ?_
  refine OD.go (B := (T2.setTop (mkF m 29 #[.val (.ref a1), .val (.int d)] []))) (fun t k => XS.ifYes X2.here hx rfl (pc0 := 8) (pc' := 29) rfl (bd d21_8) rfl (by rw [if0]; exact (teq (by decide : (0 : Int32) = (0 : Int32))).1) (by decide) (by decide) k) ?_
  exact OD.retV X2 hx hlk Bd.returns (bd d21_29) (nl rfl) (nl rfl) ⟨rfl, rfl, e2⟩
def Q_rm0 (Z : State) (p0 : Int32) (p1 : Int32) (p2 : Int32) (q0 : Int64) (q1 : Int64) (q2 : Int64) (h0 : Heap) (v : Option Value) (h : Heap) (L : List Loc) : Prop := v = some (.int 1) ∧ Fr h0.size L
set_option maxRecDepth 65536 in
set_option maxHeartbeats 40000000 in
theorem rm0 (l : Launch) (Z : State) (a0 : Array Value) (hw : HW a0 Z) (ws : List Jvm.Cond) (p0 : Int32) (p1 : Int32) (p2 : Int32) (q0 : Int64) (q1 : Int64) (q2 : Int64) (h0 : Heap) (X00 : Old Z h0.size h0) (Sad : Sta Z Z.heap "java/util/BitSet" "$assertionsDisabled" "Z" (.int 1)) :
    MetFree l x (head1 (Jvm.Cond.code x code maxLocals ret :: ws) room_1) (fun a U => a = #[(.int p0), (.int p1), (.int p2), (.long q0), (.long q1), (.long q2)] ∧ Z.Warmed39 U.vm ∧ U.heap = h0) (fun _ _ _ _ _ => True) (fun _ U o U' => ∃ v L, o = .returned v ∧ Q_rm0 Z p0 p1 p2 q0 q1 q2 h0 v U'.heap L ∧ FrameEnd U o U' L 48 4288) := by
  refine MetFree.of_bodySF (plainFor_of_name pn3) hisR ?_
  intro p e s m args below meth c s₁ Bd hml0 hP hK
  obtain ⟨rfl, hZ, hh⟩ := hP
  have hx := Bd.exec
  have hby := Bd.bytes
  have bd : ∀ {pc r}, decode code pc = r → decode c.code pc = r := fun q => hb hby q
  have hlk : meth.locks = false := Bd.notSynchronized
  have hml : c.maxLocals = 27 := hml0
  have hown : s.vm.findClass zZ1 = some m.cls := findClass_of_methodNamed Bd.named
  have hnm := (name_of_methodNamed Bd.named Bd.method).1
  have X0 : Stand p l e room_1 s m #[(.int p0), (.int p1), (.int p2), (.long q0), (.long q1), (.long q2)] below meth c s₁ [] 0 0 := Stand.of_body Bd
  have e0 : s₁.heap = h0 := by rw [← hh, Bd.state]; rfl
  have N0 := Fr.nil h0.size
  suffices hgo : OD p e s below (Q_rm0 Z p0 p1 p2 q0 q1 q2 h0) 48 4288 (s₁.setTop (mkF m 0 #[.val (.int p0), .val (.int p1), .val (.int p2), .val (.long q0), .second, .val (.long q1), .second, .val (.long q2), .second, .unset, .unset, .unset, .unset, .unset, .unset, .unset, .unset, .unset, .unset, .unset, .unset, .unset, .unset, .unset, .unset, .unset, .unset] [])) by
    obtain ⟨s₂, o, hgo1, hgo2⟩ := hgo
    exact ⟨s₂, o, castTop (ef15 m p0 p1 p2 q0 q1 q2) hgo1, hgo2⟩
  refine OD.go (B := (s₁.setTop (mkF m 6 #[.val (.int p0), .val (.int p1), .val (.int p2), .val (.long q0), .second, .val (.long q1), .second, .val (.long q2), .second, .val (.int (p0 &&& (7 : Int32))), .unset, .unset, .unset, .unset, .unset, .unset, .unset, .unset, .unset, .unset, .unset, .unset, .unset, .unset, .unset, .unset, .unset] []))) (fun t k => XS.iloadN X0.here hx rfl (bd at_0) rfl (XS.bipush X0.here hx rfl (bd at_1) (XS.iand X0.here hx rfl (bd at_3) rfl (XS.istore X0.here hx rfl (bd at_4) rfl (l' := #[.val (.int p0), .val (.int p1), .val (.int p2), .val (.long q0), .second, .val (.long q1), .second, .val (.long q2), .second, .val (.int (p0 &&& (7 : Int32))), .unset, .unset, .unset, .unset, .unset, .unset, .unset, .unset, .unset, .unset, .unset, .unset, .unset, .unset, .unset, .unset, .unset]) rfl k)))) ?_
  generalize hu4_1 : (p0 &&& (7 : Int32)) = u4_1
  refine OD.go (B := (s₁.setTop (mkF m 14 #[.val (.int p0), .val (.int p1), .val (.int p2), .val (.long q0), .second, .val (.long q1), .second, .val (.long q2), .second, .val (.int u4_1), .val (.int (((p0.toUInt32 >>> ((3 : Int32) &&& 31).toUInt32).toInt32) &&& (7 : Int32))), .unset, .unset, .unset, .unset, .unset, .unset, .unset, .unset, .unset, .unset, .unset, .unset, .unset, .unset, .unset, .unset] []))) (fun t k => XS.iloadN X0.here hx rfl (bd at_6) rfl (XS.iconst X0.here hx rfl (bd at_7) (XS.iushr X0.here hx rfl (bd at_8) rfl (XS.bipush X0.here hx rfl (bd at_9) (XS.iand X0.here hx rfl (bd at_11) rfl (XS.istore X0.here hx rfl (bd at_12) rfl (l' := #[.val (.int p0), .val (.int p1), .val (.int p2), .val (.long q0), .second, .val (.long q1), .second, .val (.long q2), .second, .val (.int u4_1), .val (.int (((p0.toUInt32 >>> ((3 : Int32) &&& 31).toUInt32).toInt32) &&& (7 : Int32))), .unset, .unset, .unset, .unset, .unset, .unset, .unset, .unset, .unset, .unset, .unset, .unset, .unset, .unset, .unset, .unset]) rfl k)))))) ?_
  generalize hu12_2 : (((p0.toUInt32 >>> ((3 : Int32) &&& 31).toUInt32).toInt32) &&& (7 : Int32)) = u12_2
  refine OD.go (B := (s₁.setTop (mkF m 23 #[.val (.int p0), .val (.int p1), .val (.int p2), .val (.long q0), .second, .val (.long q1), .second, .val (.long q2), .second, .val (.int u4_1), .val (.int u12_2), .val (.int (((p0.toUInt32 >>> ((6 : Int32) &&& 31).toUInt32).toInt32) &&& (7 : Int32))), .unset, .unset, .unset, .unset, .unset, .unset, .unset, .unset, .unset, .unset, .unset, .unset, .unset, .unset, .unset] []))) (fun t k => XS.iloadN X0.here hx rfl (bd at_14) rfl (XS.bipush X0.here hx rfl (bd at_15) (XS.iushr X0.here hx rfl (bd at_17) rfl (XS.bipush X0.here hx rfl (bd at_18) (XS.iand X0.here hx rfl (bd at_20) rfl (XS.istore X0.here hx rfl (bd at_21) rfl (l' := #[.val (.int p0), .val (.int p1), .val (.int p2), .val (.long q0), .second, .val (.long q1), .second, .val (.long q2), .second, .val (.int u4_1), .val (.int u12_2), .val (.int (((p0.toUInt32 >>> ((6 : Int32) &&& 31).toUInt32).toInt32) &&& (7 : Int32))), .unset, .unset, .unset, .unset, .unset, .unset, .unset, .unset, .unset, .unset, .unset, .unset, .unset, .unset, .unset]) rfl k)))))) ?_
  generalize hu21_3 : (((p0.toUInt32 >>> ((6 : Int32) &&& 31).toUInt32).toInt32) &&& (7 : Int32)) = u21_3
  refine OD.go (B := (s₁.setTop (mkF m 29 #[.val (.int p0), .val (.int p1), .val (.int p2), .val (.long q0), .second, .val (.long q1), .second, .val (.long q2), .second, .val (.int u4_1), .val (.int u12_2), .val (.int u21_3), .val (.int (p1 &&& (15 : Int32))), .unset, .unset, .unset, .unset, .unset, .unset, .unset, .unset, .unset, .unset, .unset, .unset, .unset, .unset] []))) (fun t k => XS.iloadN X0.here hx rfl (bd at_23) rfl (XS.bipush X0.here hx rfl (bd at_24) (XS.iand X0.here hx rfl (bd at_26) rfl (XS.istore X0.here hx rfl (bd at_27) rfl (l' := #[.val (.int p0), .val (.int p1), .val (.int p2), .val (.long q0), .second, .val (.long q1), .second, .val (.long q2), .second, .val (.int u4_1), .val (.int u12_2), .val (.int u21_3), .val (.int (p1 &&& (15 : Int32))), .unset, .unset, .unset, .unset, .unset, .unset, .unset, .unset, .unset, .unset, .unset, .unset, .unset, .unset]) rfl k)))) ?_
  generalize hu27_4 : (p1 &&& (15 : Int32)) = u27_4
  refine OD.go (B := (s₁.setTop (mkF m 35 #[.val (.int p0), .val (.int p1), .val (.int p2), .val (.long q0), .second, .val (.long q1), .second, .val (.long q2), .second, .val (.int u4_1), .val (.int u12_2), .val (.int u21_3), .val (.int u27_4), .val (.int (p2 &&& (15 : Int32))), .unset, .unset, .unset, .unset, .unset, .unset, .unset, .unset, .unset, .unset, .unset, .unset, .unset] []))) (fun t k => XS.iloadN X0.here hx rfl (bd at_29) rfl (XS.bipush X0.here hx rfl (bd at_30) (XS.iand X0.here hx rfl (bd at_32) rfl (XS.istore X0.here hx rfl (bd at_33) rfl (l' := #[.val (.int p0), .val (.int p1), .val (.int p2), .val (.long q0), .second, .val (.long q1), .second, .val (.long q2), .second, .val (.int u4_1), .val (.int u12_2), .val (.int u21_3), .val (.int u27_4), .val (.int (p2 &&& (15 : Int32))), .unset, .unset, .unset, .unset, .unset, .unset, .unset, .unset, .unset, .unset, .unset, .unset, .unset]) rfl k)))) ?_
  generalize hu33_5 : (p2 &&& (15 : Int32)) = u33_5
  refine OD.go (B := (s₁.setTop (mkF m 40 #[.val (.int p0), .val (.int p1), .val (.int p2), .val (.long q0), .second, .val (.long q1), .second, .val (.long q2), .second, .val (.int u4_1), .val (.int u12_2), .val (.int u21_3), .val (.int u27_4), .val (.int u33_5), .unset, .unset, .unset, .unset, .unset, .unset, .unset, .unset, .unset, .unset, .unset, .unset, .unset] [(.int u4_1), (.int u12_2), (.int 1)]))) (fun t k => XS.iconst X0.here hx rfl (bd at_35) (XS.iload X0.here hx rfl (bd at_36) rfl (XS.iload X0.here hx rfl (bd at_38) rfl k))) ?_
  obtain ⟨v48_6, hv48_6⟩ : ∃ z : Int32, z = (if u12_2 = u4_1 then (0 : Int32) else (1 : Int32)) := ⟨_, rfl⟩
  refine OD.cut (B := (s₁.setTop (mkF m 48 #[.val (.int p0), .val (.int p1), .val (.int p2), .val (.long q0), .second, .val (.long q1), .second, .val (.long q2), .second, .val (.int u4_1), .val (.int u12_2), .val (.int u21_3), .val (.int u27_4), .val (.int u33_5), .unset, .unset, .unset, .unset, .unset, .unset, .unset, .unset, .unset, .unset, .unset, .unset, .unset] [(.int v48_6), (.int 1)]))) (fun J48_7 => ?_) ?_
  · skip
    by_cases c40_8 : u12_2 = u4_1
    · refine OD.go (B := (s₁.setTop (mkF m 48 #[.val (.int p0), .val (.int p1), .val (.int p2), .val (.long q0), .second, .val (.long q1), .second, .val (.long q2), .second, .val (.int u4_1), .val (.int u12_2), .val (.int u21_3), .val (.int u27_4), .val (.int u33_5), .unset, .unset, .unset, .unset, .unset, .unset, .unset, .unset, .unset, .unset, .unset, .unset, .unset] [(.int 0), (.int 1)]))) (fun t k => XS.icmpYes X0.here hx rfl (pc0 := 40) (pc' := 47) rfl (bd at_40) rfl (teq c40_8).1 (by decide) (by decide) (XS.iconst X0.here hx rfl (bd at_47) k)) ?_
      rw [if_pos c40_8] at hv48_6
      rw [hv48_6] at J48_7
      exact J48_7
    · refine OD.go (B := (s₁.setTop (mkF m 48 #[.val (.int p0), .val (.int p1), .val (.int p2), .val (.long q0), .second, .val (.long q1), .second, .val (.long q2), .second, .val (.int u4_1), .val (.int u12_2), .val (.int u21_3), .val (.int u27_4), .val (.int u33_5), .unset, .unset, .unset, .unset, .unset, .unset, .unset, .unset, .unset, .unset, .unset, .unset, .unset] [(.int 1), (.int 1)]))) (fun t k => XS.icmpNo X0.here hx rfl (bd at_40) rfl (feq c40_8).1 (XS.iconst X0.here hx rfl (bd at_43) (XS.goto X0.here hx rfl (pc0 := 44) (pc' := 48) rfl (bd at_44) (by decide) (by decide) k))) ?_
      rw [if_neg c40_8] at hv48_6
      rw [hv48_6] at J48_7
      exact J48_7
  refine OD.go (B := (s₁.setTop (mkF m 53 #[.val (.int p0), .val (.int p1), .val (.int p2), .val (.long q0), .second, .val (.long q1), .second, .val (.long q2), .second, .val (.int u4_1), .val (.int u12_2), .val (.int u21_3), .val (.int u27_4), .val (.int u33_5), .unset, .unset, .unset, .unset, .unset, .unset, .unset, .unset, .unset, .unset, .unset, .unset, .unset] [(.int u4_1), (.int u21_3), (.int ((1 : Int32) + v48_6))]))) (fun t k => XS.iadd X0.here hx rfl (bd at_48) rfl (XS.iload X0.here hx rfl (bd at_49) rfl (XS.iload X0.here hx rfl (bd at_51) rfl k))) ?_
  obtain ⟨v68_9, hv68_9⟩ : ∃ z : Int32, z = (if u21_3 = u4_1 then (0 : Int32) else (if u21_3 = u12_2 then (0 : Int32) else (1 : Int32))) := ⟨_, rfl⟩
  refine OD.cut (B := (s₁.setTop (mkF m 68 #[.val (.int p0), .val (.int p1), .val (.int p2), .val (.long q0), .second, .val (.long q1), .second, .val (.long q2), .second, .val (.int u4_1), .val (.int u12_2), .val (.int u21_3), .val (.int u27_4), .val (.int u33_5), .unset, .unset, .unset, .unset, .unset, .unset, .unset, .unset, .unset, .unset, .unset, .unset, .unset] [(.int v68_9), (.int ((1 : Int32) + v48_6))]))) (fun J68_10 => ?_) ?_
  · skip
    by_cases c53_11 : u21_3 = u4_1
    · refine OD.go (B := (s₁.setTop (mkF m 68 #[.val (.int p0), .val (.int p1), .val (.int p2), .val (.long q0), .second, .val (.long q1), .second, .val (.long q2), .second, .val (.int u4_1), .val (.int u12_2), .val (.int u21_3), .val (.int u27_4), .val (.int u33_5), .unset, .unset, .unset, .unset, .unset, .unset, .unset, .unset, .unset, .unset, .unset, .unset, .unset] [(.int 0), (.int ((1 : Int32) + v48_6))]))) (fun t k => XS.icmpYes X0.here hx rfl (pc0 := 53) (pc' := 67) rfl (bd at_53) rfl (teq c53_11).1 (by decide) (by decide) (XS.iconst X0.here hx rfl (bd at_67) k)) ?_
      rw [if_pos c53_11] at hv68_9
      rw [hv68_9] at J68_10
      exact J68_10
    · refine OD.go (B := (s₁.setTop (mkF m 60 #[.val (.int p0), .val (.int p1), .val (.int p2), .val (.long q0), .second, .val (.long q1), .second, .val (.long q2), .second, .val (.int u4_1), .val (.int u12_2), .val (.int u21_3), .val (.int u27_4), .val (.int u33_5), .unset, .unset, .unset, .unset, .unset, .unset, .unset, .unset, .unset, .unset, .unset, .unset, .unset] [(.int u12_2), (.int u21_3), (.int ((1 : Int32) + v48_6))]))) (fun t k => XS.icmpNo X0.here hx rfl (bd at_53) rfl (feq c53_11).1 (XS.iload X0.here hx rfl (bd at_56) rfl (XS.iload X0.here hx rfl (bd at_58) rfl k))) ?_
      by_cases c60_12 : u21_3 = u12_2
      · refine OD.go (B := (s₁.setTop (mkF m 68 #[.val (.int p0), .val (.int p1), .val (.int p2), .val (.long q0), .second, .val (.long q1), .second, .val (.long q2), .second, .val (.int u4_1), .val (.int u12_2), .val (.int u21_3), .val (.int u27_4), .val (.int u33_5), .unset, .unset, .unset, .unset, .unset, .unset, .unset, .unset, .unset, .unset, .unset, .unset, .unset] [(.int 0), (.int ((1 : Int32) + v48_6))]))) (fun t k => XS.icmpYes X0.here hx rfl (pc0 := 60) (pc' := 67) rfl (bd at_60) rfl (teq c60_12).1 (by decide) (by decide) (XS.iconst X0.here hx rfl (bd at_67) k)) ?_
        rw [if_neg c53_11, if_pos c60_12] at hv68_9
        rw [hv68_9] at J68_10
        exact J68_10
      · refine OD.go (B := (s₁.setTop (mkF m 68 #[.val (.int p0), .val (.int p1), .val (.int p2), .val (.long q0), .second, .val (.long q1), .second, .val (.long q2), .second, .val (.int u4_1), .val (.int u12_2), .val (.int u21_3), .val (.int u27_4), .val (.int u33_5), .unset, .unset, .unset, .unset, .unset, .unset, .unset, .unset, .unset, .unset, .unset, .unset, .unset] [(.int 1), (.int ((1 : Int32) + v48_6))]))) (fun t k => XS.icmpNo X0.here hx rfl (bd at_60) rfl (feq c60_12).1 (XS.iconst X0.here hx rfl (bd at_63) (XS.goto X0.here hx rfl (pc0 := 64) (pc' := 68) rfl (bd at_64) (by decide) (by decide) k))) ?_
        rw [if_neg c53_11, if_neg c60_12] at hv68_9
        rw [hv68_9] at J68_10
        exact J68_10
  refine OD.go (B := (s₁.setTop (mkF m 71 #[.val (.int p0), .val (.int p1), .val (.int p2), .val (.long q0), .second, .val (.long q1), .second, .val (.long q2), .second, .val (.int u4_1), .val (.int u12_2), .val (.int u21_3), .val (.int u27_4), .val (.int u33_5), .val (.int (((1 : Int32) + v48_6) + v68_9)), .unset, .unset, .unset, .unset, .unset, .unset, .unset, .unset, .unset, .unset, .unset, .unset] []))) (fun t k => XS.iadd X0.here hx rfl (bd at_68) rfl (XS.istore X0.here hx rfl (bd at_69) rfl (l' := #[.val (.int p0), .val (.int p1), .val (.int p2), .val (.long q0), .second, .val (.long q1), .second, .val (.long q2), .second, .val (.int u4_1), .val (.int u12_2), .val (.int u21_3), .val (.int u27_4), .val (.int u33_5), .val (.int (((1 : Int32) + v48_6) + v68_9)), .unset, .unset, .unset, .unset, .unset, .unset, .unset, .unset, .unset, .unset, .unset, .unset]) rfl k)) ?_
  generalize hu69_13 : (((1 : Int32) + v48_6) + v68_9) = u69_13
  refine OD.go (B := (s₁.setTop (mkF m 74 #[.val (.int p0), .val (.int p1), .val (.int p2), .val (.long q0), .second, .val (.long q1), .second, .val (.long q2), .second, .val (.int u4_1), .val (.int u12_2), .val (.int u21_3), .val (.int u27_4), .val (.int u33_5), .val (.int u69_13), .unset, .unset, .unset, .unset, .unset, .unset, .unset, .unset, .unset, .unset, .unset, .unset] [(.int 3), (.int u69_13)]))) (fun t k => XS.iload X0.here hx rfl (bd at_71) rfl (XS.iconst X0.here hx rfl (bd at_73) k)) ?_
  obtain ⟨v82_14, hv82_14⟩ : ∃ z : Int32, z = (if u69_13 < (3 : Int32) then (1 : Int32) else (0 : Int32)) := ⟨_, rfl⟩
  refine OD.cut (B := (s₁.setTop (mkF m 82 #[.val (.int p0), .val (.int p1), .val (.int p2), .val (.long q0), .second, .val (.long q1), .second, .val (.long q2), .second, .val (.int u4_1), .val (.int u12_2), .val (.int u21_3), .val (.int u27_4), .val (.int u33_5), .val (.int u69_13), .unset, .unset, .unset, .unset, .unset, .unset, .unset, .unset, .unset, .unset, .unset, .unset] [(.int v82_14)]))) (fun J82_15 => ?_) ?_
  · skip
    by_cases c74_16 : u69_13 < (3 : Int32)
    · refine OD.go (B := (s₁.setTop (mkF m 82 #[.val (.int p0), .val (.int p1), .val (.int p2), .val (.long q0), .second, .val (.long q1), .second, .val (.long q2), .second, .val (.int u4_1), .val (.int u12_2), .val (.int u21_3), .val (.int u27_4), .val (.int u33_5), .val (.int u69_13), .unset, .unset, .unset, .unset, .unset, .unset, .unset, .unset, .unset, .unset, .unset, .unset] [(.int 1)]))) (fun t k => XS.icmpNo X0.here hx rfl (bd at_74) rfl (tlt c74_16).2.1 (XS.iconst X0.here hx rfl (bd at_77) (XS.goto X0.here hx rfl (pc0 := 78) (pc' := 82) rfl (bd at_78) (by decide) (by decide) k))) ?_
      rw [if_pos c74_16] at hv82_14
      rw [hv82_14] at J82_15
      exact J82_15
    · refine OD.go (B := (s₁.setTop (mkF m 82 #[.val (.int p0), .val (.int p1), .val (.int p2), .val (.long q0), .second, .val (.long q1), .second, .val (.long q2), .second, .val (.int u4_1), .val (.int u12_2), .val (.int u21_3), .val (.int u27_4), .val (.int u33_5), .val (.int u69_13), .unset, .unset, .unset, .unset, .unset, .unset, .unset, .unset, .unset, .unset, .unset, .unset] [(.int 0)]))) (fun t k => XS.icmpYes X0.here hx rfl (pc0 := 74) (pc' := 81) rfl (bd at_74) rfl (flt c74_16).2.1 (by decide) (by decide) (XS.iconst X0.here hx rfl (bd at_81) k)) ?_
      rw [if_neg c74_16] at hv82_14
      rw [hv82_14] at J82_15
      exact J82_15
  refine OD.go (B := (s₁.setTop (mkF m 85 #[.val (.int p0), .val (.int p1), .val (.int p2), .val (.long q0), .second, .val (.long q1), .second, .val (.long q2), .second, .val (.int u4_1), .val (.int u12_2), .val (.int u21_3), .val (.int u27_4), .val (.int u33_5), .val (.int u69_13), .val (.int v82_14), .unset, .unset, .unset, .unset, .unset, .unset, .unset, .unset, .unset, .unset, .unset] [(.int 3)]))) (fun t k => XS.istore X0.here hx rfl (bd at_82) rfl (l' := #[.val (.int p0), .val (.int p1), .val (.int p2), .val (.long q0), .second, .val (.long q1), .second, .val (.long q2), .second, .val (.int u4_1), .val (.int u12_2), .val (.int u21_3), .val (.int u27_4), .val (.int u33_5), .val (.int u69_13), .val (.int v82_14), .unset, .unset, .unset, .unset, .unset, .unset, .unset, .unset, .unset, .unset, .unset]) rfl (XS.iconst X0.here hx rfl (bd at_84) k)) ?_
  obtain ⟨T17, h17, k17, X17, e17, E17, A17, st17⟩ := newP X0 hx hZ (aty := .int) (Wd0 hw) e0 (g := (mkF m 85 #[.val (.int p0), .val (.int p1), .val (.int p2), .val (.long q0), .second, .val (.long q1), .second, .val (.long q2), .second, .val (.int u4_1), .val (.int u12_2), .val (.int u21_3), .val (.int u27_4), .val (.int u33_5), .val (.int u69_13), .val (.int v82_14), .unset, .unset, .unset, .unset, .unset, .unset, .unset, .unset, .unset, .unset, .unset] [(.int 3)])) rfl (bd at_85) rfl (by decide) (cap := 3) (by decide) (by decide) (nl rfl) (nl rfl)
  obtain ⟨b17, g17⟩ : ∃ z, z = h0.size := ⟨_, rfl⟩
  rw [← g17] at A17 st17
  have V17 : Arv Z h17 b17 k17 .int 3 [(.int 0), (.int 0), (.int 0)] (.int 0) := (Arv.new A17 (by decide)).pad (pad_rep [] (.int 0) 3)
  refine OD.go st17 ?_
  refine OD.go (B := (T17.setTop (mkF m 91 #[.val (.int p0), .val (.int p1), .val (.int p2), .val (.long q0), .second, .val (.long q1), .second, .val (.long q2), .second, .val (.int u4_1), .val (.int u12_2), .val (.int u21_3), .val (.int u27_4), .val (.int u33_5), .val (.int u69_13), .val (.int v82_14), .unset, .unset, .unset, .unset, .unset, .unset, .unset, .unset, .unset, .unset, .unset] [(.int u4_1), (.int 0), (.ref b17), (.ref b17)]))) (fun t k => XS.dup X17.here hx rfl (bd at_87) rfl rfl (XS.iconst X17.here hx rfl (bd at_88) (XS.iload X17.here hx rfl (bd at_89) rfl k))) ?_
  obtain ⟨cl18, Ar18, q18, S18, M18, H18, G18⟩ := id V17
  obtain ⟨T18, h18, X18, e18, W18, st18⟩ := stI X17 hx hZ e17 Ar18 (j := (0 : Int32)) (inb_of S18 ⟨by decide, by decide⟩) (g := (mkF m 91 #[.val (.int p0), .val (.int p1), .val (.int p2), .val (.long q0), .second, .val (.long q1), .second, .val (.long q2), .second, .val (.int u4_1), .val (.int u12_2), .val (.int u21_3), .val (.int u27_4), .val (.int u33_5), .val (.int u69_13), .val (.int v82_14), .unset, .unset, .unset, .unset, .unset, .unset, .unset, .unset, .unset, .unset, .unset] [(.int u4_1), (.int 0), (.ref b17), (.ref b17)])) rfl rfl (bd at_91)
  have V18 : Arv Z h18 b17 k17 .int 3 [(.int u4_1), (.int 0), (.int 0)] (.int 0) := Arv.set Ar18 q18 S18 M18 H18 G18 rfl W18 0 rfl (nl rfl)
  have N18 := Fr.snoc X18 N0 (Nat.le_trans (Nat.le_refl _) (Nat.le_of_eq g17.symm))
  refine OD.go st18 ?_
  refine OD.go (B := (T18.setTop (mkF m 96 #[.val (.int p0), .val (.int p1), .val (.int p2), .val (.long q0), .second, .val (.long q1), .second, .val (.long q2), .second, .val (.int u4_1), .val (.int u12_2), .val (.int u21_3), .val (.int u27_4), .val (.int u33_5), .val (.int u69_13), .val (.int v82_14), .unset, .unset, .unset, .unset, .unset, .unset, .unset, .unset, .unset, .unset, .unset] [(.int u12_2), (.int 1), (.ref b17), (.ref b17)]))) (fun t k => XS.dup X18.here hx rfl (bd at_92) rfl rfl (XS.iconst X18.here hx rfl (bd at_93) (XS.iload X18.here hx rfl (bd at_94) rfl k))) ?_
  obtain ⟨cl19, Ar19, q19, S19, M19, H19, G19⟩ := id V18
  obtain ⟨T19, h19, X19, e19, W19, st19⟩ := stI X18 hx hZ e18 Ar19 (j := (1 : Int32)) (inb_of S19 ⟨by decide, by decide⟩) (g := (mkF m 96 #[.val (.int p0), .val (.int p1), .val (.int p2), .val (.long q0), .second, .val (.long q1), .second, .val (.long q2), .second, .val (.int u4_1), .val (.int u12_2), .val (.int u21_3), .val (.int u27_4), .val (.int u33_5), .val (.int u69_13), .val (.int v82_14), .unset, .unset, .unset, .unset, .unset, .unset, .unset, .unset, .unset, .unset, .unset] [(.int u12_2), (.int 1), (.ref b17), (.ref b17)])) rfl rfl (bd at_96)
  have V19 : Arv Z h19 b17 k17 .int 3 [(.int u4_1), (.int u12_2), (.int 0)] (.int 0) := Arv.set Ar19 q19 S19 M19 H19 G19 rfl W19 1 rfl (nl rfl)
  have N19 := Fr.snoc X19 N18 (Nat.le_trans (Nat.le_refl _) (Nat.le_of_eq g17.symm))
  refine OD.go st19 ?_
  refine OD.go (B := (T19.setTop (mkF m 101 #[.val (.int p0), .val (.int p1), .val (.int p2), .val (.long q0), .second, .val (.long q1), .second, .val (.long q2), .second, .val (.int u4_1), .val (.int u12_2), .val (.int u21_3), .val (.int u27_4), .val (.int u33_5), .val (.int u69_13), .val (.int v82_14), .unset, .unset, .unset, .unset, .unset, .unset, .unset, .unset, .unset, .unset, .unset] [(.int u21_3), (.int 2), (.ref b17), (.ref b17)]))) (fun t k => XS.dup X19.here hx rfl (bd at_97) rfl rfl (XS.iconst X19.here hx rfl (bd at_98) (XS.iload X19.here hx rfl (bd at_99) rfl k))) ?_
  obtain ⟨cl20, Ar20, q20, S20, M20, H20, G20⟩ := id V19
  obtain ⟨T20, h20, X20, e20, W20, st20⟩ := stI X19 hx hZ e19 Ar20 (j := (2 : Int32)) (inb_of S20 ⟨by decide, by decide⟩) (g := (mkF m 101 #[.val (.int p0), .val (.int p1), .val (.int p2), .val (.long q0), .second, .val (.long q1), .second, .val (.long q2), .second, .val (.int u4_1), .val (.int u12_2), .val (.int u21_3), .val (.int u27_4), .val (.int u33_5), .val (.int u69_13), .val (.int v82_14), .unset, .unset, .unset, .unset, .unset, .unset, .unset, .unset, .unset, .unset, .unset] [(.int u21_3), (.int 2), (.ref b17), (.ref b17)])) rfl rfl (bd at_101)
  have V20 : Arv Z h20 b17 k17 .int 3 [(.int u4_1), (.int u12_2), (.int u21_3)] (.int 0) := Arv.set Ar20 q20 S20 M20 H20 G20 rfl W20 2 rfl (nl rfl)
  have N20 := Fr.snoc X20 N19 (Nat.le_trans (Nat.le_refl _) (Nat.le_of_eq g17.symm))
  refine OD.go st20 ?_
  refine OD.go (B := (T20.setTop (mkF m 105 #[.val (.int p0), .val (.int p1), .val (.int p2), .val (.long q0), .second, .val (.long q1), .second, .val (.long q2), .second, .val (.int u4_1), .val (.int u12_2), .val (.int u21_3), .val (.int u27_4), .val (.int u33_5), .val (.int u69_13), .val (.int v82_14), .val (.ref b17), .unset, .unset, .unset, .unset, .unset, .unset, .unset, .unset, .unset, .unset] [(.int 3)]))) (fun t k => XS.astore X20.here hx rfl (bd at_102) rfl rfl (l' := #[.val (.int p0), .val (.int p1), .val (.int p2), .val (.long q0), .second, .val (.long q1), .second, .val (.long q2), .second, .val (.int u4_1), .val (.int u12_2), .val (.int u21_3), .val (.int u27_4), .val (.int u33_5), .val (.int u69_13), .val (.int v82_14), .val (.ref b17), .unset, .unset, .unset, .unset, .unset, .unset, .unset, .unset, .unset, .unset]) rfl (XS.iconst X20.here hx rfl (bd at_104) k)) ?_
  obtain ⟨T21, h21, k21, X21, e21, E21, A21, st21⟩ := newP X20 hx hZ (aty := .long) (Wd1 hw) e20 (g := (mkF m 105 #[.val (.int p0), .val (.int p1), .val (.int p2), .val (.long q0), .second, .val (.long q1), .second, .val (.long q2), .second, .val (.int u4_1), .val (.int u12_2), .val (.int u21_3), .val (.int u27_4), .val (.int u33_5), .val (.int u69_13), .val (.int v82_14), .val (.ref b17), .unset, .unset, .unset, .unset, .unset, .unset, .unset, .unset, .unset, .unset] [(.int 3)])) rfl (bd at_105) rfl (by decide) (cap := 3) (by decide) (by decide) (nl rfl) (nl rfl)
  obtain ⟨b21, g21⟩ : ∃ z, z = h20.size := ⟨_, rfl⟩
  rw [← g21] at A21 st21
  have V21 : Arv Z h21 b21 k21 .long (3 : Int32) [(.long (0 : Int64)), (.long (0 : Int64)), (.long (0 : Int64))] (.long (0 : Int64)) := (Arv.new A21 (by decide)).pad (pad_rep [] (.long (0 : Int64)) 3)
  refine OD.go st21 ?_
  refine OD.go (B := (T21.setTop (mkF m 110 #[.val (.int p0), .val (.int p1), .val (.int p2), .val (.long q0), .second, .val (.long q1), .second, .val (.long q2), .second, .val (.int u4_1), .val (.int u12_2), .val (.int u21_3), .val (.int u27_4), .val (.int u33_5), .val (.int u69_13), .val (.int v82_14), .val (.ref b17), .unset, .unset, .unset, .unset, .unset, .unset, .unset, .unset, .unset, .unset] [(.long q0), (.int 0), (.ref b21), (.ref b21)]))) (fun t k => XS.dup X21.here hx rfl (bd at_107) rfl rfl (XS.iconst X21.here hx rfl (bd at_108) (XS.lloadN X21.here hx rfl (bd at_109) rfl k))) ?_
  obtain ⟨cl22, Ar22, q22, S22, M22, H22, G22⟩ := id V21
  obtain ⟨T22, h22, X22, e22, W22, st22⟩ := stJ X21 hx hZ e21 Ar22 (j := (0 : Int32)) (inb_of S22 ⟨by decide, by decide⟩) (g := (mkF m 110 #[.val (.int p0), .val (.int p1), .val (.int p2), .val (.long q0), .second, .val (.long q1), .second, .val (.long q2), .second, .val (.int u4_1), .val (.int u12_2), .val (.int u21_3), .val (.int u27_4), .val (.int u33_5), .val (.int u69_13), .val (.int v82_14), .val (.ref b17), .unset, .unset, .unset, .unset, .unset, .unset, .unset, .unset, .unset, .unset] [(.long q0), (.int 0), (.ref b21), (.ref b21)])) rfl rfl (bd at_110)
  have V22 : Arv Z h22 b21 k21 .long (3 : Int32) [(.long q0), (.long (0 : Int64)), (.long (0 : Int64))] (.long (0 : Int64)) := Arv.set Ar22 q22 S22 M22 H22 G22 rfl W22 0 rfl (nl rfl)
  have N22 := Fr.snoc X22 N20 (Nat.le_trans (Nat.le_trans (Nat.le_trans (Nat.le_trans (Nat.le_trans (Nat.le_refl _) E17.1) (Keep.of_wr W18).1) (Keep.of_wr W19).1) (Keep.of_wr W20).1) (Nat.le_of_eq g21.symm))
  refine OD.go st22 ?_
  refine OD.go (B := (T22.setTop (mkF m 115 #[.val (.int p0), .val (.int p1), .val (.int p2), .val (.long q0), .second, .val (.long q1), .second, .val (.long q2), .second, .val (.int u4_1), .val (.int u12_2), .val (.int u21_3), .val (.int u27_4), .val (.int u33_5), .val (.int u69_13), .val (.int v82_14), .val (.ref b17), .unset, .unset, .unset, .unset, .unset, .unset, .unset, .unset, .unset, .unset] [(.long q1), (.int 1), (.ref b21), (.ref b21)]))) (fun t k => XS.dup X22.here hx rfl (bd at_111) rfl rfl (XS.iconst X22.here hx rfl (bd at_112) (XS.lload X22.here hx rfl (bd at_113) rfl k))) ?_
  obtain ⟨cl23, Ar23, q23, S23, M23, H23, G23⟩ := id V22
  obtain ⟨T23, h23, X23, e23, W23, st23⟩ := stJ X22 hx hZ e22 Ar23 (j := (1 : Int32)) (inb_of S23 ⟨by decide, by decide⟩) (g := (mkF m 115 #[.val (.int p0), .val (.int p1), .val (.int p2), .val (.long q0), .second, .val (.long q1), .second, .val (.long q2), .second, .val (.int u4_1), .val (.int u12_2), .val (.int u21_3), .val (.int u27_4), .val (.int u33_5), .val (.int u69_13), .val (.int v82_14), .val (.ref b17), .unset, .unset, .unset, .unset, .unset, .unset, .unset, .unset, .unset, .unset] [(.long q1), (.int 1), (.ref b21), (.ref b21)])) rfl rfl (bd at_115)
  have V23 : Arv Z h23 b21 k21 .long (3 : Int32) [(.long q0), (.long q1), (.long (0 : Int64))] (.long (0 : Int64)) := Arv.set Ar23 q23 S23 M23 H23 G23 rfl W23 1 rfl (nl rfl)
  have N23 := Fr.snoc X23 N22 (Nat.le_trans (Nat.le_trans (Nat.le_trans (Nat.le_trans (Nat.le_trans (Nat.le_refl _) E17.1) (Keep.of_wr W18).1) (Keep.of_wr W19).1) (Keep.of_wr W20).1) (Nat.le_of_eq g21.symm))
  refine OD.go st23 ?_
  refine OD.go (B := (T23.setTop (mkF m 120 #[.val (.int p0), .val (.int p1), .val (.int p2), .val (.long q0), .second, .val (.long q1), .second, .val (.long q2), .second, .val (.int u4_1), .val (.int u12_2), .val (.int u21_3), .val (.int u27_4), .val (.int u33_5), .val (.int u69_13), .val (.int v82_14), .val (.ref b17), .unset, .unset, .unset, .unset, .unset, .unset, .unset, .unset, .unset, .unset] [(.long q2), (.int 2), (.ref b21), (.ref b21)]))) (fun t k => XS.dup X23.here hx rfl (bd at_116) rfl rfl (XS.iconst X23.here hx rfl (bd at_117) (XS.lload X23.here hx rfl (bd at_118) rfl k))) ?_
  obtain ⟨cl24, Ar24, q24, S24, M24, H24, G24⟩ := id V23
  obtain ⟨T24, h24, X24, e24, W24, st24⟩ := stJ X23 hx hZ e23 Ar24 (j := (2 : Int32)) (inb_of S24 ⟨by decide, by decide⟩) (g := (mkF m 120 #[.val (.int p0), .val (.int p1), .val (.int p2), .val (.long q0), .second, .val (.long q1), .second, .val (.long q2), .second, .val (.int u4_1), .val (.int u12_2), .val (.int u21_3), .val (.int u27_4), .val (.int u33_5), .val (.int u69_13), .val (.int v82_14), .val (.ref b17), .unset, .unset, .unset, .unset, .unset, .unset, .unset, .unset, .unset, .unset] [(.long q2), (.int 2), (.ref b21), (.ref b21)])) rfl rfl (bd at_120)
  have V24 : Arv Z h24 b21 k21 .long (3 : Int32) [(.long q0), (.long q1), (.long q2)] (.long (0 : Int64)) := Arv.set Ar24 q24 S24 M24 H24 G24 rfl W24 2 rfl (nl rfl)
  have N24 := Fr.snoc X24 N23 (Nat.le_trans (Nat.le_trans (Nat.le_trans (Nat.le_trans (Nat.le_trans (Nat.le_refl _) E17.1) (Keep.of_wr W18).1) (Keep.of_wr W19).1) (Keep.of_wr W20).1) (Nat.le_of_eq g21.symm))
  refine OD.go st24 ?_
  refine OD.go (B := (T24.setTop (mkF m 127 #[.val (.int p0), .val (.int p1), .val (.int p2), .val (.long q0), .second, .val (.long q1), .second, .val (.long q2), .second, .val (.int u4_1), .val (.int u12_2), .val (.int u21_3), .val (.int u27_4), .val (.int u33_5), .val (.int u69_13), .val (.int v82_14), .val (.ref b17), .val (.ref b21), .unset, .unset, .unset, .unset, .unset, .unset, .unset, .unset, .unset] [(.int u4_1), (.int u27_4)]))) (fun t k => XS.astore X24.here hx rfl (bd at_121) rfl rfl (l' := #[.val (.int p0), .val (.int p1), .val (.int p2), .val (.long q0), .second, .val (.long q1), .second, .val (.long q2), .second, .val (.int u4_1), .val (.int u12_2), .val (.int u21_3), .val (.int u27_4), .val (.int u33_5), .val (.int u69_13), .val (.int v82_14), .val (.ref b17), .val (.ref b21), .unset, .unset, .unset, .unset, .unset, .unset, .unset, .unset, .unset]) rfl (XS.iload X24.here hx rfl (bd at_123) rfl (XS.iload X24.here hx rfl (bd at_125) rfl k))) ?_
  obtain ⟨v149_25, hv149_25⟩ : ∃ z : Int32, z = (if u27_4 = u4_1 then (1 : Int32) else (if u27_4 = u12_2 then (1 : Int32) else (if u27_4 = u21_3 then (1 : Int32) else (0 : Int32)))) := ⟨_, rfl⟩
  refine OD.cut (B := (T24.setTop (mkF m 149 #[.val (.int p0), .val (.int p1), .val (.int p2), .val (.long q0), .second, .val (.long q1), .second, .val (.long q2), .second, .val (.int u4_1), .val (.int u12_2), .val (.int u21_3), .val (.int u27_4), .val (.int u33_5), .val (.int u69_13), .val (.int v82_14), .val (.ref b17), .val (.ref b21), .unset, .unset, .unset, .unset, .unset, .unset, .unset, .unset, .unset] [(.int v149_25)]))) (fun J149_26 => ?_) ?_
  · skip
    by_cases c127_27 : u27_4 = u4_1
    · refine OD.go (B := (T24.setTop (mkF m 149 #[.val (.int p0), .val (.int p1), .val (.int p2), .val (.long q0), .second, .val (.long q1), .second, .val (.long q2), .second, .val (.int u4_1), .val (.int u12_2), .val (.int u21_3), .val (.int u27_4), .val (.int u33_5), .val (.int u69_13), .val (.int v82_14), .val (.ref b17), .val (.ref b21), .unset, .unset, .unset, .unset, .unset, .unset, .unset, .unset, .unset] [(.int 1)]))) (fun t k => XS.icmpYes X24.here hx rfl (pc0 := 127) (pc' := 144) rfl (bd at_127) rfl (teq c127_27).1 (by decide) (by decide) (XS.iconst X24.here hx rfl (bd at_144) (XS.goto X24.here hx rfl (pc0 := 145) (pc' := 149) rfl (bd at_145) (by decide) (by decide) k))) ?_
      rw [if_pos c127_27] at hv149_25
      rw [hv149_25] at J149_26
      exact J149_26
    · refine OD.go (B := (T24.setTop (mkF m 134 #[.val (.int p0), .val (.int p1), .val (.int p2), .val (.long q0), .second, .val (.long q1), .second, .val (.long q2), .second, .val (.int u4_1), .val (.int u12_2), .val (.int u21_3), .val (.int u27_4), .val (.int u33_5), .val (.int u69_13), .val (.int v82_14), .val (.ref b17), .val (.ref b21), .unset, .unset, .unset, .unset, .unset, .unset, .unset, .unset, .unset] [(.int u12_2), (.int u27_4)]))) (fun t k => XS.icmpNo X24.here hx rfl (bd at_127) rfl (feq c127_27).1 (XS.iload X24.here hx rfl (bd at_130) rfl (XS.iload X24.here hx rfl (bd at_132) rfl k))) ?_
      by_cases c134_28 : u27_4 = u12_2
      · refine OD.go (B := (T24.setTop (mkF m 149 #[.val (.int p0), .val (.int p1), .val (.int p2), .val (.long q0), .second, .val (.long q1), .second, .val (.long q2), .second, .val (.int u4_1), .val (.int u12_2), .val (.int u21_3), .val (.int u27_4), .val (.int u33_5), .val (.int u69_13), .val (.int v82_14), .val (.ref b17), .val (.ref b21), .unset, .unset, .unset, .unset, .unset, .unset, .unset, .unset, .unset] [(.int 1)]))) (fun t k => XS.icmpYes X24.here hx rfl (pc0 := 134) (pc' := 144) rfl (bd at_134) rfl (teq c134_28).1 (by decide) (by decide) (XS.iconst X24.here hx rfl (bd at_144) (XS.goto X24.here hx rfl (pc0 := 145) (pc' := 149) rfl (bd at_145) (by decide) (by decide) k))) ?_
        rw [if_neg c127_27, if_pos c134_28] at hv149_25
        rw [hv149_25] at J149_26
        exact J149_26
      · refine OD.go (B := (T24.setTop (mkF m 141 #[.val (.int p0), .val (.int p1), .val (.int p2), .val (.long q0), .second, .val (.long q1), .second, .val (.long q2), .second, .val (.int u4_1), .val (.int u12_2), .val (.int u21_3), .val (.int u27_4), .val (.int u33_5), .val (.int u69_13), .val (.int v82_14), .val (.ref b17), .val (.ref b21), .unset, .unset, .unset, .unset, .unset, .unset, .unset, .unset, .unset] [(.int u21_3), (.int u27_4)]))) (fun t k => XS.icmpNo X24.here hx rfl (bd at_134) rfl (feq c134_28).1 (XS.iload X24.here hx rfl (bd at_137) rfl (XS.iload X24.here hx rfl (bd at_139) rfl k))) ?_
        by_cases c141_29 : u27_4 = u21_3
        · refine OD.go (B := (T24.setTop (mkF m 149 #[.val (.int p0), .val (.int p1), .val (.int p2), .val (.long q0), .second, .val (.long q1), .second, .val (.long q2), .second, .val (.int u4_1), .val (.int u12_2), .val (.int u21_3), .val (.int u27_4), .val (.int u33_5), .val (.int u69_13), .val (.int v82_14), .val (.ref b17), .val (.ref b21), .unset, .unset, .unset, .unset, .unset, .unset, .unset, .unset, .unset] [(.int 1)]))) (fun t k => XS.icmpNo X24.here hx rfl (bd at_141) rfl (teq c141_29).2 (XS.iconst X24.here hx rfl (bd at_144) (XS.goto X24.here hx rfl (pc0 := 145) (pc' := 149) rfl (bd at_145) (by decide) (by decide) k))) ?_
          rw [if_neg c127_27, if_neg c134_28, if_pos c141_29] at hv149_25
          rw [hv149_25] at J149_26
          exact J149_26
        · refine OD.go (B := (T24.setTop (mkF m 149 #[.val (.int p0), .val (.int p1), .val (.int p2), .val (.long q0), .second, .val (.long q1), .second, .val (.long q2), .second, .val (.int u4_1), .val (.int u12_2), .val (.int u21_3), .val (.int u27_4), .val (.int u33_5), .val (.int u69_13), .val (.int v82_14), .val (.ref b17), .val (.ref b21), .unset, .unset, .unset, .unset, .unset, .unset, .unset, .unset, .unset] [(.int 0)]))) (fun t k => XS.icmpYes X24.here hx rfl (pc0 := 141) (pc' := 148) rfl (bd at_141) rfl (feq c141_29).2 (by decide) (by decide) (XS.iconst X24.here hx rfl (bd at_148) k)) ?_
          rw [if_neg c127_27, if_neg c134_28, if_neg c141_29] at hv149_25
          rw [hv149_25] at J149_26
          exact J149_26
  refine OD.go (B := (T24.setTop (mkF m 155 #[.val (.int p0), .val (.int p1), .val (.int p2), .val (.long q0), .second, .val (.long q1), .second, .val (.long q2), .second, .val (.int u4_1), .val (.int u12_2), .val (.int u21_3), .val (.int u27_4), .val (.int u33_5), .val (.int u69_13), .val (.int v82_14), .val (.ref b17), .val (.ref b21), .val (.int v149_25), .unset, .unset, .unset, .unset, .unset, .unset, .unset, .unset] [(.int u4_1), (.int u33_5)]))) (fun t k => XS.istore X24.here hx rfl (bd at_149) rfl (l' := #[.val (.int p0), .val (.int p1), .val (.int p2), .val (.long q0), .second, .val (.long q1), .second, .val (.long q2), .second, .val (.int u4_1), .val (.int u12_2), .val (.int u21_3), .val (.int u27_4), .val (.int u33_5), .val (.int u69_13), .val (.int v82_14), .val (.ref b17), .val (.ref b21), .val (.int v149_25), .unset, .unset, .unset, .unset, .unset, .unset, .unset, .unset]) rfl (XS.iload X24.here hx rfl (bd at_151) rfl (XS.iload X24.here hx rfl (bd at_153) rfl k))) ?_
  obtain ⟨v177_30, hv177_30⟩ : ∃ z : Int32, z = (if u33_5 = u4_1 then (1 : Int32) else (if u33_5 = u12_2 then (1 : Int32) else (if u33_5 = u21_3 then (1 : Int32) else (0 : Int32)))) := ⟨_, rfl⟩
  refine OD.cut (B := (T24.setTop (mkF m 177 #[.val (.int p0), .val (.int p1), .val (.int p2), .val (.long q0), .second, .val (.long q1), .second, .val (.long q2), .second, .val (.int u4_1), .val (.int u12_2), .val (.int u21_3), .val (.int u27_4), .val (.int u33_5), .val (.int u69_13), .val (.int v82_14), .val (.ref b17), .val (.ref b21), .val (.int v149_25), .unset, .unset, .unset, .unset, .unset, .unset, .unset, .unset] [(.int v177_30)]))) (fun J177_31 => ?_) ?_
  · skip
    by_cases c155_32 : u33_5 = u4_1
    · refine OD.go (B := (T24.setTop (mkF m 177 #[.val (.int p0), .val (.int p1), .val (.int p2), .val (.long q0), .second, .val (.long q1), .second, .val (.long q2), .second, .val (.int u4_1), .val (.int u12_2), .val (.int u21_3), .val (.int u27_4), .val (.int u33_5), .val (.int u69_13), .val (.int v82_14), .val (.ref b17), .val (.ref b21), .val (.int v149_25), .unset, .unset, .unset, .unset, .unset, .unset, .unset, .unset] [(.int 1)]))) (fun t k => XS.icmpYes X24.here hx rfl (pc0 := 155) (pc' := 172) rfl (bd at_155) rfl (teq c155_32).1 (by decide) (by decide) (XS.iconst X24.here hx rfl (bd at_172) (XS.goto X24.here hx rfl (pc0 := 173) (pc' := 177) rfl (bd at_173) (by decide) (by decide) k))) ?_
      rw [if_pos c155_32] at hv177_30
      rw [hv177_30] at J177_31
      exact J177_31
    · refine OD.go (B := (T24.setTop (mkF m 162 #[.val (.int p0), .val (.int p1), .val (.int p2), .val (.long q0), .second, .val (.long q1), .second, .val (.long q2), .second, .val (.int u4_1), .val (.int u12_2), .val (.int u21_3), .val (.int u27_4), .val (.int u33_5), .val (.int u69_13), .val (.int v82_14), .val (.ref b17), .val (.ref b21), .val (.int v149_25), .unset, .unset, .unset, .unset, .unset, .unset, .unset, .unset] [(.int u12_2), (.int u33_5)]))) (fun t k => XS.icmpNo X24.here hx rfl (bd at_155) rfl (feq c155_32).1 (XS.iload X24.here hx rfl (bd at_158) rfl (XS.iload X24.here hx rfl (bd at_160) rfl k))) ?_
      by_cases c162_33 : u33_5 = u12_2
      · refine OD.go (B := (T24.setTop (mkF m 177 #[.val (.int p0), .val (.int p1), .val (.int p2), .val (.long q0), .second, .val (.long q1), .second, .val (.long q2), .second, .val (.int u4_1), .val (.int u12_2), .val (.int u21_3), .val (.int u27_4), .val (.int u33_5), .val (.int u69_13), .val (.int v82_14), .val (.ref b17), .val (.ref b21), .val (.int v149_25), .unset, .unset, .unset, .unset, .unset, .unset, .unset, .unset] [(.int 1)]))) (fun t k => XS.icmpYes X24.here hx rfl (pc0 := 162) (pc' := 172) rfl (bd at_162) rfl (teq c162_33).1 (by decide) (by decide) (XS.iconst X24.here hx rfl (bd at_172) (XS.goto X24.here hx rfl (pc0 := 173) (pc' := 177) rfl (bd at_173) (by decide) (by decide) k))) ?_
        rw [if_neg c155_32, if_pos c162_33] at hv177_30
        rw [hv177_30] at J177_31
        exact J177_31
      · refine OD.go (B := (T24.setTop (mkF m 169 #[.val (.int p0), .val (.int p1), .val (.int p2), .val (.long q0), .second, .val (.long q1), .second, .val (.long q2), .second, .val (.int u4_1), .val (.int u12_2), .val (.int u21_3), .val (.int u27_4), .val (.int u33_5), .val (.int u69_13), .val (.int v82_14), .val (.ref b17), .val (.ref b21), .val (.int v149_25), .unset, .unset, .unset, .unset, .unset, .unset, .unset, .unset] [(.int u21_3), (.int u33_5)]))) (fun t k => XS.icmpNo X24.here hx rfl (bd at_162) rfl (feq c162_33).1 (XS.iload X24.here hx rfl (bd at_165) rfl (XS.iload X24.here hx rfl (bd at_167) rfl k))) ?_
        by_cases c169_34 : u33_5 = u21_3
        · refine OD.go (B := (T24.setTop (mkF m 177 #[.val (.int p0), .val (.int p1), .val (.int p2), .val (.long q0), .second, .val (.long q1), .second, .val (.long q2), .second, .val (.int u4_1), .val (.int u12_2), .val (.int u21_3), .val (.int u27_4), .val (.int u33_5), .val (.int u69_13), .val (.int v82_14), .val (.ref b17), .val (.ref b21), .val (.int v149_25), .unset, .unset, .unset, .unset, .unset, .unset, .unset, .unset] [(.int 1)]))) (fun t k => XS.icmpNo X24.here hx rfl (bd at_169) rfl (teq c169_34).2 (XS.iconst X24.here hx rfl (bd at_172) (XS.goto X24.here hx rfl (pc0 := 173) (pc' := 177) rfl (bd at_173) (by decide) (by decide) k))) ?_
          rw [if_neg c155_32, if_neg c162_33, if_pos c169_34] at hv177_30
          rw [hv177_30] at J177_31
          exact J177_31
        · refine OD.go (B := (T24.setTop (mkF m 177 #[.val (.int p0), .val (.int p1), .val (.int p2), .val (.long q0), .second, .val (.long q1), .second, .val (.long q2), .second, .val (.int u4_1), .val (.int u12_2), .val (.int u21_3), .val (.int u27_4), .val (.int u33_5), .val (.int u69_13), .val (.int v82_14), .val (.ref b17), .val (.ref b21), .val (.int v149_25), .unset, .unset, .unset, .unset, .unset, .unset, .unset, .unset] [(.int 0)]))) (fun t k => XS.icmpYes X24.here hx rfl (pc0 := 169) (pc' := 176) rfl (bd at_169) rfl (feq c169_34).2 (by decide) (by decide) (XS.iconst X24.here hx rfl (bd at_176) k)) ?_
          rw [if_neg c155_32, if_neg c162_33, if_neg c169_34] at hv177_30
          rw [hv177_30] at J177_31
          exact J177_31
  refine OD.go (B := (T24.setTop (mkF m 183 #[.val (.int p0), .val (.int p1), .val (.int p2), .val (.long q0), .second, .val (.long q1), .second, .val (.long q2), .second, .val (.int u4_1), .val (.int u12_2), .val (.int u21_3), .val (.int u27_4), .val (.int u33_5), .val (.int u69_13), .val (.int v82_14), .val (.ref b17), .val (.ref b21), .val (.int v149_25), .val (.int v177_30), .unset, .unset, .unset, .unset, .unset, .unset, .unset] [(.int v149_25), (.int u69_13)]))) (fun t k => XS.istore X24.here hx rfl (bd at_177) rfl (l' := #[.val (.int p0), .val (.int p1), .val (.int p2), .val (.long q0), .second, .val (.long q1), .second, .val (.long q2), .second, .val (.int u4_1), .val (.int u12_2), .val (.int u21_3), .val (.int u27_4), .val (.int u33_5), .val (.int u69_13), .val (.int v82_14), .val (.ref b17), .val (.ref b21), .val (.int v149_25), .val (.int v177_30), .unset, .unset, .unset, .unset, .unset, .unset, .unset]) rfl (XS.iload X24.here hx rfl (bd at_179) rfl (XS.iload X24.here hx rfl (bd at_181) rfl k))) ?_
  obtain ⟨v191_35, hv191_35⟩ : ∃ z : Int32, z = (if v149_25 = (0 : Int32) then (0 : Int32) else (1 : Int32)) := ⟨_, rfl⟩
  refine OD.cut (B := (T24.setTop (mkF m 191 #[.val (.int p0), .val (.int p1), .val (.int p2), .val (.long q0), .second, .val (.long q1), .second, .val (.long q2), .second, .val (.int u4_1), .val (.int u12_2), .val (.int u21_3), .val (.int u27_4), .val (.int u33_5), .val (.int u69_13), .val (.int v82_14), .val (.ref b17), .val (.ref b21), .val (.int v149_25), .val (.int v177_30), .unset, .unset, .unset, .unset, .unset, .unset, .unset] [(.int v191_35), (.int u69_13)]))) (fun J191_36 => ?_) ?_
  · skip
    by_cases c183_37 : v149_25 = (0 : Int32)
    · refine OD.go (B := (T24.setTop (mkF m 191 #[.val (.int p0), .val (.int p1), .val (.int p2), .val (.long q0), .second, .val (.long q1), .second, .val (.long q2), .second, .val (.int u4_1), .val (.int u12_2), .val (.int u21_3), .val (.int u27_4), .val (.int u33_5), .val (.int u69_13), .val (.int v82_14), .val (.ref b17), .val (.ref b21), .val (.int v149_25), .val (.int v177_30), .unset, .unset, .unset, .unset, .unset, .unset, .unset] [(.int 0), (.int u69_13)]))) (fun t k => XS.ifYes X24.here hx rfl (pc0 := 183) (pc' := 190) rfl (bd at_183) rfl (by rw [if0]; exact (teq c183_37).1) (by decide) (by decide) (XS.iconst X24.here hx rfl (bd at_190) k)) ?_
      rw [if_pos c183_37] at hv191_35
      rw [hv191_35] at J191_36
      exact J191_36
    · refine OD.go (B := (T24.setTop (mkF m 191 #[.val (.int p0), .val (.int p1), .val (.int p2), .val (.long q0), .second, .val (.long q1), .second, .val (.long q2), .second, .val (.int u4_1), .val (.int u12_2), .val (.int u21_3), .val (.int u27_4), .val (.int u33_5), .val (.int u69_13), .val (.int v82_14), .val (.ref b17), .val (.ref b21), .val (.int v149_25), .val (.int v177_30), .unset, .unset, .unset, .unset, .unset, .unset, .unset] [(.int 1), (.int u69_13)]))) (fun t k => XS.ifNo X24.here hx rfl (bd at_183) rfl (by rw [if0]; exact (feq c183_37).1) (XS.iconst X24.here hx rfl (bd at_186) (XS.goto X24.here hx rfl (pc0 := 187) (pc' := 191) rfl (bd at_187) (by decide) (by decide) k))) ?_
      rw [if_neg c183_37] at hv191_35
      rw [hv191_35] at J191_36
      exact J191_36
  refine OD.go (B := (T24.setTop (mkF m 194 #[.val (.int p0), .val (.int p1), .val (.int p2), .val (.long q0), .second, .val (.long q1), .second, .val (.long q2), .second, .val (.int u4_1), .val (.int u12_2), .val (.int u21_3), .val (.int u27_4), .val (.int u33_5), .val (.int u69_13), .val (.int v82_14), .val (.ref b17), .val (.ref b21), .val (.int v149_25), .val (.int v177_30), .val (.int (u69_13 - v191_35)), .unset, .unset, .unset, .unset, .unset, .unset] []))) (fun t k => XS.isub X24.here hx rfl (bd at_191) rfl (XS.istore X24.here hx rfl (bd at_192) rfl (l' := #[.val (.int p0), .val (.int p1), .val (.int p2), .val (.long q0), .second, .val (.long q1), .second, .val (.long q2), .second, .val (.int u4_1), .val (.int u12_2), .val (.int u21_3), .val (.int u27_4), .val (.int u33_5), .val (.int u69_13), .val (.int v82_14), .val (.ref b17), .val (.ref b21), .val (.int v149_25), .val (.int v177_30), .val (.int (u69_13 - v191_35)), .unset, .unset, .unset, .unset, .unset, .unset]) rfl k)) ?_
  generalize hu192_38 : (u69_13 - v191_35) = u192_38
  refine OD.go (B := (T24.setTop (mkF m 198 #[.val (.int p0), .val (.int p1), .val (.int p2), .val (.long q0), .second, .val (.long q1), .second, .val (.long q2), .second, .val (.int u4_1), .val (.int u12_2), .val (.int u21_3), .val (.int u27_4), .val (.int u33_5), .val (.int u69_13), .val (.int v82_14), .val (.ref b17), .val (.ref b21), .val (.int v149_25), .val (.int v177_30), .val (.int u192_38), .unset, .unset, .unset, .unset, .unset, .unset] [(.int v177_30), (.int u192_38)]))) (fun t k => XS.iload X24.here hx rfl (bd at_194) rfl (XS.iload X24.here hx rfl (bd at_196) rfl k)) ?_
  obtain ⟨v213_39, hv213_39⟩ : ∃ z : Int32, z = (if v177_30 = (0 : Int32) then (0 : Int32) else (if u33_5 = u27_4 then (0 : Int32) else (1 : Int32))) := ⟨_, rfl⟩
  refine OD.cut (B := (T24.setTop (mkF m 213 #[.val (.int p0), .val (.int p1), .val (.int p2), .val (.long q0), .second, .val (.long q1), .second, .val (.long q2), .second, .val (.int u4_1), .val (.int u12_2), .val (.int u21_3), .val (.int u27_4), .val (.int u33_5), .val (.int u69_13), .val (.int v82_14), .val (.ref b17), .val (.ref b21), .val (.int v149_25), .val (.int v177_30), .val (.int u192_38), .unset, .unset, .unset, .unset, .unset, .unset] [(.int v213_39), (.int u192_38)]))) (fun J213_40 => ?_) ?_
  · skip
    by_cases c198_41 : v177_30 = (0 : Int32)
    · refine OD.go (B := (T24.setTop (mkF m 213 #[.val (.int p0), .val (.int p1), .val (.int p2), .val (.long q0), .second, .val (.long q1), .second, .val (.long q2), .second, .val (.int u4_1), .val (.int u12_2), .val (.int u21_3), .val (.int u27_4), .val (.int u33_5), .val (.int u69_13), .val (.int v82_14), .val (.ref b17), .val (.ref b21), .val (.int v149_25), .val (.int v177_30), .val (.int u192_38), .unset, .unset, .unset, .unset, .unset, .unset] [(.int 0), (.int u192_38)]))) (fun t k => XS.ifYes X24.here hx rfl (pc0 := 198) (pc' := 212) rfl (bd at_198) rfl (by rw [if0]; exact (teq c198_41).1) (by decide) (by decide) (XS.iconst X24.here hx rfl (bd at_212) k)) ?_
      rw [if_pos c198_41] at hv213_39
      rw [hv213_39] at J213_40
      exact J213_40
    · refine OD.go (B := (T24.setTop (mkF m 205 #[.val (.int p0), .val (.int p1), .val (.int p2), .val (.long q0), .second, .val (.long q1), .second, .val (.long q2), .second, .val (.int u4_1), .val (.int u12_2), .val (.int u21_3), .val (.int u27_4), .val (.int u33_5), .val (.int u69_13), .val (.int v82_14), .val (.ref b17), .val (.ref b21), .val (.int v149_25), .val (.int v177_30), .val (.int u192_38), .unset, .unset, .unset, .unset, .unset, .unset] [(.int u27_4), (.int u33_5), (.int u192_38)]))) (fun t k => XS.ifNo X24.here hx rfl (bd at_198) rfl (by rw [if0]; exact (feq c198_41).1) (XS.iload X24.here hx rfl (bd at_201) rfl (XS.iload X24.here hx rfl (bd at_203) rfl k))) ?_
      by_cases c205_42 : u33_5 = u27_4
      · refine OD.go (B := (T24.setTop (mkF m 213 #[.val (.int p0), .val (.int p1), .val (.int p2), .val (.long q0), .second, .val (.long q1), .second, .val (.long q2), .second, .val (.int u4_1), .val (.int u12_2), .val (.int u21_3), .val (.int u27_4), .val (.int u33_5), .val (.int u69_13), .val (.int v82_14), .val (.ref b17), .val (.ref b21), .val (.int v149_25), .val (.int v177_30), .val (.int u192_38), .unset, .unset, .unset, .unset, .unset, .unset] [(.int 0), (.int u192_38)]))) (fun t k => XS.icmpYes X24.here hx rfl (pc0 := 205) (pc' := 212) rfl (bd at_205) rfl (teq c205_42).1 (by decide) (by decide) (XS.iconst X24.here hx rfl (bd at_212) k)) ?_
        rw [if_neg c198_41, if_pos c205_42] at hv213_39
        rw [hv213_39] at J213_40
        exact J213_40
      · refine OD.go (B := (T24.setTop (mkF m 213 #[.val (.int p0), .val (.int p1), .val (.int p2), .val (.long q0), .second, .val (.long q1), .second, .val (.long q2), .second, .val (.int u4_1), .val (.int u12_2), .val (.int u21_3), .val (.int u27_4), .val (.int u33_5), .val (.int u69_13), .val (.int v82_14), .val (.ref b17), .val (.ref b21), .val (.int v149_25), .val (.int v177_30), .val (.int u192_38), .unset, .unset, .unset, .unset, .unset, .unset] [(.int 1), (.int u192_38)]))) (fun t k => XS.icmpNo X24.here hx rfl (bd at_205) rfl (feq c205_42).1 (XS.iconst X24.here hx rfl (bd at_208) (XS.goto X24.here hx rfl (pc0 := 209) (pc' := 213) rfl (bd at_209) (by decide) (by decide) k))) ?_
        rw [if_neg c198_41, if_neg c205_42] at hv213_39
        rw [hv213_39] at J213_40
        exact J213_40
  refine OD.go (B := (T24.setTop (mkF m 216 #[.val (.int p0), .val (.int p1), .val (.int p2), .val (.long q0), .second, .val (.long q1), .second, .val (.long q2), .second, .val (.int u4_1), .val (.int u12_2), .val (.int u21_3), .val (.int u27_4), .val (.int u33_5), .val (.int u69_13), .val (.int v82_14), .val (.ref b17), .val (.ref b21), .val (.int v149_25), .val (.int v177_30), .val (.int u192_38), .val (.int (u192_38 - v213_39)), .unset, .unset, .unset, .unset, .unset] []))) (fun t k => XS.isub X24.here hx rfl (bd at_213) rfl (XS.istore X24.here hx rfl (bd at_214) rfl (l' := #[.val (.int p0), .val (.int p1), .val (.int p2), .val (.long q0), .second, .val (.long q1), .second, .val (.long q2), .second, .val (.int u4_1), .val (.int u12_2), .val (.int u21_3), .val (.int u27_4), .val (.int u33_5), .val (.int u69_13), .val (.int v82_14), .val (.ref b17), .val (.ref b21), .val (.int v149_25), .val (.int v177_30), .val (.int u192_38), .val (.int (u192_38 - v213_39)), .unset, .unset, .unset, .unset, .unset]) rfl k)) ?_
  generalize hu214_43 : (u192_38 - v213_39) = u214_43
  obtain ⟨T44, h44, X44, e44, E44, A44, D44, -, st44⟩ := newO X24 hx hZ hown (Wd2 hw) (Wd3 hw) (Wd4 hw) e24 (g := (mkF m 216 #[.val (.int p0), .val (.int p1), .val (.int p2), .val (.long q0), .second, .val (.long q1), .second, .val (.long q2), .second, .val (.int u4_1), .val (.int u12_2), .val (.int u21_3), .val (.int u27_4), .val (.int u33_5), .val (.int u69_13), .val (.int v82_14), .val (.ref b17), .val (.ref b21), .val (.int v149_25), .val (.int v177_30), .val (.int u192_38), .val (.int u214_43), .unset, .unset, .unset, .unset, .unset] [])) rfl (bd at_216) (nl rfl) (nl rfl)
  obtain ⟨b44, g44⟩ : ∃ z, z = h24.size := ⟨_, rfl⟩
  rw [← g44] at A44 D44 st44
  have Fn45 : Fld Z h44 b44 zZ0 "current" "Ljava/util/BitSet;" .null := D44 (Or.inr (Wd36 hw)) (ty := (.object "java/util/BitSet")) (by decide)
  have Fn46 : Fld Z h44 b44 zZ0 "dimensions" "I" (.int 0) := D44 (Or.inr (Wd38 hw)) (ty := .int) (by decide)
  have Fn47 : Fld Z h44 b44 zZ0 "docs" "[I" .null := D44 (Or.inr (Wd40 hw)) (ty := (.array .int)) (by decide)
  have Fn48 : Fld Z h44 b44 zZ0 "coordinates" "[J" .null := D44 (Or.inr (Wd42 hw)) (ty := (.array .long)) (by decide)
  have Fn49 : Fld Z h44 b44 zZ0 "repeatsDocs" "Z" (.int 0) := D44 (Or.inr (Wd44 hw)) (ty := .boolean) (by decide)
  have Fn50 : Fld Z h44 b44 zZ0 "leafLevel" "I" (.int 0) := D44 (Or.inr (Wd47 hw)) (ty := .int) (by decide)
  have Fn51 : Fld Z h44 b44 zZ0 "bounds" "[J" .null := D44 (Or.inr (Wd53 hw)) (ty := (.array .long)) (by decide)
  have Fn52 : Fld Z h44 b44 zZ0 "leastDocs" "[I" .null := D44 (Or.inr (Wd55 hw)) (ty := (.array .int)) (by decide)
  have Fn53 : Fld Z h44 b44 zZ0 "documentCount" "I" (.int 0) := D44 (Or.inr (Wd90 hw)) (ty := .int) (by decide)
  have Fn54 : Fld Z h44 b44 zZ0 "currentCount" "I" (.int 0) := D44 (Or.inl (Wd92 hw)) (ty := .int) (by decide)
  refine OD.go st44 ?_
  refine OD.go (B := (T44.setTop (mkF m 227 #[.val (.int p0), .val (.int p1), .val (.int p2), .val (.long q0), .second, .val (.long q1), .second, .val (.long q2), .second, .val (.int u4_1), .val (.int u12_2), .val (.int u21_3), .val (.int u27_4), .val (.int u33_5), .val (.int u69_13), .val (.int v82_14), .val (.ref b17), .val (.ref b21), .val (.int v149_25), .val (.int v177_30), .val (.int u192_38), .val (.int u214_43), .unset, .unset, .unset, .unset, .unset] [(.int v82_14), (.ref b21), (.ref b17), (.int 1), (.ref b44), (.ref b44)]))) (fun t k => XS.dup X44.here hx rfl (bd at_219) rfl rfl (XS.iconst X44.here hx rfl (bd at_220) (XS.aload X44.here hx rfl (bd at_221) rfl rfl (XS.aload X44.here hx rfl (bd at_223) rfl rfl (XS.iload X44.here hx rfl (bd at_225) rfl k))))) ?_
  have f55 := (((((V20.ext E21).other W22 (Nat.ne_of_lt (Nat.lt_of_lt_of_le (Nat.lt_of_lt_of_le (Nat.lt_of_lt_of_le (Nat.lt_of_lt_of_le V17.lt (Keep.of_wr W18).1) (Keep.of_wr W19).1) (Keep.of_wr W20).1) (Nat.le_of_eq g21.symm)))).other W23 (Nat.ne_of_lt (Nat.lt_of_lt_of_le (Nat.lt_of_lt_of_le (Nat.lt_of_lt_of_le (Nat.lt_of_lt_of_le V17.lt (Keep.of_wr W18).1) (Keep.of_wr W19).1) (Keep.of_wr W20).1) (Nat.le_of_eq g21.symm)))).other W24 (Nat.ne_of_lt (Nat.lt_of_lt_of_le (Nat.lt_of_lt_of_le (Nat.lt_of_lt_of_le (Nat.lt_of_lt_of_le V17.lt (Keep.of_wr W18).1) (Keep.of_wr W19).1) (Keep.of_wr W20).1) (Nat.le_of_eq g21.symm)))).ext E44)
  have f56 := (V24.ext E44)
  obtain ⟨_, _, ⟨T57, L57, k57, n57⟩, -, X57, ⟨Lc57, hQ57, l57, y57, z57⟩, st57⟩ := X44.specialBack hx (y := (⟨zZ0, "<init>", "(I[I[JZ)V"⟩ : MethodName)) rfl hown (mvT hZ (Wd5 hw)) (mvT hZ (Wd6 hw)) (mvT hZ (Wd7 hw)) (by decide) (backOf (W := 1) (rmT4 l Z a0 hw [] b44 b17 b21 v82_14 h44 h0.size (Nat.le_trans (Nat.le_trans (Nat.le_trans (Nat.le_trans (Nat.le_trans (Nat.le_trans (Nat.le_trans (Nat.le_trans (Nat.le_trans (Nat.le_refl _) E17.1) (Keep.of_wr W18).1) (Keep.of_wr W19).1) (Keep.of_wr W20).1) E21.1) (Keep.of_wr W22).1) (Keep.of_wr W23).1) (Keep.of_wr W24).1) E44.1) (((((((((X00.ext E17).wr W18 (Nat.le_trans (Nat.le_refl _) (Nat.le_of_eq g17.symm))).wr W19 (Nat.le_trans (Nat.le_refl _) (Nat.le_of_eq g17.symm))).wr W20 (Nat.le_trans (Nat.le_refl _) (Nat.le_of_eq g17.symm))).ext E21).wr W22 (Nat.le_trans (Nat.le_trans (Nat.le_trans (Nat.le_trans (Nat.le_trans (Nat.le_refl _) E17.1) (Keep.of_wr W18).1) (Keep.of_wr W19).1) (Keep.of_wr W20).1) (Nat.le_of_eq g21.symm))).wr W23 (Nat.le_trans (Nat.le_trans (Nat.le_trans (Nat.le_trans (Nat.le_trans (Nat.le_refl _) E17.1) (Keep.of_wr W18).1) (Keep.of_wr W19).1) (Keep.of_wr W20).1) (Nat.le_of_eq g21.symm))).wr W24 (Nat.le_trans (Nat.le_trans (Nat.le_trans (Nat.le_trans (Nat.le_trans (Nat.le_refl _) E17.1) (Keep.of_wr W18).1) (Keep.of_wr W19).1) (Keep.of_wr W20).1) (Nat.le_of_eq g21.symm))).ext E44) Sad u4_1 u12_2 u21_3 q0 q1 q2 (hu4_1 ▸ own_smB _) (hu12_2 ▸ own_smB _) (hu21_3 ▸ own_smB _) A44 (Nat.le_trans (Nat.le_trans (Nat.le_trans (Nat.le_trans (Nat.le_trans (Nat.le_trans (Nat.le_trans (Nat.le_trans (Nat.le_trans (Nat.le_refl _) E17.1) (Keep.of_wr W18).1) (Keep.of_wr W19).1) (Keep.of_wr W20).1) E21.1) (Keep.of_wr W22).1) (Keep.of_wr W23).1) (Keep.of_wr W24).1) (Nat.le_of_eq g44.symm)) Fn45 Fn46 Fn47 Fn48 Fn49 Fn50 Fn51 Fn52 Fn53 Fn54 k17 k21 f55 f56 (Nat.le_trans (Nat.le_refl _) (Nat.le_of_eq g17.symm)) (Nat.le_trans (Nat.le_trans (Nat.le_trans (Nat.le_trans (Nat.le_trans (Nat.le_refl _) E17.1) (Keep.of_wr W18).1) (Keep.of_wr W19).1) (Keep.of_wr W20).1) (Nat.le_of_eq g21.symm)) (Ne.symm (Nat.ne_of_lt (Nat.lt_of_lt_of_le (Nat.lt_of_lt_of_le (Nat.lt_of_lt_of_le (Nat.lt_of_lt_of_le (Nat.lt_of_lt_of_le (Nat.lt_of_lt_of_le (Nat.lt_of_lt_of_le (Nat.lt_of_lt_of_le V17.lt (Keep.of_wr W18).1) (Keep.of_wr W19).1) (Keep.of_wr W20).1) E21.1) (Keep.of_wr W22).1) (Keep.of_wr W23).1) (Keep.of_wr W24).1) (Nat.le_of_eq g44.symm)))) (Ne.symm (Nat.ne_of_lt (Nat.lt_of_lt_of_le (Nat.lt_of_lt_of_le (Nat.lt_of_lt_of_le (Nat.lt_of_lt_of_le V21.lt (Keep.of_wr W22).1) (Keep.of_wr W23).1) (Keep.of_wr W24).1) (Nat.le_of_eq g44.symm)))) (Ne.symm (Nat.ne_of_lt (Nat.lt_of_lt_of_le (Nat.lt_of_lt_of_le (Nat.lt_of_lt_of_le (Nat.lt_of_lt_of_le V17.lt (Keep.of_wr W18).1) (Keep.of_wr W19).1) (Keep.of_wr W20).1) (Nat.le_of_eq g21.symm))))) hZ (Wd7 hw) (Wd4 hw) (by decide) (by decide)) (g := (mkF m 227 #[.val (.int p0), .val (.int p1), .val (.int p2), .val (.long q0), .second, .val (.long q1), .second, .val (.long q2), .second, .val (.int u4_1), .val (.int u12_2), .val (.int u21_3), .val (.int u27_4), .val (.int u33_5), .val (.int u69_13), .val (.int v82_14), .val (.ref b17), .val (.ref b21), .val (.int v149_25), .val (.int v177_30), .val (.int u192_38), .val (.int u214_43), .unset, .unset, .unset, .unset, .unset] [(.int v82_14), (.ref b21), (.ref b17), (.int 1), (.ref b44), (.ref b44)])) rfl (by rw [hml]; rfl) (Steps.refl _) (a := b44) (argsL := [(.int 1), (.ref b17), (.ref b21), (.int v82_14)]) (rest := [(.ref b44)]) (lenOf pd11 rfl) rfl (by show 2 * 0 + _ ≤ _; exact Nat.le_of_eq rfl) (bd at_227) (fun _ _ => ⟨rfl, e44, (nl rfl), (nl rfl)⟩)
  dsimp only [Pt.U, Pt.locs, Pt.cells, Pt.slots] at X57 l57 y57 z57 st57 hQ57
  subst l57 y57 z57
  obtain ⟨bs57, wa57, kw57, rfl, Nq57, K57, ob57, ow57, nbw57, E57, C057, C157, C257, U57, P57, A57⟩ := hQ57
  have gw57 : h0.size ≤ wa57 := Nat.le_trans (Nat.le_trans (Nat.le_trans (Nat.le_trans (Nat.le_trans (Nat.le_trans (Nat.le_trans (Nat.le_trans (Nat.le_trans (Nat.le_trans (Nat.le_refl _) E17.1) (Keep.of_wr W18).1) (Keep.of_wr W19).1) (Keep.of_wr W20).1) E21.1) (Keep.of_wr W22).1) (Keep.of_wr W23).1) (Keep.of_wr W24).1) E44.1) ow57
  have N57 := Fr.app N24 Nq57
  have gb57 : h0.size ≤ bs57 := Nat.le_trans (Nat.le_trans (Nat.le_trans (Nat.le_trans (Nat.le_trans (Nat.le_trans (Nat.le_trans (Nat.le_trans (Nat.le_trans (Nat.le_trans (Nat.le_refl _) E17.1) (Keep.of_wr W18).1) (Keep.of_wr W19).1) (Keep.of_wr W20).1) E21.1) (Keep.of_wr W22).1) (Keep.of_wr W23).1) (Keep.of_wr W24).1) E44.1) ob57
  refine OD.via st57 ?_
  refine OD.go (B := (T57.setTop (mkF m 234 #[.val (.int p0), .val (.int p1), .val (.int p2), .val (.long q0), .second, .val (.long q1), .second, .val (.long q2), .second, .val (.int u4_1), .val (.int u12_2), .val (.int u21_3), .val (.int u27_4), .val (.int u33_5), .val (.int u69_13), .val (.int v82_14), .val (.ref b17), .val (.ref b21), .val (.int v149_25), .val (.int v177_30), .val (.int u192_38), .val (.int u214_43), .val (.ref b44), .unset, .unset, .unset, .unset] [(.ref b44)]))) (fun t k => XS.astore X57.here hx rfl (bd at_230) rfl rfl (l' := #[.val (.int p0), .val (.int p1), .val (.int p2), .val (.long q0), .second, .val (.long q1), .second, .val (.long q2), .second, .val (.int u4_1), .val (.int u12_2), .val (.int u21_3), .val (.int u27_4), .val (.int u33_5), .val (.int u69_13), .val (.int v82_14), .val (.ref b17), .val (.ref b21), .val (.int v149_25), .val (.int v177_30), .val (.int u192_38), .val (.int u214_43), .val (.ref b44), .unset, .unset, .unset, .unset]) rfl (XS.aload X57.here hx rfl (bd at_232) rfl rfl k)) ?_
  have f58 := (A44.keep K57)
  obtain ⟨cq59, kq59, qa59, qb59, qc59⟩ := isOf hZ rfl f58
  obtain ⟨_, _, ⟨T59, L59, k59, n59⟩, -, X59, ⟨Lc59, hQ59, l59, y59, z59⟩, st59⟩ := X57.virtualBack hx (y := (⟨zZ0, "documentCount", "()I"⟩ : MethodName)) (z := (⟨zZ0, "documentCount", "()I"⟩ : MethodName)) hown (mvT hZ (Wd113 hw)) (mvT hZ (Wd114 hw)) (notFace_of_selects (args := #[]) (mvT hZ (Wd116 hw))) (mvT hZ (Wd116 hw)) (mvT hZ (Wd115 hw)) (by decide) (backOf (W := 0) (rm_documentCount l Z a0 hw [] b44 T57.heap ((0 : Int32) + own_bc ((((0 : Int64) ||| own_bit u4_1) ||| own_bit u12_2) ||| own_bit u21_3)) C157) hZ (Wd117 hw) (Wd4 hw) (by decide) (by decide)) qa59 qc59 (g := (mkF m 234 #[.val (.int p0), .val (.int p1), .val (.int p2), .val (.long q0), .second, .val (.long q1), .second, .val (.long q2), .second, .val (.int u4_1), .val (.int u12_2), .val (.int u21_3), .val (.int u27_4), .val (.int u33_5), .val (.int u69_13), .val (.int v82_14), .val (.ref b17), .val (.ref b21), .val (.int v149_25), .val (.int v177_30), .val (.int u192_38), .val (.int u214_43), .val (.ref b44), .unset, .unset, .unset, .unset] [(.ref b44)])) rfl (by rw [hml]; rfl) (Steps.refl _) (argsL := []) (rest := []) (lenOf pd7 rfl) rfl (by show 2 * 0 + _ ≤ _; exact Nat.le_of_eq rfl) (bd at_234) (fun _ _ => ⟨rfl, rfl, (nl rfl), (nl rfl)⟩)
  dsimp only [Pt.U, Pt.locs, Pt.cells, Pt.slots] at X59 l59 y59 z59 st59 hQ59
  subst l59 y59 z59
  obtain ⟨rfl, rfl, e59⟩ := hQ59
  try rw [List.append_nil] at X59
  refine OD.via st59 ?_
  refine OD.go (B := (T59.setTop (mkF m 244 #[.val (.int p0), .val (.int p1), .val (.int p2), .val (.long q0), .second, .val (.long q1), .second, .val (.long q2), .second, .val (.int u4_1), .val (.int u12_2), .val (.int u21_3), .val (.int u27_4), .val (.int u33_5), .val (.int u69_13), .val (.int v82_14), .val (.ref b17), .val (.ref b21), .val (.int v149_25), .val (.int v177_30), .val (.int u192_38), .val (.int u214_43), .val (.ref b44), .unset, .unset, .unset, .unset] [(.ref b44)]))) (fun t k => XS.iload X59.here hx rfl (bd at_237) rfl (XS.icmpNo X59.here hx rfl (bd at_239) rfl (teq (own_p1 hu4_1 hu12_2 hu21_3 hu27_4 hu33_5 hv48_6 hv68_9 hu69_13 hv82_14 hv149_25 hv177_30 hv191_35 hu192_38 hv213_39 hu214_43)).2 (XS.aload X59.here hx rfl (bd at_242) rfl rfl k))) ?_
  obtain ⟨cq60, kq60, qa60, qb60, qc60⟩ := isOf hZ e59 f58
  obtain ⟨_, _, ⟨T60, L60, k60, n60⟩, -, X60, ⟨Lc60, hQ60, l60, y60, z60⟩, st60⟩ := X59.virtualBack hx (y := (⟨zZ0, "currentCount", "()I"⟩ : MethodName)) (z := (⟨zZ0, "currentCount", "()I"⟩ : MethodName)) hown (mvT hZ (Wd118 hw)) (mvT hZ (Wd119 hw)) (notFace_of_selects (args := #[]) (mvT hZ (Wd121 hw))) (mvT hZ (Wd121 hw)) (mvT hZ (Wd120 hw)) (by decide) (backOf (W := 0) (rm_currentCount l Z a0 hw [] b44 T57.heap ((0 : Int32) + own_bc ((((0 : Int64) ||| own_bit u4_1) ||| own_bit u12_2) ||| own_bit u21_3)) C257) hZ (Wd122 hw) (Wd4 hw) (by decide) (by decide)) qa60 qc60 (g := (mkF m 244 #[.val (.int p0), .val (.int p1), .val (.int p2), .val (.long q0), .second, .val (.long q1), .second, .val (.long q2), .second, .val (.int u4_1), .val (.int u12_2), .val (.int u21_3), .val (.int u27_4), .val (.int u33_5), .val (.int u69_13), .val (.int v82_14), .val (.ref b17), .val (.ref b21), .val (.int v149_25), .val (.int v177_30), .val (.int u192_38), .val (.int u214_43), .val (.ref b44), .unset, .unset, .unset, .unset] [(.ref b44)])) rfl (by rw [hml]; rfl) (Steps.refl _) (argsL := []) (rest := []) (lenOf pd7 rfl) rfl (by show 2 * 0 + _ ≤ _; exact Nat.le_of_eq rfl) (bd at_244) (fun _ _ => ⟨rfl, e59, (nl rfl), (nl rfl)⟩)
  dsimp only [Pt.U, Pt.locs, Pt.cells, Pt.slots] at X60 l60 y60 z60 st60 hQ60
  subst l60 y60 z60
  obtain ⟨rfl, rfl, e60⟩ := hQ60
  try rw [List.append_nil] at X60
  refine OD.via st60 ?_
  refine OD.go (B := (T60.setTop (mkF m 263 #[.val (.int p0), .val (.int p1), .val (.int p2), .val (.long q0), .second, .val (.long q1), .second, .val (.long q2), .second, .val (.int u4_1), .val (.int u12_2), .val (.int u21_3), .val (.int u27_4), .val (.int u33_5), .val (.int u69_13), .val (.int v82_14), .val (.ref b17), .val (.ref b21), .val (.int v149_25), .val (.int v177_30), .val (.int u192_38), .val (.int u214_43), .val (.ref b44), .val (.int 1), .unset, .unset, .unset] [(.int u27_4), (.ref b44)]))) (fun t k => XS.iload X60.here hx rfl (bd at_247) rfl (XS.icmpNo X60.here hx rfl (bd at_249) rfl (teq (own_p1 hu4_1 hu12_2 hu21_3 hu27_4 hu33_5 hv48_6 hv68_9 hu69_13 hv82_14 hv149_25 hv177_30 hv191_35 hu192_38 hv213_39 hu214_43)).2 (XS.iconst X60.here hx rfl (bd at_252) (XS.goto X60.here hx rfl (pc0 := 253) (pc' := 257) rfl (bd at_253) (by decide) (by decide) (XS.istore X60.here hx rfl (bd at_257) rfl (l' := #[.val (.int p0), .val (.int p1), .val (.int p2), .val (.long q0), .second, .val (.long q1), .second, .val (.long q2), .second, .val (.int u4_1), .val (.int u12_2), .val (.int u21_3), .val (.int u27_4), .val (.int u33_5), .val (.int u69_13), .val (.int v82_14), .val (.ref b17), .val (.ref b21), .val (.int v149_25), .val (.int v177_30), .val (.int u192_38), .val (.int u214_43), .val (.ref b44), .val (.int 1), .unset, .unset, .unset]) rfl (XS.aload X60.here hx rfl (bd at_259) rfl rfl (XS.iload X60.here hx rfl (bd at_261) rfl k))))))) ?_
  obtain ⟨cq61, kq61, qa61, qb61, qc61⟩ := isOf hZ e60 f58
  obtain ⟨_, _, ⟨T61, L61, k61, n61⟩, -, X61, ⟨Lc61, hQ61, l61, y61, z61⟩, st61⟩ := X60.virtualBack hx (y := (⟨zZ0, "outdate", "(I)V"⟩ : MethodName)) (z := (⟨zZ0, "outdate", "(I)V"⟩ : MethodName)) hown (mvT hZ (Wd123 hw)) (mvT hZ (Wd124 hw)) (notFace_of_selects (args := #[]) (mvT hZ (Wd126 hw))) (mvT hZ (Wd126 hw)) (mvT hZ (Wd125 hw)) (by decide) (backOf (W := 0) (rmO1 l Z a0 hw [] b44 u27_4 T57.heap h0.size (Nat.le_trans (Nat.le_trans (Nat.le_trans (Nat.le_trans (Nat.le_trans (Nat.le_trans (Nat.le_trans (Nat.le_trans (Nat.le_trans (Nat.le_trans (Nat.le_refl _) E17.1) (Keep.of_wr W18).1) (Keep.of_wr W19).1) (Keep.of_wr W20).1) E21.1) (Keep.of_wr W22).1) (Keep.of_wr W23).1) (Keep.of_wr W24).1) E44.1) K57.1) bs57 wa57 ((((((((((X00.ext E17).wr W18 (Nat.le_trans (Nat.le_refl _) (Nat.le_of_eq g17.symm))).wr W19 (Nat.le_trans (Nat.le_refl _) (Nat.le_of_eq g17.symm))).wr W20 (Nat.le_trans (Nat.le_refl _) (Nat.le_of_eq g17.symm))).ext E21).wr W22 (Nat.le_trans (Nat.le_trans (Nat.le_trans (Nat.le_trans (Nat.le_trans (Nat.le_refl _) E17.1) (Keep.of_wr W18).1) (Keep.of_wr W19).1) (Keep.of_wr W20).1) (Nat.le_of_eq g21.symm))).wr W23 (Nat.le_trans (Nat.le_trans (Nat.le_trans (Nat.le_trans (Nat.le_trans (Nat.le_refl _) E17.1) (Keep.of_wr W18).1) (Keep.of_wr W19).1) (Keep.of_wr W20).1) (Nat.le_of_eq g21.symm))).wr W24 (Nat.le_trans (Nat.le_trans (Nat.le_trans (Nat.le_trans (Nat.le_trans (Nat.le_refl _) E17.1) (Keep.of_wr W18).1) (Keep.of_wr W19).1) (Keep.of_wr W20).1) (Nat.le_of_eq g21.symm))).ext E44).keep K57 (allS (Nat.le_trans (Nat.le_trans (Nat.le_trans (Nat.le_trans (Nat.le_trans (Nat.le_trans (Nat.le_trans (Nat.le_trans (Nat.le_trans (Nat.le_refl _) E17.1) (Keep.of_wr W18).1) (Keep.of_wr W19).1) (Keep.of_wr W20).1) E21.1) (Keep.of_wr W22).1) (Keep.of_wr W23).1) (Keep.of_wr W24).1) (Nat.le_of_eq g44.symm)) (allS (Nat.le_trans (Nat.le_refl _) (Nat.le_of_eq g17.symm)) (allS (Nat.le_trans (Nat.le_trans (Nat.le_trans (Nat.le_trans (Nat.le_trans (Nat.le_refl _) E17.1) (Keep.of_wr W18).1) (Keep.of_wr W19).1) (Keep.of_wr W20).1) (Nat.le_of_eq g21.symm)) all0)))) Sad f58 (Nat.le_trans (Nat.le_trans (Nat.le_trans (Nat.le_trans (Nat.le_trans (Nat.le_trans (Nat.le_trans (Nat.le_trans (Nat.le_trans (Nat.le_refl _) E17.1) (Keep.of_wr W18).1) (Keep.of_wr W19).1) (Keep.of_wr W20).1) E21.1) (Keep.of_wr W22).1) (Keep.of_wr W23).1) (Keep.of_wr W24).1) (Nat.le_of_eq g44.symm)) ((0 : Int32) + own_bc ((((0 : Int64) ||| own_bit u4_1) ||| own_bit u12_2) ||| own_bit u21_3)) ((0 : Int32) + own_bc ((((0 : Int64) ||| own_bit u4_1) ||| own_bit u12_2) ||| own_bit u21_3)) C057 C157 C257 E57 gb57 U57 P57 kw57 ((((0 : Int64) ||| own_bit u4_1) ||| own_bit u12_2) ||| own_bit u21_3) A57 gw57 nbw57 (hu27_4 ▸ own_smA _) (Nat.ne_of_lt (Nat.lt_of_lt_of_le A44.lt ob57)) (Nat.ne_of_lt (Nat.lt_of_lt_of_le A44.lt ow57))) hZ (Wd127 hw) (Wd4 hw) (by decide) (by decide)) qa61 qc61 (g := (mkF m 263 #[.val (.int p0), .val (.int p1), .val (.int p2), .val (.long q0), .second, .val (.long q1), .second, .val (.long q2), .second, .val (.int u4_1), .val (.int u12_2), .val (.int u21_3), .val (.int u27_4), .val (.int u33_5), .val (.int u69_13), .val (.int v82_14), .val (.ref b17), .val (.ref b21), .val (.int v149_25), .val (.int v177_30), .val (.int u192_38), .val (.int u214_43), .val (.ref b44), .val (.int 1), .unset, .unset, .unset] [(.int u27_4), (.ref b44)])) rfl (by rw [hml]; rfl) (Steps.refl _) (argsL := [(.int u27_4)]) (rest := []) (lenOf pd1 rfl) rfl (by show 2 * 0 + _ ≤ _; exact Nat.le_of_eq rfl) (bd at_263) (fun _ _ => ⟨rfl, e60, (nl rfl), (nl rfl)⟩)
  dsimp only [Pt.U, Pt.locs, Pt.cells, Pt.slots] at X61 l61 y61 z61 st61 hQ61
  subst l61 y61 z61
  obtain ⟨u61, wu61, rfl, Nq61, K61, C061, C161, C261, U61, P61, A61⟩ := hQ61
  have N61 := Fr.app N57 Nq61
  refine OD.via (B := (T61.setTop (mkF m 266 #[.val (.int p0), .val (.int p1), .val (.int p2), .val (.long q0), .second, .val (.long q1), .second, .val (.long q2), .second, .val (.int u4_1), .val (.int u12_2), .val (.int u21_3), .val (.int u27_4), .val (.int u33_5), .val (.int u69_13), .val (.int v82_14), .val (.ref b17), .val (.ref b21), .val (.int v149_25), .val (.int v177_30), .val (.int u192_38), .val (.int u214_43), .val (.ref b44), .val (.int 1), .unset, .unset, .unset] []))) st61 ?_
  rcases wu61 with rfl | ⟨rfl, hz0⟩
  · skip
    refine OD.go (B := (T61.setTop (mkF m 268 #[.val (.int p0), .val (.int p1), .val (.int p2), .val (.long q0), .second, .val (.long q1), .second, .val (.long q2), .second, .val (.int u4_1), .val (.int u12_2), .val (.int u21_3), .val (.int u27_4), .val (.int u33_5), .val (.int u69_13), .val (.int v82_14), .val (.ref b17), .val (.ref b21), .val (.int v149_25), .val (.int v177_30), .val (.int u192_38), .val (.int u214_43), .val (.ref b44), .val (.int 1), .unset, .unset, .unset] [(.ref b44)]))) (fun t k => XS.aload X61.here hx rfl (bd at_266) rfl rfl k) ?_
    have f62 := (f58.keep K61)
    obtain ⟨cq63, kq63, qa63, qb63, qc63⟩ := isOf hZ rfl f62
    obtain ⟨_, _, ⟨T63, L63, k63, n63⟩, -, X63, ⟨Lc63, hQ63, l63, y63, z63⟩, st63⟩ := X61.virtualBack hx (y := (⟨zZ0, "currentCount", "()I"⟩ : MethodName)) (z := (⟨zZ0, "currentCount", "()I"⟩ : MethodName)) hown (mvT hZ (Wd118 hw)) (mvT hZ (Wd119 hw)) (notFace_of_selects (args := #[]) (mvT hZ (Wd121 hw))) (mvT hZ (Wd121 hw)) (mvT hZ (Wd120 hw)) (by decide) (backOf (W := 0) (rm_currentCount l Z a0 hw [] b44 T61.heap (own_cc ((0 : Int32) + own_bc ((((0 : Int64) ||| own_bit u4_1) ||| own_bit u12_2) ||| own_bit u21_3)) ((((0 : Int64) ||| own_bit u4_1) ||| own_bit u12_2) ||| own_bit u21_3) u27_4) C261) hZ (Wd122 hw) (Wd4 hw) (by decide) (by decide)) qa63 qc63 (g := (mkF m 268 #[.val (.int p0), .val (.int p1), .val (.int p2), .val (.long q0), .second, .val (.long q1), .second, .val (.long q2), .second, .val (.int u4_1), .val (.int u12_2), .val (.int u21_3), .val (.int u27_4), .val (.int u33_5), .val (.int u69_13), .val (.int v82_14), .val (.ref b17), .val (.ref b21), .val (.int v149_25), .val (.int v177_30), .val (.int u192_38), .val (.int u214_43), .val (.ref b44), .val (.int 1), .unset, .unset, .unset] [(.ref b44)])) rfl (by rw [hml]; rfl) (Steps.refl _) (argsL := []) (rest := []) (lenOf pd7 rfl) rfl (by show 2 * 0 + _ ≤ _; exact Nat.le_of_eq rfl) (bd at_268) (fun _ _ => ⟨rfl, rfl, (nl rfl), (nl rfl)⟩)
    dsimp only [Pt.U, Pt.locs, Pt.cells, Pt.slots] at X63 l63 y63 z63 st63 hQ63
    subst l63 y63 z63
    obtain ⟨rfl, rfl, e63⟩ := hQ63
    try rw [List.append_nil] at X63
    refine OD.via st63 ?_
    refine OD.go (B := (T63.setTop (mkF m 287 #[.val (.int p0), .val (.int p1), .val (.int p2), .val (.long q0), .second, .val (.long q1), .second, .val (.long q2), .second, .val (.int u4_1), .val (.int u12_2), .val (.int u21_3), .val (.int u27_4), .val (.int u33_5), .val (.int u69_13), .val (.int v82_14), .val (.ref b17), .val (.ref b21), .val (.int v149_25), .val (.int v177_30), .val (.int u192_38), .val (.int u214_43), .val (.ref b44), .val (.int 1), .val (.int 1), .unset, .unset] [(.int u33_5), (.ref b44)]))) (fun t k => XS.iload X63.here hx rfl (bd at_271) rfl (XS.icmpNo X63.here hx rfl (bd at_273) rfl (teq (own_p2 hu4_1 hu12_2 hu21_3 hu27_4 hu33_5 hv48_6 hv68_9 hu69_13 hv82_14 hv149_25 hv177_30 hv191_35 hu192_38 hv213_39 hu214_43)).2 (XS.iconst X63.here hx rfl (bd at_276) (XS.goto X63.here hx rfl (pc0 := 277) (pc' := 281) rfl (bd at_277) (by decide) (by decide) (XS.istore X63.here hx rfl (bd at_281) rfl (l' := #[.val (.int p0), .val (.int p1), .val (.int p2), .val (.long q0), .second, .val (.long q1), .second, .val (.long q2), .second, .val (.int u4_1), .val (.int u12_2), .val (.int u21_3), .val (.int u27_4), .val (.int u33_5), .val (.int u69_13), .val (.int v82_14), .val (.ref b17), .val (.ref b21), .val (.int v149_25), .val (.int v177_30), .val (.int u192_38), .val (.int u214_43), .val (.ref b44), .val (.int 1), .val (.int 1), .unset, .unset]) rfl (XS.aload X63.here hx rfl (bd at_283) rfl rfl (XS.iload X63.here hx rfl (bd at_285) rfl k))))))) ?_
    have f64 := (E57.keep K61)
    obtain ⟨cq65, kq65, qa65, qb65, qc65⟩ := isOf hZ e63 f62
    obtain ⟨_, _, ⟨T65, L65, k65, n65⟩, -, X65, ⟨Lc65, hQ65, l65, y65, z65⟩, st65⟩ := X63.virtualBack hx (y := (⟨zZ0, "outdate", "(I)V"⟩ : MethodName)) (z := (⟨zZ0, "outdate", "(I)V"⟩ : MethodName)) hown (mvT hZ (Wd123 hw)) (mvT hZ (Wd124 hw)) (notFace_of_selects (args := #[]) (mvT hZ (Wd126 hw))) (mvT hZ (Wd126 hw)) (mvT hZ (Wd125 hw)) (by decide) (backOf (W := 0) (rmO1 l Z a0 hw [] b44 u33_5 T61.heap h0.size (Nat.le_trans (Nat.le_trans (Nat.le_trans (Nat.le_trans (Nat.le_trans (Nat.le_trans (Nat.le_trans (Nat.le_trans (Nat.le_trans (Nat.le_trans (Nat.le_trans (Nat.le_refl _) E17.1) (Keep.of_wr W18).1) (Keep.of_wr W19).1) (Keep.of_wr W20).1) E21.1) (Keep.of_wr W22).1) (Keep.of_wr W23).1) (Keep.of_wr W24).1) E44.1) K57.1) K61.1) bs57 wa57 (((((((((((X00.ext E17).wr W18 (Nat.le_trans (Nat.le_refl _) (Nat.le_of_eq g17.symm))).wr W19 (Nat.le_trans (Nat.le_refl _) (Nat.le_of_eq g17.symm))).wr W20 (Nat.le_trans (Nat.le_refl _) (Nat.le_of_eq g17.symm))).ext E21).wr W22 (Nat.le_trans (Nat.le_trans (Nat.le_trans (Nat.le_trans (Nat.le_trans (Nat.le_refl _) E17.1) (Keep.of_wr W18).1) (Keep.of_wr W19).1) (Keep.of_wr W20).1) (Nat.le_of_eq g21.symm))).wr W23 (Nat.le_trans (Nat.le_trans (Nat.le_trans (Nat.le_trans (Nat.le_trans (Nat.le_refl _) E17.1) (Keep.of_wr W18).1) (Keep.of_wr W19).1) (Keep.of_wr W20).1) (Nat.le_of_eq g21.symm))).wr W24 (Nat.le_trans (Nat.le_trans (Nat.le_trans (Nat.le_trans (Nat.le_trans (Nat.le_refl _) E17.1) (Keep.of_wr W18).1) (Keep.of_wr W19).1) (Keep.of_wr W20).1) (Nat.le_of_eq g21.symm))).ext E44).keep K57 (allS (Nat.le_trans (Nat.le_trans (Nat.le_trans (Nat.le_trans (Nat.le_trans (Nat.le_trans (Nat.le_trans (Nat.le_trans (Nat.le_trans (Nat.le_refl _) E17.1) (Keep.of_wr W18).1) (Keep.of_wr W19).1) (Keep.of_wr W20).1) E21.1) (Keep.of_wr W22).1) (Keep.of_wr W23).1) (Keep.of_wr W24).1) (Nat.le_of_eq g44.symm)) (allS (Nat.le_trans (Nat.le_refl _) (Nat.le_of_eq g17.symm)) (allS (Nat.le_trans (Nat.le_trans (Nat.le_trans (Nat.le_trans (Nat.le_trans (Nat.le_refl _) E17.1) (Keep.of_wr W18).1) (Keep.of_wr W19).1) (Keep.of_wr W20).1) (Nat.le_of_eq g21.symm)) all0)))).keep K61 (allS (Nat.le_trans (Nat.le_trans (Nat.le_trans (Nat.le_trans (Nat.le_trans (Nat.le_trans (Nat.le_trans (Nat.le_trans (Nat.le_trans (Nat.le_refl _) E17.1) (Keep.of_wr W18).1) (Keep.of_wr W19).1) (Keep.of_wr W20).1) E21.1) (Keep.of_wr W22).1) (Keep.of_wr W23).1) (Keep.of_wr W24).1) (Nat.le_of_eq g44.symm)) (allS gb57 (allS gw57 all0)))) Sad f62 (Nat.le_trans (Nat.le_trans (Nat.le_trans (Nat.le_trans (Nat.le_trans (Nat.le_trans (Nat.le_trans (Nat.le_trans (Nat.le_trans (Nat.le_refl _) E17.1) (Keep.of_wr W18).1) (Keep.of_wr W19).1) (Keep.of_wr W20).1) E21.1) (Keep.of_wr W22).1) (Keep.of_wr W23).1) (Keep.of_wr W24).1) (Nat.le_of_eq g44.symm)) (own_cc ((0 : Int32) + own_bc ((((0 : Int64) ||| own_bit u4_1) ||| own_bit u12_2) ||| own_bit u21_3)) ((((0 : Int64) ||| own_bit u4_1) ||| own_bit u12_2) ||| own_bit u21_3) u27_4) ((0 : Int32) + own_bc ((((0 : Int64) ||| own_bit u4_1) ||| own_bit u12_2) ||| own_bit u21_3)) C061 C161 C261 f64 gb57 U61 P61 kw57 (own_W ((((0 : Int64) ||| own_bit u4_1) ||| own_bit u12_2) ||| own_bit u21_3) u27_4) A61 gw57 nbw57 (hu33_5 ▸ own_smA _) (Nat.ne_of_lt (Nat.lt_of_lt_of_le A44.lt ob57)) (Nat.ne_of_lt (Nat.lt_of_lt_of_le A44.lt ow57))) hZ (Wd127 hw) (Wd4 hw) (by decide) (by decide)) qa65 qc65 (g := (mkF m 287 #[.val (.int p0), .val (.int p1), .val (.int p2), .val (.long q0), .second, .val (.long q1), .second, .val (.long q2), .second, .val (.int u4_1), .val (.int u12_2), .val (.int u21_3), .val (.int u27_4), .val (.int u33_5), .val (.int u69_13), .val (.int v82_14), .val (.ref b17), .val (.ref b21), .val (.int v149_25), .val (.int v177_30), .val (.int u192_38), .val (.int u214_43), .val (.ref b44), .val (.int 1), .val (.int 1), .unset, .unset] [(.int u33_5), (.ref b44)])) rfl (by rw [hml]; rfl) (Steps.refl _) (argsL := [(.int u33_5)]) (rest := []) (lenOf pd1 rfl) rfl (by show 2 * 0 + _ ≤ _; exact Nat.le_of_eq rfl) (bd at_287) (fun _ _ => ⟨rfl, e63, (nl rfl), (nl rfl)⟩)
    dsimp only [Pt.U, Pt.locs, Pt.cells, Pt.slots] at X65 l65 y65 z65 st65 hQ65
    subst l65 y65 z65
    obtain ⟨u65, wu65, rfl, Nq65, K65, C065, C165, C265, U65, P65, A65⟩ := hQ65
    have N65 := Fr.app N61 Nq65
    refine OD.via st65 ?_
    refine OD.go (B := (T65.setTop (mkF m 292 #[.val (.int p0), .val (.int p1), .val (.int p2), .val (.long q0), .second, .val (.long q1), .second, .val (.long q2), .second, .val (.int u4_1), .val (.int u12_2), .val (.int u21_3), .val (.int u27_4), .val (.int u33_5), .val (.int u69_13), .val (.int v82_14), .val (.ref b17), .val (.ref b21), .val (.int v149_25), .val (.int v177_30), .val (.int u192_38), .val (.int u214_43), .val (.ref b44), .val (.int 1), .val (.int 1), .unset, .unset] [(.ref b44)]))) (fun t k => XS.aload X65.here hx rfl (bd at_290) rfl rfl k) ?_
    have f66 := (f62.keep K65)
    obtain ⟨cq67, kq67, qa67, qb67, qc67⟩ := isOf hZ rfl f66
    obtain ⟨_, _, ⟨T67, L67, k67, n67⟩, -, X67, ⟨Lc67, hQ67, l67, y67, z67⟩, st67⟩ := X65.virtualBack hx (y := (⟨zZ0, "currentCount", "()I"⟩ : MethodName)) (z := (⟨zZ0, "currentCount", "()I"⟩ : MethodName)) hown (mvT hZ (Wd118 hw)) (mvT hZ (Wd119 hw)) (notFace_of_selects (args := #[]) (mvT hZ (Wd121 hw))) (mvT hZ (Wd121 hw)) (mvT hZ (Wd120 hw)) (by decide) (backOf (W := 0) (rm_currentCount l Z a0 hw [] b44 T65.heap (own_cc (own_cc ((0 : Int32) + own_bc ((((0 : Int64) ||| own_bit u4_1) ||| own_bit u12_2) ||| own_bit u21_3)) ((((0 : Int64) ||| own_bit u4_1) ||| own_bit u12_2) ||| own_bit u21_3) u27_4) (own_W ((((0 : Int64) ||| own_bit u4_1) ||| own_bit u12_2) ||| own_bit u21_3) u27_4) u33_5) C265) hZ (Wd122 hw) (Wd4 hw) (by decide) (by decide)) qa67 qc67 (g := (mkF m 292 #[.val (.int p0), .val (.int p1), .val (.int p2), .val (.long q0), .second, .val (.long q1), .second, .val (.long q2), .second, .val (.int u4_1), .val (.int u12_2), .val (.int u21_3), .val (.int u27_4), .val (.int u33_5), .val (.int u69_13), .val (.int v82_14), .val (.ref b17), .val (.ref b21), .val (.int v149_25), .val (.int v177_30), .val (.int u192_38), .val (.int u214_43), .val (.ref b44), .val (.int 1), .val (.int 1), .unset, .unset] [(.ref b44)])) rfl (by rw [hml]; rfl) (Steps.refl _) (argsL := []) (rest := []) (lenOf pd7 rfl) rfl (by show 2 * 0 + _ ≤ _; exact Nat.le_of_eq rfl) (bd at_292) (fun _ _ => ⟨rfl, rfl, (nl rfl), (nl rfl)⟩)
    dsimp only [Pt.U, Pt.locs, Pt.cells, Pt.slots] at X67 l67 y67 z67 st67 hQ67
    subst l67 y67 z67
    obtain ⟨rfl, rfl, e67⟩ := hQ67
    try rw [List.append_nil] at X67
    refine OD.via st67 ?_
    refine OD.go (B := (T67.setTop (mkF m 309 #[.val (.int p0), .val (.int p1), .val (.int p2), .val (.long q0), .second, .val (.long q1), .second, .val (.long q2), .second, .val (.int u4_1), .val (.int u12_2), .val (.int u21_3), .val (.int u27_4), .val (.int u33_5), .val (.int u69_13), .val (.int v82_14), .val (.ref b17), .val (.ref b21), .val (.int v149_25), .val (.int v177_30), .val (.int u192_38), .val (.int u214_43), .val (.ref b44), .val (.int 1), .val (.int 1), .val (.int 1), .unset] [(.ref b44)]))) (fun t k => XS.iload X67.here hx rfl (bd at_295) rfl (XS.icmpNo X67.here hx rfl (bd at_297) rfl (teq (own_p3 hu4_1 hu12_2 hu21_3 hu27_4 hu33_5 hv48_6 hv68_9 hu69_13 hv82_14 hv149_25 hv177_30 hv191_35 hu192_38 hv213_39 hu214_43)).2 (XS.iconst X67.here hx rfl (bd at_300) (XS.goto X67.here hx rfl (pc0 := 301) (pc' := 305) rfl (bd at_301) (by decide) (by decide) (XS.istore X67.here hx rfl (bd at_305) rfl (l' := #[.val (.int p0), .val (.int p1), .val (.int p2), .val (.long q0), .second, .val (.long q1), .second, .val (.long q2), .second, .val (.int u4_1), .val (.int u12_2), .val (.int u21_3), .val (.int u27_4), .val (.int u33_5), .val (.int u69_13), .val (.int v82_14), .val (.ref b17), .val (.ref b21), .val (.int v149_25), .val (.int v177_30), .val (.int u192_38), .val (.int u214_43), .val (.ref b44), .val (.int 1), .val (.int 1), .val (.int 1), .unset]) rfl (XS.aload X67.here hx rfl (bd at_307) rfl rfl k)))))) ?_
    obtain ⟨cq68, kq68, qa68, qb68, qc68⟩ := isOf hZ e67 f66
    obtain ⟨_, _, ⟨T68, L68, k68, n68⟩, -, X68, ⟨Lc68, hQ68, l68, y68, z68⟩, st68⟩ := X67.virtualBack hx (y := (⟨zZ0, "documentCount", "()I"⟩ : MethodName)) (z := (⟨zZ0, "documentCount", "()I"⟩ : MethodName)) hown (mvT hZ (Wd113 hw)) (mvT hZ (Wd114 hw)) (notFace_of_selects (args := #[]) (mvT hZ (Wd116 hw))) (mvT hZ (Wd116 hw)) (mvT hZ (Wd115 hw)) (by decide) (backOf (W := 0) (rm_documentCount l Z a0 hw [] b44 T65.heap ((0 : Int32) + own_bc ((((0 : Int64) ||| own_bit u4_1) ||| own_bit u12_2) ||| own_bit u21_3)) C165) hZ (Wd117 hw) (Wd4 hw) (by decide) (by decide)) qa68 qc68 (g := (mkF m 309 #[.val (.int p0), .val (.int p1), .val (.int p2), .val (.long q0), .second, .val (.long q1), .second, .val (.long q2), .second, .val (.int u4_1), .val (.int u12_2), .val (.int u21_3), .val (.int u27_4), .val (.int u33_5), .val (.int u69_13), .val (.int v82_14), .val (.ref b17), .val (.ref b21), .val (.int v149_25), .val (.int v177_30), .val (.int u192_38), .val (.int u214_43), .val (.ref b44), .val (.int 1), .val (.int 1), .val (.int 1), .unset] [(.ref b44)])) rfl (by rw [hml]; rfl) (Steps.refl _) (argsL := []) (rest := []) (lenOf pd7 rfl) rfl (by show 2 * 0 + _ ≤ _; exact Nat.le_of_eq rfl) (bd at_309) (fun _ _ => ⟨rfl, e67, (nl rfl), (nl rfl)⟩)
    dsimp only [Pt.U, Pt.locs, Pt.cells, Pt.slots] at X68 l68 y68 z68 st68 hQ68
    subst l68 y68 z68
    obtain ⟨rfl, rfl, e68⟩ := hQ68
    try rw [List.append_nil] at X68
    refine OD.via st68 ?_
    refine OD.go (B := (T68.setTop (mkF m 341 #[.val (.int p0), .val (.int p1), .val (.int p2), .val (.long q0), .second, .val (.long q1), .second, .val (.long q2), .second, .val (.int u4_1), .val (.int u12_2), .val (.int u21_3), .val (.int u27_4), .val (.int u33_5), .val (.int u69_13), .val (.int v82_14), .val (.ref b17), .val (.ref b21), .val (.int v149_25), .val (.int v177_30), .val (.int u192_38), .val (.int u214_43), .val (.ref b44), .val (.int 1), .val (.int 1), .val (.int 1), .val (.int 1)] [(.int 1)]))) (fun t k => XS.iload X68.here hx rfl (bd at_312) rfl (XS.icmpNo X68.here hx rfl (bd at_314) rfl (teq (own_p1 hu4_1 hu12_2 hu21_3 hu27_4 hu33_5 hv48_6 hv68_9 hu69_13 hv82_14 hv149_25 hv177_30 hv191_35 hu192_38 hv213_39 hu214_43)).2 (XS.iconst X68.here hx rfl (bd at_317) (XS.goto X68.here hx rfl (pc0 := 318) (pc' := 322) rfl (bd at_318) (by decide) (by decide) (XS.istore X68.here hx rfl (bd at_322) rfl (l' := #[.val (.int p0), .val (.int p1), .val (.int p2), .val (.long q0), .second, .val (.long q1), .second, .val (.long q2), .second, .val (.int u4_1), .val (.int u12_2), .val (.int u21_3), .val (.int u27_4), .val (.int u33_5), .val (.int u69_13), .val (.int v82_14), .val (.ref b17), .val (.ref b21), .val (.int v149_25), .val (.int v177_30), .val (.int u192_38), .val (.int u214_43), .val (.ref b44), .val (.int 1), .val (.int 1), .val (.int 1), .val (.int 1)]) rfl (XS.iload X68.here hx rfl (bd at_324) rfl (XS.ifNo X68.here hx rfl (bd at_326) rfl (by rw [if0]; exact (feq (by decide : ¬ (1 : Int32) = (0 : Int32))).1) (XS.iload X68.here hx rfl (bd at_329) rfl (XS.ifNo X68.here hx rfl (bd at_331) rfl (by rw [if0]; exact (feq (by decide : ¬ (1 : Int32) = (0 : Int32))).1) (XS.iload X68.here hx rfl (bd at_334) rfl (XS.ifNo X68.here hx rfl (bd at_336) rfl (by rw [if0]; exact (feq (by decide : ¬ (1 : Int32) = (0 : Int32))).1) (XS.iload X68.here hx rfl (bd at_339) rfl k)))))))))))) ?_
    refine OD.go (B := (T68.setTop (mkF m 349 #[.val (.int p0), .val (.int p1), .val (.int p2), .val (.long q0), .second, .val (.long q1), .second, .val (.long q2), .second, .val (.int u4_1), .val (.int u12_2), .val (.int u21_3), .val (.int u27_4), .val (.int u33_5), .val (.int u69_13), .val (.int v82_14), .val (.ref b17), .val (.ref b21), .val (.int v149_25), .val (.int v177_30), .val (.int u192_38), .val (.int u214_43), .val (.ref b44), .val (.int 1), .val (.int 1), .val (.int 1), .val (.int 1)] [(.int 1)]))) (fun t k => XS.ifNo X68.here hx rfl (bd at_341) rfl (by rw [if0]; exact (feq (by decide : ¬ (1 : Int32) = (0 : Int32))).1) (XS.iconst X68.here hx rfl (bd at_344) (XS.goto X68.here hx rfl (pc0 := 345) (pc' := 349) rfl (bd at_345) (by decide) (by decide) k))) ?_
    exact OD.ret X68 hx hlk (t := .boolean) Bd.returns rfl (Or.inl ⟨rfl, Or.inr (Or.inl rfl), _, rfl⟩) (bd at_349) (nl rfl) (nl rfl) ⟨rfl, N65⟩
  · skip
    refine OD.go (B := (T61.setTop (mkF m 268 #[.val (.int p0), .val (.int p1), .val (.int p2), .val (.long q0), .second, .val (.long q1), .second, .val (.long q2), .second, .val (.int u4_1), .val (.int u12_2), .val (.int u21_3), .val (.int u27_4), .val (.int u33_5), .val (.int u69_13), .val (.int v82_14), .val (.ref b17), .val (.ref b21), .val (.int v149_25), .val (.int v177_30), .val (.int u192_38), .val (.int u214_43), .val (.ref b44), .val (.int 1), .unset, .unset, .unset] [(.ref b44)]))) (fun t k => XS.aload X61.here hx rfl (bd at_266) rfl rfl k) ?_
    have f69 := (f58.keep K61)
    obtain ⟨cq70, kq70, qa70, qb70, qc70⟩ := isOf hZ rfl f69
    obtain ⟨_, _, ⟨T70, L70, k70, n70⟩, -, X70, ⟨Lc70, hQ70, l70, y70, z70⟩, st70⟩ := X61.virtualBack hx (y := (⟨zZ0, "currentCount", "()I"⟩ : MethodName)) (z := (⟨zZ0, "currentCount", "()I"⟩ : MethodName)) hown (mvT hZ (Wd118 hw)) (mvT hZ (Wd119 hw)) (notFace_of_selects (args := #[]) (mvT hZ (Wd121 hw))) (mvT hZ (Wd121 hw)) (mvT hZ (Wd120 hw)) (by decide) (backOf (W := 0) (rm_currentCount l Z a0 hw [] b44 T61.heap (own_cc ((0 : Int32) + own_bc ((((0 : Int64) ||| own_bit u4_1) ||| own_bit u12_2) ||| own_bit u21_3)) ((((0 : Int64) ||| own_bit u4_1) ||| own_bit u12_2) ||| own_bit u21_3) u27_4) C261) hZ (Wd122 hw) (Wd4 hw) (by decide) (by decide)) qa70 qc70 (g := (mkF m 268 #[.val (.int p0), .val (.int p1), .val (.int p2), .val (.long q0), .second, .val (.long q1), .second, .val (.long q2), .second, .val (.int u4_1), .val (.int u12_2), .val (.int u21_3), .val (.int u27_4), .val (.int u33_5), .val (.int u69_13), .val (.int v82_14), .val (.ref b17), .val (.ref b21), .val (.int v149_25), .val (.int v177_30), .val (.int u192_38), .val (.int u214_43), .val (.ref b44), .val (.int 1), .unset, .unset, .unset] [(.ref b44)])) rfl (by rw [hml]; rfl) (Steps.refl _) (argsL := []) (rest := []) (lenOf pd7 rfl) rfl (by show 2 * 0 + _ ≤ _; exact Nat.le_of_eq rfl) (bd at_268) (fun _ _ => ⟨rfl, rfl, (nl rfl), (nl rfl)⟩)
    dsimp only [Pt.U, Pt.locs, Pt.cells, Pt.slots] at X70 l70 y70 z70 st70 hQ70
    subst l70 y70 z70
    obtain ⟨rfl, rfl, e70⟩ := hQ70
    try rw [List.append_nil] at X70
    refine OD.via st70 ?_
    refine OD.go (B := (T70.setTop (mkF m 287 #[.val (.int p0), .val (.int p1), .val (.int p2), .val (.long q0), .second, .val (.long q1), .second, .val (.long q2), .second, .val (.int u4_1), .val (.int u12_2), .val (.int u21_3), .val (.int u27_4), .val (.int u33_5), .val (.int u69_13), .val (.int v82_14), .val (.ref b17), .val (.ref b21), .val (.int v149_25), .val (.int v177_30), .val (.int u192_38), .val (.int u214_43), .val (.ref b44), .val (.int 1), .val (.int 1), .unset, .unset] [(.int u33_5), (.ref b44)]))) (fun t k => XS.iload X70.here hx rfl (bd at_271) rfl (XS.icmpNo X70.here hx rfl (bd at_273) rfl (teq (own_p2 hu4_1 hu12_2 hu21_3 hu27_4 hu33_5 hv48_6 hv68_9 hu69_13 hv82_14 hv149_25 hv177_30 hv191_35 hu192_38 hv213_39 hu214_43)).2 (XS.iconst X70.here hx rfl (bd at_276) (XS.goto X70.here hx rfl (pc0 := 277) (pc' := 281) rfl (bd at_277) (by decide) (by decide) (XS.istore X70.here hx rfl (bd at_281) rfl (l' := #[.val (.int p0), .val (.int p1), .val (.int p2), .val (.long q0), .second, .val (.long q1), .second, .val (.long q2), .second, .val (.int u4_1), .val (.int u12_2), .val (.int u21_3), .val (.int u27_4), .val (.int u33_5), .val (.int u69_13), .val (.int v82_14), .val (.ref b17), .val (.ref b21), .val (.int v149_25), .val (.int v177_30), .val (.int u192_38), .val (.int u214_43), .val (.ref b44), .val (.int 1), .val (.int 1), .unset, .unset]) rfl (XS.aload X70.here hx rfl (bd at_283) rfl rfl (XS.iload X70.here hx rfl (bd at_285) rfl k))))))) ?_
    have f71 := (E57.keep K61)
    obtain ⟨cq72, kq72, qa72, qb72, qc72⟩ := isOf hZ e70 f69
    obtain ⟨_, _, ⟨T72, L72, k72, n72⟩, -, X72, ⟨Lc72, hQ72, l72, y72, z72⟩, st72⟩ := X70.virtualBack hx (y := (⟨zZ0, "outdate", "(I)V"⟩ : MethodName)) (z := (⟨zZ0, "outdate", "(I)V"⟩ : MethodName)) hown (mvT hZ (Wd123 hw)) (mvT hZ (Wd124 hw)) (notFace_of_selects (args := #[]) (mvT hZ (Wd126 hw))) (mvT hZ (Wd126 hw)) (mvT hZ (Wd125 hw)) (by decide) (backOf (W := 0) (rmO0 l Z a0 hw [] b44 u33_5 T61.heap h0.size (Nat.le_trans (Nat.le_trans (Nat.le_trans (Nat.le_trans (Nat.le_trans (Nat.le_trans (Nat.le_trans (Nat.le_trans (Nat.le_trans (Nat.le_trans (Nat.le_trans (Nat.le_refl _) E17.1) (Keep.of_wr W18).1) (Keep.of_wr W19).1) (Keep.of_wr W20).1) E21.1) (Keep.of_wr W22).1) (Keep.of_wr W23).1) (Keep.of_wr W24).1) E44.1) K57.1) K61.1) bs57 wa57 (((((((((((X00.ext E17).wr W18 (Nat.le_trans (Nat.le_refl _) (Nat.le_of_eq g17.symm))).wr W19 (Nat.le_trans (Nat.le_refl _) (Nat.le_of_eq g17.symm))).wr W20 (Nat.le_trans (Nat.le_refl _) (Nat.le_of_eq g17.symm))).ext E21).wr W22 (Nat.le_trans (Nat.le_trans (Nat.le_trans (Nat.le_trans (Nat.le_trans (Nat.le_refl _) E17.1) (Keep.of_wr W18).1) (Keep.of_wr W19).1) (Keep.of_wr W20).1) (Nat.le_of_eq g21.symm))).wr W23 (Nat.le_trans (Nat.le_trans (Nat.le_trans (Nat.le_trans (Nat.le_trans (Nat.le_refl _) E17.1) (Keep.of_wr W18).1) (Keep.of_wr W19).1) (Keep.of_wr W20).1) (Nat.le_of_eq g21.symm))).wr W24 (Nat.le_trans (Nat.le_trans (Nat.le_trans (Nat.le_trans (Nat.le_trans (Nat.le_refl _) E17.1) (Keep.of_wr W18).1) (Keep.of_wr W19).1) (Keep.of_wr W20).1) (Nat.le_of_eq g21.symm))).ext E44).keep K57 (allS (Nat.le_trans (Nat.le_trans (Nat.le_trans (Nat.le_trans (Nat.le_trans (Nat.le_trans (Nat.le_trans (Nat.le_trans (Nat.le_trans (Nat.le_refl _) E17.1) (Keep.of_wr W18).1) (Keep.of_wr W19).1) (Keep.of_wr W20).1) E21.1) (Keep.of_wr W22).1) (Keep.of_wr W23).1) (Keep.of_wr W24).1) (Nat.le_of_eq g44.symm)) (allS (Nat.le_trans (Nat.le_refl _) (Nat.le_of_eq g17.symm)) (allS (Nat.le_trans (Nat.le_trans (Nat.le_trans (Nat.le_trans (Nat.le_trans (Nat.le_refl _) E17.1) (Keep.of_wr W18).1) (Keep.of_wr W19).1) (Keep.of_wr W20).1) (Nat.le_of_eq g21.symm)) all0)))).keep K61 (allS (Nat.le_trans (Nat.le_trans (Nat.le_trans (Nat.le_trans (Nat.le_trans (Nat.le_trans (Nat.le_trans (Nat.le_trans (Nat.le_trans (Nat.le_refl _) E17.1) (Keep.of_wr W18).1) (Keep.of_wr W19).1) (Keep.of_wr W20).1) E21.1) (Keep.of_wr W22).1) (Keep.of_wr W23).1) (Keep.of_wr W24).1) (Nat.le_of_eq g44.symm)) (allS gb57 (allS gw57 all0)))) Sad f69 (Nat.le_trans (Nat.le_trans (Nat.le_trans (Nat.le_trans (Nat.le_trans (Nat.le_trans (Nat.le_trans (Nat.le_trans (Nat.le_trans (Nat.le_refl _) E17.1) (Keep.of_wr W18).1) (Keep.of_wr W19).1) (Keep.of_wr W20).1) E21.1) (Keep.of_wr W22).1) (Keep.of_wr W23).1) (Keep.of_wr W24).1) (Nat.le_of_eq g44.symm)) (own_cc ((0 : Int32) + own_bc ((((0 : Int64) ||| own_bit u4_1) ||| own_bit u12_2) ||| own_bit u21_3)) ((((0 : Int64) ||| own_bit u4_1) ||| own_bit u12_2) ||| own_bit u21_3) u27_4) ((0 : Int32) + own_bc ((((0 : Int64) ||| own_bit u4_1) ||| own_bit u12_2) ||| own_bit u21_3)) C061 C161 C261 f71 gb57 U61 P61 kw57 (own_W ((((0 : Int64) ||| own_bit u4_1) ||| own_bit u12_2) ||| own_bit u21_3) u27_4) A61 gw57 nbw57 (hu33_5 ▸ own_smA _) (Nat.ne_of_lt (Nat.lt_of_lt_of_le A44.lt ob57)) (Nat.ne_of_lt (Nat.lt_of_lt_of_le A44.lt ow57))) hZ (Wd127 hw) (Wd4 hw) (by decide) (by decide)) qa72 qc72 (g := (mkF m 287 #[.val (.int p0), .val (.int p1), .val (.int p2), .val (.long q0), .second, .val (.long q1), .second, .val (.long q2), .second, .val (.int u4_1), .val (.int u12_2), .val (.int u21_3), .val (.int u27_4), .val (.int u33_5), .val (.int u69_13), .val (.int v82_14), .val (.ref b17), .val (.ref b21), .val (.int v149_25), .val (.int v177_30), .val (.int u192_38), .val (.int u214_43), .val (.ref b44), .val (.int 1), .val (.int 1), .unset, .unset] [(.int u33_5), (.ref b44)])) rfl (by rw [hml]; rfl) (Steps.refl _) (argsL := [(.int u33_5)]) (rest := []) (lenOf pd1 rfl) rfl (by show 2 * 0 + _ ≤ _; exact Nat.le_of_eq rfl) (bd at_287) (fun _ _ => ⟨rfl, e70, (nl rfl), (nl rfl)⟩)
    dsimp only [Pt.U, Pt.locs, Pt.cells, Pt.slots] at X72 l72 y72 z72 st72 hQ72
    subst l72 y72 z72
    obtain ⟨rfl, rfl, e72⟩ := hQ72
    try rw [List.append_nil] at X72
    refine OD.via st72 ?_
    refine OD.go (B := (T72.setTop (mkF m 292 #[.val (.int p0), .val (.int p1), .val (.int p2), .val (.long q0), .second, .val (.long q1), .second, .val (.long q2), .second, .val (.int u4_1), .val (.int u12_2), .val (.int u21_3), .val (.int u27_4), .val (.int u33_5), .val (.int u69_13), .val (.int v82_14), .val (.ref b17), .val (.ref b21), .val (.int v149_25), .val (.int v177_30), .val (.int u192_38), .val (.int u214_43), .val (.ref b44), .val (.int 1), .val (.int 1), .unset, .unset] [(.ref b44)]))) (fun t k => XS.aload X72.here hx rfl (bd at_290) rfl rfl k) ?_
    obtain ⟨cq73, kq73, qa73, qb73, qc73⟩ := isOf hZ e72 f69
    obtain ⟨_, _, ⟨T73, L73, k73, n73⟩, -, X73, ⟨Lc73, hQ73, l73, y73, z73⟩, st73⟩ := X72.virtualBack hx (y := (⟨zZ0, "currentCount", "()I"⟩ : MethodName)) (z := (⟨zZ0, "currentCount", "()I"⟩ : MethodName)) hown (mvT hZ (Wd118 hw)) (mvT hZ (Wd119 hw)) (notFace_of_selects (args := #[]) (mvT hZ (Wd121 hw))) (mvT hZ (Wd121 hw)) (mvT hZ (Wd120 hw)) (by decide) (backOf (W := 0) (rm_currentCount l Z a0 hw [] b44 T61.heap (own_cc ((0 : Int32) + own_bc ((((0 : Int64) ||| own_bit u4_1) ||| own_bit u12_2) ||| own_bit u21_3)) ((((0 : Int64) ||| own_bit u4_1) ||| own_bit u12_2) ||| own_bit u21_3) u27_4) C261) hZ (Wd122 hw) (Wd4 hw) (by decide) (by decide)) qa73 qc73 (g := (mkF m 292 #[.val (.int p0), .val (.int p1), .val (.int p2), .val (.long q0), .second, .val (.long q1), .second, .val (.long q2), .second, .val (.int u4_1), .val (.int u12_2), .val (.int u21_3), .val (.int u27_4), .val (.int u33_5), .val (.int u69_13), .val (.int v82_14), .val (.ref b17), .val (.ref b21), .val (.int v149_25), .val (.int v177_30), .val (.int u192_38), .val (.int u214_43), .val (.ref b44), .val (.int 1), .val (.int 1), .unset, .unset] [(.ref b44)])) rfl (by rw [hml]; rfl) (Steps.refl _) (argsL := []) (rest := []) (lenOf pd7 rfl) rfl (by show 2 * 0 + _ ≤ _; exact Nat.le_of_eq rfl) (bd at_292) (fun _ _ => ⟨rfl, e72, (nl rfl), (nl rfl)⟩)
    dsimp only [Pt.U, Pt.locs, Pt.cells, Pt.slots] at X73 l73 y73 z73 st73 hQ73
    subst l73 y73 z73
    obtain ⟨rfl, rfl, e73⟩ := hQ73
    try rw [List.append_nil] at X73
    refine OD.via st73 ?_
    refine OD.go (B := (T73.setTop (mkF m 309 #[.val (.int p0), .val (.int p1), .val (.int p2), .val (.long q0), .second, .val (.long q1), .second, .val (.long q2), .second, .val (.int u4_1), .val (.int u12_2), .val (.int u21_3), .val (.int u27_4), .val (.int u33_5), .val (.int u69_13), .val (.int v82_14), .val (.ref b17), .val (.ref b21), .val (.int v149_25), .val (.int v177_30), .val (.int u192_38), .val (.int u214_43), .val (.ref b44), .val (.int 1), .val (.int 1), .val (.int 1), .unset] [(.ref b44)]))) (fun t k => XS.iload X73.here hx rfl (bd at_295) rfl (XS.icmpNo X73.here hx rfl (bd at_297) rfl (teq (own_p4 hu4_1 hu12_2 hu21_3 hu27_4 hu33_5 hv48_6 hv68_9 hu69_13 hv82_14 hv149_25 hv177_30 hv191_35 hu192_38 hv213_39 hu214_43 hz0)).2 (XS.iconst X73.here hx rfl (bd at_300) (XS.goto X73.here hx rfl (pc0 := 301) (pc' := 305) rfl (bd at_301) (by decide) (by decide) (XS.istore X73.here hx rfl (bd at_305) rfl (l' := #[.val (.int p0), .val (.int p1), .val (.int p2), .val (.long q0), .second, .val (.long q1), .second, .val (.long q2), .second, .val (.int u4_1), .val (.int u12_2), .val (.int u21_3), .val (.int u27_4), .val (.int u33_5), .val (.int u69_13), .val (.int v82_14), .val (.ref b17), .val (.ref b21), .val (.int v149_25), .val (.int v177_30), .val (.int u192_38), .val (.int u214_43), .val (.ref b44), .val (.int 1), .val (.int 1), .val (.int 1), .unset]) rfl (XS.aload X73.here hx rfl (bd at_307) rfl rfl k)))))) ?_
    obtain ⟨cq74, kq74, qa74, qb74, qc74⟩ := isOf hZ e73 f69
    obtain ⟨_, _, ⟨T74, L74, k74, n74⟩, -, X74, ⟨Lc74, hQ74, l74, y74, z74⟩, st74⟩ := X73.virtualBack hx (y := (⟨zZ0, "documentCount", "()I"⟩ : MethodName)) (z := (⟨zZ0, "documentCount", "()I"⟩ : MethodName)) hown (mvT hZ (Wd113 hw)) (mvT hZ (Wd114 hw)) (notFace_of_selects (args := #[]) (mvT hZ (Wd116 hw))) (mvT hZ (Wd116 hw)) (mvT hZ (Wd115 hw)) (by decide) (backOf (W := 0) (rm_documentCount l Z a0 hw [] b44 T61.heap ((0 : Int32) + own_bc ((((0 : Int64) ||| own_bit u4_1) ||| own_bit u12_2) ||| own_bit u21_3)) C161) hZ (Wd117 hw) (Wd4 hw) (by decide) (by decide)) qa74 qc74 (g := (mkF m 309 #[.val (.int p0), .val (.int p1), .val (.int p2), .val (.long q0), .second, .val (.long q1), .second, .val (.long q2), .second, .val (.int u4_1), .val (.int u12_2), .val (.int u21_3), .val (.int u27_4), .val (.int u33_5), .val (.int u69_13), .val (.int v82_14), .val (.ref b17), .val (.ref b21), .val (.int v149_25), .val (.int v177_30), .val (.int u192_38), .val (.int u214_43), .val (.ref b44), .val (.int 1), .val (.int 1), .val (.int 1), .unset] [(.ref b44)])) rfl (by rw [hml]; rfl) (Steps.refl _) (argsL := []) (rest := []) (lenOf pd7 rfl) rfl (by show 2 * 0 + _ ≤ _; exact Nat.le_of_eq rfl) (bd at_309) (fun _ _ => ⟨rfl, e73, (nl rfl), (nl rfl)⟩)
    dsimp only [Pt.U, Pt.locs, Pt.cells, Pt.slots] at X74 l74 y74 z74 st74 hQ74
    subst l74 y74 z74
    obtain ⟨rfl, rfl, e74⟩ := hQ74
    try rw [List.append_nil] at X74
    refine OD.via st74 ?_
    refine OD.go (B := (T74.setTop (mkF m 341 #[.val (.int p0), .val (.int p1), .val (.int p2), .val (.long q0), .second, .val (.long q1), .second, .val (.long q2), .second, .val (.int u4_1), .val (.int u12_2), .val (.int u21_3), .val (.int u27_4), .val (.int u33_5), .val (.int u69_13), .val (.int v82_14), .val (.ref b17), .val (.ref b21), .val (.int v149_25), .val (.int v177_30), .val (.int u192_38), .val (.int u214_43), .val (.ref b44), .val (.int 1), .val (.int 1), .val (.int 1), .val (.int 1)] [(.int 1)]))) (fun t k => XS.iload X74.here hx rfl (bd at_312) rfl (XS.icmpNo X74.here hx rfl (bd at_314) rfl (teq (own_p1 hu4_1 hu12_2 hu21_3 hu27_4 hu33_5 hv48_6 hv68_9 hu69_13 hv82_14 hv149_25 hv177_30 hv191_35 hu192_38 hv213_39 hu214_43)).2 (XS.iconst X74.here hx rfl (bd at_317) (XS.goto X74.here hx rfl (pc0 := 318) (pc' := 322) rfl (bd at_318) (by decide) (by decide) (XS.istore X74.here hx rfl (bd at_322) rfl (l' := #[.val (.int p0), .val (.int p1), .val (.int p2), .val (.long q0), .second, .val (.long q1), .second, .val (.long q2), .second, .val (.int u4_1), .val (.int u12_2), .val (.int u21_3), .val (.int u27_4), .val (.int u33_5), .val (.int u69_13), .val (.int v82_14), .val (.ref b17), .val (.ref b21), .val (.int v149_25), .val (.int v177_30), .val (.int u192_38), .val (.int u214_43), .val (.ref b44), .val (.int 1), .val (.int 1), .val (.int 1), .val (.int 1)]) rfl (XS.iload X74.here hx rfl (bd at_324) rfl (XS.ifNo X74.here hx rfl (bd at_326) rfl (by rw [if0]; exact (feq (by decide : ¬ (1 : Int32) = (0 : Int32))).1) (XS.iload X74.here hx rfl (bd at_329) rfl (XS.ifNo X74.here hx rfl (bd at_331) rfl (by rw [if0]; exact (feq (by decide : ¬ (1 : Int32) = (0 : Int32))).1) (XS.iload X74.here hx rfl (bd at_334) rfl (XS.ifNo X74.here hx rfl (bd at_336) rfl (by rw [if0]; exact (feq (by decide : ¬ (1 : Int32) = (0 : Int32))).1) (XS.iload X74.here hx rfl (bd at_339) rfl k)))))))))))) ?_
    refine OD.go (B := (T74.setTop (mkF m 349 #[.val (.int p0), .val (.int p1), .val (.int p2), .val (.long q0), .second, .val (.long q1), .second, .val (.long q2), .second, .val (.int u4_1), .val (.int u12_2), .val (.int u21_3), .val (.int u27_4), .val (.int u33_5), .val (.int u69_13), .val (.int v82_14), .val (.ref b17), .val (.ref b21), .val (.int v149_25), .val (.int v177_30), .val (.int u192_38), .val (.int u214_43), .val (.ref b44), .val (.int 1), .val (.int 1), .val (.int 1), .val (.int 1)] [(.int 1)]))) (fun t k => XS.ifNo X74.here hx rfl (bd at_341) rfl (by rw [if0]; exact (feq (by decide : ¬ (1 : Int32) = (0 : Int32))).1) (XS.iconst X74.here hx rfl (bd at_344) (XS.goto X74.here hx rfl (pc0 := 345) (pc' := 349) rfl (bd at_345) (by decide) (by decide) k))) ?_
    exact OD.ret X74 hx hlk (t := .boolean) Bd.returns rfl (Or.inl ⟨rfl, Or.inr (Or.inl rfl), _, rfl⟩) (bd at_349) (nl rfl) (nl rfl) ⟨rfl, N61⟩
set_option maxRecDepth 65536 in
set_option maxHeartbeats 40000000 in
theorem comes_1 {Post : Tables → Env → Array Value → State → Outcome → State → Prop} (hpost : ∀ tb e args s v u, (limb_1_1.after args s (.returned v) u = true ∧ limb_1_2.after args s (.returned v) u = true ∧ True) → FrameEnd s (.returned v) u (Jvm.fieldLocs frame_1_writes args s ++ Jvm.arrayLocs frame_1_arrays args s ++ Jvm.staticLocs frame_1_statics s) 48 4288 → Post tb e args s (.returned v) u) :
    ArmFor flags0 classFile x code maxLocals ret World_1 tables_1 room_1 Calls_1 rest_1 Pre_1 Post := by
  intro l hfl _ _ p e ha hc hk s m args below hf hA hF happ hP
  obtain ⟨hcalls, hrest, hpre⟩ := hP
  obtain ⟨-, -, -, hnamed, -, -, -, hat⟩ := (Spec.applies_iff hf).mp happ
  obtain ⟨hg, hn⟩ := and_e (Cond.before_iff.mp (show (Jvm.Cond.and given_1 narrow_1).before args s = true from hpre))
  obtain ⟨hg0, hr0⟩ := and_e hg
  obtain ⟨hg1, hr1⟩ := and_e hr0
  obtain ⟨hg2, hr2⟩ := and_e hr1
  obtain ⟨hg3, hr3⟩ := and_e hr2
  obtain ⟨hg4, hr4⟩ := and_e hr3
  obtain ⟨hg5, hr5⟩ := and_e hr4
  obtain ⟨w0, w1, w2, w3, w4, w5, rfl⟩ : ∃ w0 w1 w2 w3 w4 w5 : Value, args = #[w0, w1, w2, w3, w4, w5] := by
    have hs : args.size = 6 := by simpa [Cond.value, given_1] using hg0
    obtain ⟨L⟩ := args
    match L, hs with
    | [w0, w1, w2, w3, w4, w5], _ => exact ⟨w0, w1, w2, w3, w4, w5, rfl⟩
  have hw := fun d (hd : d ∈ tables_1) => atoms_spec (ws := Jvm.Cond.code x code maxLocals ret :: tables_1) hat d (List.mem_cons_of_mem _ hd)
  obtain ⟨i0, ei0⟩ := is_v hg1
  obtain rfl : w0 = (.int i0) := Option.some.inj ei0
  obtain ⟨i1, ei1⟩ := is_v hg2
  obtain rfl : w1 = (.int i1) := Option.some.inj ei1
  obtain ⟨i2, ei2⟩ := is_v hg3
  obtain rfl : w2 = (.int i2) := Option.some.inj ei2
  obtain ⟨i3, ei3⟩ := isL_v hg4
  obtain rfl : w3 = (.long i3) := Option.some.inj ei3
  obtain ⟨i4, ei4⟩ := isL_v hg5
  obtain rfl : w4 = (.long i4) := Option.some.inj ei4
  obtain ⟨i5, ei5⟩ := isL_v hr5
  obtain rfl : w5 = (.long i5) := Option.some.inj ei5
  obtain ⟨hsets, hown0⟩ := atoms_of _ (rest_1_c_eq ▸ (show rest_1_c.before _ s = true from hrest))
  have Sad : Sta s s.heap "java/util/BitSet" "$assertionsDisabled" "Z" (.int 1) := Sta.start (own_eqI (Cond.before_iff.mp (hsets _ (List.mem_of_getElem? (i := 2) rfl)))) (Or.inl (hsets _ (List.mem_of_getElem? (i := 1) rfl)))
  obtain ⟨n, o, h1, h2, h3, _, L, rfl, ⟨rfl, N⟩, hq⟩ := rm0 l s _ hw tables_1 i0 i1 i2 i3 i4 i5 s.heap (Old.start s) Sad p e ha hc hk s m _ below hf ((Spec.applies_iff_loose hf).mp happ).1 ⟨rfl, State.Warmed39.refl s, rfl⟩ trivial
  refine ⟨n, _, h1, h2, h3, hpost _ _ _ _ _ _ ⟨Cond.after_iff.mpr rfl, Cond.after_iff.mpr (eq_i res_at (Term.int_eval (1)) rfl), trivial⟩ ⟨hq.1, hq.2.1, (hq.2.2.sift fun y hy => Or.inr (N y hy)).mono (by decide) (by decide)⟩⟩
theorem main_1_1 : Claimed_1_1 := comes_1 fun _ _ _ _ _ _ h hF => ⟨h.1, hF⟩
theorem main_1_2 : Claimed_1_2 := comes_1 fun _ _ _ _ _ _ h hF => ⟨h.2.1, hF⟩
end Jvm.Pilot.@@N@@
namespace Jvm.Pilot.@@N@@
open Jvm Jvm.ClassFile Sem Op Lib Jvm.Free Jvm.Stand Jvm.Pilot.@@N@@.Jvm.D
/-! MADE BY PROGRAM (witnessworld.py) out of the Statement's table words and the real class files: 19 classes; the members and pool entries that the words name. The judged class is class 1, her method 1. -/
namespace start1
open Jvm.ClassFile
def u (s : String) : CpInfo := .utf8 (stringToUtf16 s)
/-- a pool by its gaps: so many unusable entries, then the entry; so many at the end -/
def gap : Nat → List CpInfo → List CpInfo
  | 0, r => r
  | n + 1, r => .unusable :: gap n r
def poolList (es : List (Nat × CpInfo)) (last : Nat) : List CpInfo := es.foldr (fun e r => gap e.1 (e.2 :: r)) (gap last [])
def pool (es : List (Nat × CpInfo)) (last : Nat) : Array CpInfo := ⟨poolList es last⟩
def fileOf (pool : Array CpInfo) (this : Nat) (attrs : Array Attribute := #[]) (ms : Array MethodInfo := #[]) (fl : Nat := 33) (sup : Nat := 0) (ifs : Array Nat := #[]) (fds : Array FieldInfo := #[]) : ClassFile where
  minorVersion := 0
  majorVersion := 65
  constantPool := pool
  accessFlags := fl
  thisClass := this
  superClass := sup
  interfaces := ifs
  fields := fds
  methods := ms
  attributes := attrs
def plain (name : String) (sup : Option ClassId) : Class where
  name := name
  kind := .ordinary
  loader := none
  accessFlags := 33
  super := sup
  interfaces := #[]
  cf := none
  fields := #[]
  methods := #[]
  instanceTypes := #[]
  staticTypes := #[]
  resolved := #[]
  callSites := []
  init := .initialized
  statics := none
  mirror := none

def pool0 : Array CpInfo := pool [(5, u "<init>"), (0, u "()V"), (1, .class_ 10), (1, u "java/lang/Object")] 113

def k0c0 : Code := { maxStack := 0, maxLocals := 1, code := object_method_1_code, exceptionTable := #[], attributes := #[] }
def k0m0 : Method := { name := "<init>", desc := "()V", sig := { parameters := [], returnType := none }, accessFlags := 1, code := some k0c0 }
/-- java/lang/Object -/
def k0 : Class := { plain "java/lang/Object" none with
  accessFlags := 33
  interfaces := #[]
  cf := some (fileOf pool0 8 #[] #[{ accessFlags := 1, nameIndex := 5, descriptorIndex := 6, attributes := #[] }] 33 0 #[] #[])
  fields := #[]
  methods := #[k0m0]
  instanceTypes := #[]
  staticTypes := #[]
  resolved := Array.replicate 124 none
  statics := none }

def pool1 : Array CpInfo := pool [(2, .class_ 4), (1, u "java/lang/Object"), (0, u "<init>"), (0, u "()V"), (0, .class_ 8), (0, u "com/example/tight_pivot/tightpivot/ValueTree"), (0, .methodref 7 10), (0, .nameAndType 5 11), (0, u "(I[I[JZ)V"), (0, .methodref 7 13), (0, .nameAndType 14 15), (0, u "documentCount"), (0, u "()I"), (0, .methodref 7 17), (0, .nameAndType 18 15), (0, u "currentCount"), (0, .methodref 7 20), (0, .nameAndType 21 22), (0, u "outdate"), (0, u "(I)V"), (0, .class_ 24), (0, u "com/example/tight_pivot/tightpivot/ValueTreeOutdatePinLaw"), (2, u "law"), (0, u "(IIIJJJ)Z")] 7

def k1m0 : Method := { name := "<init>", desc := "()V", sig := { parameters := [], returnType := none }, accessFlags := 2, code := none }
def k1c1 : Code := { maxStack := 6, maxLocals := 27, code := code, exceptionTable := #[], attributes := #[] }
def k1m1 : Method := { name := "law", desc := "(IIIJJJ)Z", sig := { parameters := [.int, .int, .int, .long, .long, .long], returnType := some .boolean }, accessFlags := 9, code := some k1c1 }
/-- com/example/tight_pivot/tightpivot/ValueTreeOutdatePinLaw -/
def k1 : Class := { plain "com/example/tight_pivot/tightpivot/ValueTreeOutdatePinLaw" (some 0) with
  accessFlags := 49
  interfaces := #[]
  cf := some (fileOf pool1 23 #[] #[{ accessFlags := 2, nameIndex := 5, descriptorIndex := 6, attributes := #[] }, { accessFlags := 9, nameIndex := 27, descriptorIndex := 28, attributes := #[] }] 49 2 #[] #[])
  fields := #[]
  methods := #[k1m0, k1m1]
  instanceTypes := #[]
  staticTypes := #[]
  resolved := Array.replicate 36 none
  statics := none }

def pool2 : Array CpInfo := pool [(1, .methodref 2 3), (0, .class_ 4), (0, .nameAndType 5 6), (0, u "com/example/tight_pivot/tightpivot/ValueTree"), (0, u "<init>"), (0, u "(I[I[JZZ)V"), (0, .methodref 8 9), (0, .class_ 10), (0, .nameAndType 5 11), (0, u "java/lang/Object"), (0, u "()V"), (0, .class_ 13), (0, u "java/util/BitSet"), (0, .methodref 12 9), (0, .fieldref 2 16), (0, .nameAndType 17 18), (0, u "current"), (0, u "Ljava/util/BitSet;"), (0, .fieldref 2 20), (0, .nameAndType 21 22), (0, u "dimensions"), (0, u "I"), (0, .fieldref 2 24), (0, .nameAndType 25 26), (0, u "docs"), (0, u "[I"), (0, .fieldref 2 28), (0, .nameAndType 29 30), (0, u "coordinates"), (0, u "[J"), (0, .fieldref 2 32), (0, .nameAndType 33 34), (0, u "repeatsDocs"), (0, u "Z"), (0, .long 8), (1, .fieldref 2 38), (0, .nameAndType 39 22), (0, u "leafLevel"), (0, .methodref 41 42), (0, .class_ 43), (0, .nameAndType 44 45), (0, u "java/lang/Math"), (0, u "multiplyExact"), (0, u "(II)I"), (0, .fieldref 2 47), (0, .nameAndType 48 30), (0, u "bounds"), (0, .fieldref 2 50), (0, .nameAndType 51 26), (0, u "leastDocs"), (0, .methodref 12 53), (0, .nameAndType 54 55), (0, u "set"), (0, u "(I)V"), (0, .methodref 12 57), (0, .nameAndType 58 59), (0, u "cardinality"), (0, u "()I"), (0, .fieldref 2 61), (0, .nameAndType 62 22), (0, u "documentCount"), (0, .fieldref 2 64), (0, .nameAndType 65 22), (0, u "currentCount"), (0, .methodref 2 67), (0, .nameAndType 68 11), (0, u "sortByCoordinate"), (0, .methodref 2 70), (0, .nameAndType 71 72), (0, u "split"), (0, u "(IIII)I"), (4, u "get"), (15, .methodref 12 94), (0, .nameAndType 77 95), (0, u "(I)Z"), (4, .methodref 101 102), (0, .class_ 103), (0, .nameAndType 104 105), (0, u "java/lang/System"), (0, u "arraycopy"), (0, u "(Ljava/lang/Object;ILjava/lang/Object;II)V"), (2, u "(I[I[JZ)V"), (0, .methodref 12 110), (0, .nameAndType 111 55), (0, u "clear"), (0, .class_ 113), (0, u "com/example/tight_pivot/tightpivot/ValueTree$Walk"), (3, .methodref 2 118), (0, .nameAndType 119 120), (0, u "bound"), (0, u "(III)V"), (2, .integer 2147483647), (0, .methodref 41 125), (0, .nameAndType 126 45), (0, u "min"), (10, .long 9223372036854775807), (1, .long 9223372036854775808), (7, .methodref 2 148), (0, .nameAndType 149 150), (0, u "sortingByte"), (0, u "(JI)I"), (36, .class_ 189), (1, u "com/example/tight_pivot/tightpivot/ValueTree$Box"), (15, u "BEST_FIRST"), (0, u "Ljava/util/Comparator;"), (0, u "LEAF_SIZE"), (12, u "outdate")] 37

def k2c0 : Code := { maxStack := 6, maxLocals := 5, code := prog_19_method_1_code, exceptionTable := #[], attributes := #[] }
def k2m0 : Method := { name := "<init>", desc := "(I[I[JZ)V", sig := { parameters := [.int, (.array .int), (.array .long), .boolean], returnType := none }, accessFlags := 0, code := some k2c0 }
def k2c1 : Code := { maxStack := 5, maxLocals := 12, code := prog_19_method_2_code, exceptionTable := #[], attributes := #[] }
def k2m1 : Method := { name := "<init>", desc := "(I[I[JZZ)V", sig := { parameters := [.int, (.array .int), (.array .long), .boolean, .boolean], returnType := none }, accessFlags := 2, code := some k2c1 }
def k2c2 : Code := { maxStack := 1, maxLocals := 1, code := prog_19_method_4_code, exceptionTable := #[], attributes := #[] }
def k2m2 : Method := { name := "documentCount", desc := "()I", sig := { parameters := [], returnType := some .int }, accessFlags := 0, code := some k2c2 }
def k2c3 : Code := { maxStack := 1, maxLocals := 1, code := prog_19_method_5_code, exceptionTable := #[], attributes := #[] }
def k2m3 : Method := { name := "currentCount", desc := "()I", sig := { parameters := [], returnType := some .int }, accessFlags := 0, code := some k2c3 }
def k2c4 : Code := { maxStack := 3, maxLocals := 2, code := prog_19_method_6_code, exceptionTable := #[], attributes := #[] }
def k2m4 : Method := { name := "outdate", desc := "(I)V", sig := { parameters := [.int], returnType := none }, accessFlags := 0, code := some k2c4 }
def k2c5 : Code := { maxStack := 9, maxLocals := 7, code := prog_19_method_8_code, exceptionTable := #[], attributes := #[] }
def k2m5 : Method := { name := "split", desc := "(IIII)I", sig := { parameters := [.int, .int, .int, .int], returnType := some .int }, accessFlags := 2, code := some k2c5 }
def k2c6 : Code := { maxStack := 5, maxLocals := 12, code := prog_19_method_9_code, exceptionTable := #[], attributes := #[] }
def k2m6 : Method := { name := "bound", desc := "(III)V", sig := { parameters := [.int, .int, .int], returnType := none }, accessFlags := 2, code := some k2c6 }
def k2c7 : Code := { maxStack := 5, maxLocals := 12, code := prog_19_method_10_code, exceptionTable := #[], attributes := #[] }
def k2m7 : Method := { name := "sortByCoordinate", desc := "()V", sig := { parameters := [], returnType := none }, accessFlags := 2, code := some k2c7 }
def k2c8 : Code := { maxStack := 4, maxLocals := 3, code := prog_19_method_11_code, exceptionTable := #[], attributes := #[] }
def k2m8 : Method := { name := "sortingByte", desc := "(JI)I", sig := { parameters := [.long, .int], returnType := some .int }, accessFlags := 10, code := some k2c8 }
/-- com/example/tight_pivot/tightpivot/ValueTree -/
def k2 : Class := { plain "com/example/tight_pivot/tightpivot/ValueTree" (some 0) with
  accessFlags := 48
  interfaces := #[]
  cf := some (fileOf pool2 2 #[.nestMembers #[112, 187]] #[{ accessFlags := 0, nameIndex := 5, descriptorIndex := 108, attributes := #[] }, { accessFlags := 2, nameIndex := 5, descriptorIndex := 6, attributes := #[] }, { accessFlags := 0, nameIndex := 62, descriptorIndex := 59, attributes := #[] }, { accessFlags := 0, nameIndex := 65, descriptorIndex := 59, attributes := #[] }, { accessFlags := 0, nameIndex := 220, descriptorIndex := 55, attributes := #[] }, { accessFlags := 2, nameIndex := 71, descriptorIndex := 72, attributes := #[] }, { accessFlags := 2, nameIndex := 119, descriptorIndex := 120, attributes := #[] }, { accessFlags := 2, nameIndex := 68, descriptorIndex := 11, attributes := #[] }, { accessFlags := 10, nameIndex := 149, descriptorIndex := 150, attributes := #[] }] 48 8 #[] #[{ accessFlags := 26, nameIndex := 207, descriptorIndex := 22, attributes := #[] }, { accessFlags := 26, nameIndex := 205, descriptorIndex := 206, attributes := #[] }, { accessFlags := 18, nameIndex := 21, descriptorIndex := 22, attributes := #[] }, { accessFlags := 18, nameIndex := 25, descriptorIndex := 26, attributes := #[] }, { accessFlags := 18, nameIndex := 29, descriptorIndex := 30, attributes := #[] }, { accessFlags := 18, nameIndex := 33, descriptorIndex := 34, attributes := #[] }, { accessFlags := 18, nameIndex := 39, descriptorIndex := 22, attributes := #[] }, { accessFlags := 18, nameIndex := 48, descriptorIndex := 30, attributes := #[] }, { accessFlags := 18, nameIndex := 51, descriptorIndex := 26, attributes := #[] }, { accessFlags := 18, nameIndex := 17, descriptorIndex := 18, attributes := #[] }, { accessFlags := 18, nameIndex := 62, descriptorIndex := 22, attributes := #[] }, { accessFlags := 2, nameIndex := 65, descriptorIndex := 22, attributes := #[] }])
  fields := #[{ name := "LEAF_SIZE", type := .int, accessFlags := 26, slot := 0, constantValue := 0 }, { name := "BEST_FIRST", type := (.object "java/util/Comparator"), accessFlags := 26, slot := 1, constantValue := 0 }, { name := "dimensions", type := .int, accessFlags := 18, slot := 0, constantValue := 0 }, { name := "docs", type := (.array .int), accessFlags := 18, slot := 1, constantValue := 0 }, { name := "coordinates", type := (.array .long), accessFlags := 18, slot := 2, constantValue := 0 }, { name := "repeatsDocs", type := .boolean, accessFlags := 18, slot := 3, constantValue := 0 }, { name := "leafLevel", type := .int, accessFlags := 18, slot := 4, constantValue := 0 }, { name := "bounds", type := (.array .long), accessFlags := 18, slot := 5, constantValue := 0 }, { name := "leastDocs", type := (.array .int), accessFlags := 18, slot := 6, constantValue := 0 }, { name := "current", type := (.object "java/util/BitSet"), accessFlags := 18, slot := 7, constantValue := 0 }, { name := "documentCount", type := .int, accessFlags := 18, slot := 8, constantValue := 0 }, { name := "currentCount", type := .int, accessFlags := 2, slot := 9, constantValue := 0 }]
  methods := #[k2m0, k2m1, k2m2, k2m3, k2m4, k2m5, k2m6, k2m7, k2m8]
  instanceTypes := #[.int, (.array .int), (.array .long), .boolean, .int, (.array .long), (.array .int), (.object "java/util/BitSet"), .int, .int]
  staticTypes := #[.int, (.object "java/util/Comparator")]
  resolved := Array.replicate 258 none
  statics := none }

def pool3 : Array CpInfo := pool [(1, .class_ 2), (0, u "java/lang/Cloneable"), (0, .class_ 4), (0, u "java/lang/Object")] 2

/-- java/lang/Cloneable -/
def k3 : Class := { plain "java/lang/Cloneable" (some 0) with
  accessFlags := 1537
  interfaces := #[]
  cf := some (fileOf pool3 1 #[] #[] 1537 3 #[] #[])
  fields := #[]
  methods := #[]
  instanceTypes := #[]
  staticTypes := #[]
  resolved := Array.replicate 7 none
  statics := none }

def pool4 : Array CpInfo := pool [(1, .class_ 2), (0, u "java/io/Serializable"), (0, .class_ 4), (0, u "java/lang/Object")] 2

/-- java/io/Serializable -/
def k4 : Class := { plain "java/io/Serializable" (some 0) with
  accessFlags := 1537
  interfaces := #[]
  cf := some (fileOf pool4 1 #[] #[] 1537 3 #[] #[])
  fields := #[]
  methods := #[]
  instanceTypes := #[]
  staticTypes := #[]
  resolved := Array.replicate 7 none
  statics := none }

def pool5 : Array CpInfo := pool [(1, .class_ 2), (0, u "java/util/BitSet"), (0, .fieldref 1 4), (0, .nameAndType 5 6), (0, u "$assertionsDisabled"), (0, u "Z"), (0, .fieldref 1 8), (0, .nameAndType 9 10), (0, u "wordsInUse"), (0, u "I"), (0, .fieldref 1 12), (0, .nameAndType 13 14), (0, u "words"), (0, u "[J"), (3, .nameAndType 19 20), (0, u "<init>"), (0, u "()V"), (0, .methodref 22 18), (0, .class_ 23), (0, u "java/lang/Object"), (0, .fieldref 1 25), (0, .nameAndType 26 6), (0, u "sizeIsSticky"), (0, .methodref 1 28), (0, .nameAndType 29 30), (0, u "initWords"), (0, u "(I)V"), (21, .methodref 1 53), (0, .nameAndType 54 55), (0, u "wordIndex"), (0, u "(I)I"), (0, .methodref 1 57), (0, .nameAndType 58 20), (0, u "checkInvariants"), (18, u "()I"), (2, u "get"), (58, .methodref 1 140), (0, .nameAndType 141 30), (0, u "ensureCapacity"), (13, .methodref 1 156), (0, .nameAndType 157 30), (0, u "expandTo"), (0, .methodref 1 159), (0, .nameAndType 160 20), (0, u "recalculateWordsInUse"), (4, .long 18446744073709551615), (3, u "set"), (2, u "clear"), (10, .class_ 185), (1, u "java/lang/Long"), (1, u "(J)I"), (8, .methodref 183 197), (0, .nameAndType 198 187), (0, u "bitCount"), (56, u "cardinality"), (13, .class_ 270), (0, u "java/util/BitSet$1BitSetSpliterator"), (22, u "serialPersistentFields"), (0, u "[Ljava/io/ObjectStreamField;"), (0, .class_ 296), (0, u "java/lang/Cloneable"), (0, .class_ 298), (0, u "java/io/Serializable"), (0, u "ADDRESS_BITS_PER_WORD"), (2, u "BITS_PER_WORD"), (1, u "BIT_INDEX_MASK"), (1, u "WORD_MASK"), (0, u "J"), (0, u "serialVersionUID"), (42, u "(I)Z")] 65

def k5c0 : Code := { maxStack := 2, maxLocals := 1, code := jdk_92_method_1_code, exceptionTable := #[], attributes := #[] }
def k5m0 : Method := { name := "wordIndex", desc := "(I)I", sig := { parameters := [.int], returnType := some .int }, accessFlags := 10, code := some k5c0 }
def k5c1 : Code := { maxStack := 4, maxLocals := 1, code := jdk_92_method_2_code, exceptionTable := #[], attributes := #[] }
def k5m1 : Method := { name := "checkInvariants", desc := "()V", sig := { parameters := [], returnType := none }, accessFlags := 2, code := some k5c1 }
def k5c2 : Code := { maxStack := 4, maxLocals := 2, code := jdk_92_method_3_code, exceptionTable := #[], attributes := #[] }
def k5m2 : Method := { name := "recalculateWordsInUse", desc := "()V", sig := { parameters := [], returnType := none }, accessFlags := 2, code := some k5c2 }
def k5c3 : Code := { maxStack := 2, maxLocals := 1, code := jdk_92_method_4_code, exceptionTable := #[], attributes := #[] }
def k5m3 : Method := { name := "<init>", desc := "()V", sig := { parameters := [], returnType := none }, accessFlags := 1, code := some k5c3 }
def k5c4 : Code := { maxStack := 3, maxLocals := 2, code := jdk_92_method_6_code, exceptionTable := #[], attributes := #[] }
def k5m4 : Method := { name := "initWords", desc := "(I)V", sig := { parameters := [.int], returnType := none }, accessFlags := 2, code := some k5c4 }
def k5c5 : Code := { maxStack := 3, maxLocals := 3, code := jdk_92_method_14_code, exceptionTable := #[], attributes := #[] }
def k5m5 : Method := { name := "ensureCapacity", desc := "(I)V", sig := { parameters := [.int], returnType := none }, accessFlags := 2, code := some k5c5 }
def k5c6 : Code := { maxStack := 2, maxLocals := 3, code := jdk_92_method_15_code, exceptionTable := #[], attributes := #[] }
def k5m6 : Method := { name := "expandTo", desc := "(I)V", sig := { parameters := [.int], returnType := none }, accessFlags := 2, code := some k5c6 }
def k5c7 : Code := { maxStack := 7, maxLocals := 3, code := jdk_92_method_19_code, exceptionTable := #[], attributes := #[] }
def k5m7 : Method := { name := "set", desc := "(I)V", sig := { parameters := [.int], returnType := none }, accessFlags := 1, code := some k5c7 }
def k5c8 : Code := { maxStack := 8, maxLocals := 3, code := jdk_92_method_23_code, exceptionTable := #[], attributes := #[] }
def k5m8 : Method := { name := "clear", desc := "(I)V", sig := { parameters := [.int], returnType := none }, accessFlags := 1, code := some k5c8 }
def k5c9 : Code := { maxStack := 5, maxLocals := 3, code := jdk_92_method_26_code, exceptionTable := #[], attributes := #[] }
def k5m9 : Method := { name := "get", desc := "(I)Z", sig := { parameters := [.int], returnType := some .boolean }, accessFlags := 1, code := some k5c9 }
def k5c10 : Code := { maxStack := 3, maxLocals := 3, code := jdk_92_method_35_code, exceptionTable := #[], attributes := #[] }
def k5m10 : Method := { name := "cardinality", desc := "()I", sig := { parameters := [], returnType := some .int }, accessFlags := 1, code := some k5c10 }
/-- java/util/BitSet -/
def k5 : Class := { plain "java/util/BitSet" (some 0) with
  accessFlags := 33
  interfaces := #[3, 4]
  cf := some (fileOf pool5 1 #[.nestMembers #[269]] #[{ accessFlags := 10, nameIndex := 54, descriptorIndex := 55, attributes := #[] }, { accessFlags := 2, nameIndex := 58, descriptorIndex := 20, attributes := #[] }, { accessFlags := 2, nameIndex := 160, descriptorIndex := 20, attributes := #[] }, { accessFlags := 1, nameIndex := 19, descriptorIndex := 20, attributes := #[] }, { accessFlags := 2, nameIndex := 29, descriptorIndex := 30, attributes := #[] }, { accessFlags := 2, nameIndex := 141, descriptorIndex := 30, attributes := #[] }, { accessFlags := 2, nameIndex := 157, descriptorIndex := 30, attributes := #[] }, { accessFlags := 1, nameIndex := 169, descriptorIndex := 30, attributes := #[] }, { accessFlags := 1, nameIndex := 172, descriptorIndex := 30, attributes := #[] }, { accessFlags := 1, nameIndex := 80, descriptorIndex := 351, attributes := #[] }, { accessFlags := 1, nameIndex := 255, descriptorIndex := 77, attributes := #[] }] 33 22 #[295, 297] #[{ accessFlags := 26, nameIndex := 299, descriptorIndex := 10, attributes := #[] }, { accessFlags := 26, nameIndex := 302, descriptorIndex := 10, attributes := #[] }, { accessFlags := 26, nameIndex := 304, descriptorIndex := 10, attributes := #[] }, { accessFlags := 26, nameIndex := 306, descriptorIndex := 307, attributes := #[] }, { accessFlags := 26, nameIndex := 293, descriptorIndex := 294, attributes := #[] }, { accessFlags := 2, nameIndex := 13, descriptorIndex := 14, attributes := #[] }, { accessFlags := 130, nameIndex := 9, descriptorIndex := 10, attributes := #[] }, { accessFlags := 130, nameIndex := 26, descriptorIndex := 6, attributes := #[] }, { accessFlags := 26, nameIndex := 308, descriptorIndex := 307, attributes := #[] }, { accessFlags := 4120, nameIndex := 5, descriptorIndex := 6, attributes := #[] }])
  fields := #[{ name := "ADDRESS_BITS_PER_WORD", type := .int, accessFlags := 26, slot := 0, constantValue := 0 }, { name := "BITS_PER_WORD", type := .int, accessFlags := 26, slot := 1, constantValue := 0 }, { name := "BIT_INDEX_MASK", type := .int, accessFlags := 26, slot := 2, constantValue := 0 }, { name := "WORD_MASK", type := .long, accessFlags := 26, slot := 3, constantValue := 0 }, { name := "serialPersistentFields", type := (.array (.object "java/io/ObjectStreamField")), accessFlags := 26, slot := 4, constantValue := 0 }, { name := "words", type := (.array .long), accessFlags := 2, slot := 0, constantValue := 0 }, { name := "wordsInUse", type := .int, accessFlags := 130, slot := 1, constantValue := 0 }, { name := "sizeIsSticky", type := .boolean, accessFlags := 130, slot := 2, constantValue := 0 }, { name := "serialVersionUID", type := .long, accessFlags := 26, slot := 5, constantValue := 0 }, { name := "$assertionsDisabled", type := .boolean, accessFlags := 4120, slot := 6, constantValue := 0 }]
  methods := #[k5m0, k5m1, k5m2, k5m3, k5m4, k5m5, k5m6, k5m7, k5m8, k5m9, k5m10]
  instanceTypes := #[(.array .long), .int, .boolean]
  staticTypes := #[.int, .int, .int, .long, (.array (.object "java/io/ObjectStreamField")), .long, .boolean]
  resolved := Array.replicate 417 none
  statics := some 0 }

def pool6 : Array CpInfo := pool [(1, .class_ 2), (0, u "java/lang/Math"), (1, .class_ 6), (1, u "java/lang/Object"), (0, u "<init>"), (0, u "()V"), (89, .class_ 100), (1, u "java/lang/Math$RandomNumberGeneratorHolder"), (19, u "multiplyExact"), (51, u "negativeZeroFloatBits"), (0, u "J"), (2, u "negativeZeroDoubleBits"), (24, u "min"), (43, u "$assertionsDisabled"), (0, u "Z"), (88, u "(II)I"), (2, u "twoToTheDoubleScaleDown"), (0, u "D"), (4, u "twoToTheDoubleScaleUp"), (9, u "E"), (3, u "PI"), (2, u "TAU"), (2, u "DEGREES_TO_RADIANS"), (0, u "RADIANS_TO_DEGREES")] 94

def k6m0 : Method := { name := "<init>", desc := "()V", sig := { parameters := [], returnType := none }, accessFlags := 2, code := none }
def k6c1 : Code := { maxStack := 4, maxLocals := 4, code := jdk_29_method_28_code, exceptionTable := #[], attributes := #[] }
def k6m1 : Method := { name := "multiplyExact", desc := "(II)I", sig := { parameters := [.int, .int], returnType := some .int }, accessFlags := 9, code := some k6c1 }
def k6c2 : Code := { maxStack := 2, maxLocals := 2, code := jdk_29_method_69_code, exceptionTable := #[], attributes := #[] }
def k6m2 : Method := { name := "min", desc := "(II)I", sig := { parameters := [.int, .int], returnType := some .int }, accessFlags := 9, code := some k6c2 }
/-- java/lang/Math -/
def k6 : Class := { plain "java/lang/Math" (some 0) with
  accessFlags := 49
  interfaces := #[]
  cf := some (fileOf pool6 1 #[.nestMembers #[98]] #[{ accessFlags := 2, nameIndex := 7, descriptorIndex := 8, attributes := #[] }, { accessFlags := 9, nameIndex := 120, descriptorIndex := 335, attributes := #[] }, { accessFlags := 9, nameIndex := 201, descriptorIndex := 335, attributes := #[] }] 49 4 #[] #[{ accessFlags := 25, nameIndex := 354, descriptorIndex := 339, attributes := #[] }, { accessFlags := 25, nameIndex := 358, descriptorIndex := 339, attributes := #[] }, { accessFlags := 25, nameIndex := 361, descriptorIndex := 339, attributes := #[] }, { accessFlags := 26, nameIndex := 364, descriptorIndex := 339, attributes := #[] }, { accessFlags := 26, nameIndex := 365, descriptorIndex := 339, attributes := #[] }, { accessFlags := 26, nameIndex := 172, descriptorIndex := 173, attributes := #[] }, { accessFlags := 26, nameIndex := 176, descriptorIndex := 173, attributes := #[] }, { accessFlags := 8, nameIndex := 344, descriptorIndex := 339, attributes := #[] }, { accessFlags := 8, nameIndex := 338, descriptorIndex := 339, attributes := #[] }, { accessFlags := 4120, nameIndex := 245, descriptorIndex := 246, attributes := #[] }])
  fields := #[{ name := "E", type := .double, accessFlags := 25, slot := 0, constantValue := 0 }, { name := "PI", type := .double, accessFlags := 25, slot := 1, constantValue := 0 }, { name := "TAU", type := .double, accessFlags := 25, slot := 2, constantValue := 0 }, { name := "DEGREES_TO_RADIANS", type := .double, accessFlags := 26, slot := 3, constantValue := 0 }, { name := "RADIANS_TO_DEGREES", type := .double, accessFlags := 26, slot := 4, constantValue := 0 }, { name := "negativeZeroFloatBits", type := .long, accessFlags := 26, slot := 5, constantValue := 0 }, { name := "negativeZeroDoubleBits", type := .long, accessFlags := 26, slot := 6, constantValue := 0 }, { name := "twoToTheDoubleScaleUp", type := .double, accessFlags := 8, slot := 7, constantValue := 0 }, { name := "twoToTheDoubleScaleDown", type := .double, accessFlags := 8, slot := 8, constantValue := 0 }, { name := "$assertionsDisabled", type := .boolean, accessFlags := 4120, slot := 9, constantValue := 0 }]
  methods := #[k6m0, k6m1, k6m2]
  instanceTypes := #[]
  staticTypes := #[.double, .double, .double, .double, .double, .long, .long, .double, .double, .boolean]
  resolved := Array.replicate 460 none
  statics := none }

def pool7 : Array CpInfo := pool [(2, .class_ 4), (1, u "java/lang/Object"), (0, u "<init>"), (0, u "()V"), (1, .class_ 10), (1, u "java/lang/Number"), (2, .class_ 14), (0, u "java/io/Serializable"), (0, u "serialVersionUID"), (0, u "J")] 20

def k7m0 : Method := { name := "<init>", desc := "()V", sig := { parameters := [], returnType := none }, accessFlags := 1, code := none }
/-- java/lang/Number -/
def k7 : Class := { plain "java/lang/Number" (some 0) with
  accessFlags := 1057
  interfaces := #[4]
  cf := some (fileOf pool7 8 #[] #[{ accessFlags := 1, nameIndex := 5, descriptorIndex := 6, attributes := #[] }] 1057 2 #[13] #[{ accessFlags := 26, nameIndex := 15, descriptorIndex := 16, attributes := #[] }])
  fields := #[{ name := "serialVersionUID", type := .long, accessFlags := 26, slot := 0, constantValue := 0 }]
  methods := #[k7m0]
  instanceTypes := #[]
  staticTypes := #[.long]
  resolved := Array.replicate 37 none
  statics := none }

def pool8 : Array CpInfo := pool [(1, .class_ 2), (0, u "java/lang/Comparable"), (0, .class_ 4), (0, u "java/lang/Object")] 7

/-- java/lang/Comparable -/
def k8 : Class := { plain "java/lang/Comparable" (some 0) with
  accessFlags := 1537
  interfaces := #[]
  cf := some (fileOf pool8 1 #[] #[] 1537 3 #[] #[])
  fields := #[]
  methods := #[]
  instanceTypes := #[]
  staticTypes := #[]
  resolved := Array.replicate 12 none
  statics := none }

def pool9 : Array CpInfo := pool [(1, .class_ 2), (0, u "java/lang/constant/Constable"), (0, .class_ 4), (0, u "java/lang/Object")] 6

/-- java/lang/constant/Constable -/
def k9 : Class := { plain "java/lang/constant/Constable" (some 0) with
  accessFlags := 1537
  interfaces := #[]
  cf := some (fileOf pool9 1 #[] #[] 1537 3 #[] #[])
  fields := #[]
  methods := #[]
  instanceTypes := #[]
  staticTypes := #[]
  resolved := Array.replicate 11 none
  statics := none }

def pool10 : Array CpInfo := pool [(1, .class_ 2), (0, u "java/lang/constant/ConstantDesc"), (0, .class_ 4), (0, u "java/lang/Object")] 32

/-- java/lang/constant/ConstantDesc -/
def k10 : Class := { plain "java/lang/constant/ConstantDesc" (some 0) with
  accessFlags := 1537
  interfaces := #[]
  cf := some (fileOf pool10 1 #[] #[] 1537 3 #[] #[])
  fields := #[]
  methods := #[]
  instanceTypes := #[]
  staticTypes := #[]
  resolved := Array.replicate 37 none
  statics := none }

def pool11 : Array CpInfo := pool [(1, .class_ 2), (0, u "java/lang/Long"), (98, u "(J)I"), (133, .class_ 237), (1, u "java/lang/Long$LongCache"), (33, .class_ 272), (0, u "java/lang/Number"), (2, u "value"), (0, u "J"), (37, .long 6148914691236517205), (1, .long 3689348814741910323), (1, .long 1085102592571150095), (42, u "TYPE"), (0, u "Ljava/lang/Class;"), (0, .class_ 364), (0, u "java/lang/Comparable"), (0, .class_ 366), (0, u "java/lang/constant/Constable"), (0, .class_ 368), (0, u "java/lang/constant/ConstantDesc"), (0, u "MIN_VALUE"), (1, u "MAX_VALUE"), (4, u "SIZE"), (0, u "I"), (1, u "BYTES"), (1, u "serialVersionUID"), (94, u "bitCount")] 47

def k11c0 : Code := { maxStack := 6, maxLocals := 2, code := jdk_35_method_50_code, exceptionTable := #[], attributes := #[] }
def k11m0 : Method := { name := "bitCount", desc := "(J)I", sig := { parameters := [.long], returnType := some .int }, accessFlags := 9, code := some k11c0 }
/-- java/lang/Long -/
def k11 : Class := { plain "java/lang/Long" (some 7) with
  accessFlags := 49
  interfaces := #[8, 9, 10]
  cf := some (fileOf pool11 1 #[.nestMembers #[235]] #[{ accessFlags := 9, nameIndex := 476, descriptorIndex := 101, attributes := #[] }] 49 271 #[363, 365, 367] #[{ accessFlags := 25, nameIndex := 369, descriptorIndex := 276, attributes := #[] }, { accessFlags := 25, nameIndex := 371, descriptorIndex := 276, attributes := #[] }, { accessFlags := 25, nameIndex := 361, descriptorIndex := 362, attributes := #[] }, { accessFlags := 18, nameIndex := 275, descriptorIndex := 276, attributes := #[] }, { accessFlags := 25, nameIndex := 376, descriptorIndex := 377, attributes := #[] }, { accessFlags := 25, nameIndex := 379, descriptorIndex := 377, attributes := #[] }, { accessFlags := 26, nameIndex := 381, descriptorIndex := 276, attributes := #[] }])
  fields := #[{ name := "MIN_VALUE", type := .long, accessFlags := 25, slot := 0, constantValue := 0 }, { name := "MAX_VALUE", type := .long, accessFlags := 25, slot := 1, constantValue := 0 }, { name := "TYPE", type := (.object "java/lang/Class"), accessFlags := 25, slot := 2, constantValue := 0 }, { name := "value", type := .long, accessFlags := 18, slot := 0, constantValue := 0 }, { name := "SIZE", type := .int, accessFlags := 25, slot := 3, constantValue := 0 }, { name := "BYTES", type := .int, accessFlags := 25, slot := 4, constantValue := 0 }, { name := "serialVersionUID", type := .long, accessFlags := 26, slot := 5, constantValue := 0 }]
  methods := #[k11m0]
  instanceTypes := #[.long]
  staticTypes := #[.long, .long, (.object "java/lang/Class"), .int, .int, .long]
  resolved := Array.replicate 524 none
  statics := none }

def pool12 : Array CpInfo := pool [(2, .class_ 4), (1, u "java/lang/Object"), (0, u "<init>"), (0, u "()V"), (1, .class_ 10), (1, u "java/lang/System"), (0, u "allowSecurityManager"), (0, u "I"), (16, u "cons"), (0, u "Ljava/io/Console;"), (77, .class_ 110), (1, u "java/lang/System$CallersHolder"), (43, u "initialErrStream"), (0, u "Ljava/io/PrintStream;"), (19, u "security"), (0, u "Ljava/lang/SecurityManager;"), (31, .class_ 209), (0, u "java/lang/System$1"), (7, u "props"), (0, u "Ljava/util/Properties;"), (2, u "lineSeparator"), (0, u "Ljava/lang/String;"), (96, .class_ 321), (1, u "java/lang/System$LoggerFinder"), (5, .class_ 328), (0, u "java/lang/System$Logger"), (67, u "err"), (2, u "out"), (91, u "notSupportedJnuEncoding"), (15, u "in"), (17, u "initialIn"), (0, u "Ljava/io/InputStream;"), (35, u "bootLayer"), (0, u "Ljava/lang/ModuleLayer;"), (99, .class_ 664), (0, u "java/lang/System$2"), (9, u "NEVER"), (2, u "MAYBE"), (49, u "arraycopy"), (0, u "(Ljava/lang/Object;ILjava/lang/Object;II)V"), (72, .class_ 802), (0, u "java/lang/System$Logger$Level")] 31

def k12m0 : Method := { name := "<init>", desc := "()V", sig := { parameters := [], returnType := none }, accessFlags := 2, code := none }
def k12m1 : Method := { name := "arraycopy", desc := "(Ljava/lang/Object;ILjava/lang/Object;II)V", sig := { parameters := [(.object "java/lang/Object"), .int, (.object "java/lang/Object"), .int, .int], returnType := none }, accessFlags := 265, code := none }
/-- java/lang/System -/
def k12 : Class := { plain "java/lang/System" (some 0) with
  accessFlags := 49
  interfaces := #[]
  cf := some (fileOf pool12 8 #[.nestMembers #[319, 327, 801, 108, 663, 208]] #[{ accessFlags := 2, nameIndex := 5, descriptorIndex := 6, attributes := #[] }, { accessFlags := 265, nameIndex := 727, descriptorIndex := 728, attributes := #[] }] 49 2 #[] #[{ accessFlags := 25, nameIndex := 507, descriptorIndex := 526, attributes := #[] }, { accessFlags := 25, nameIndex := 399, descriptorIndex := 155, attributes := #[] }, { accessFlags := 25, nameIndex := 396, descriptorIndex := 155, attributes := #[] }, { accessFlags := 10, nameIndex := 525, descriptorIndex := 526, attributes := #[] }, { accessFlags := 26, nameIndex := 674, descriptorIndex := 12, attributes := #[] }, { accessFlags := 26, nameIndex := 677, descriptorIndex := 12, attributes := #[] }, { accessFlags := 10, nameIndex := 11, descriptorIndex := 12, attributes := #[] }, { accessFlags := 74, nameIndex := 175, descriptorIndex := 176, attributes := #[] }, { accessFlags := 10, nameIndex := 491, descriptorIndex := 222, attributes := #[] }, { accessFlags := 74, nameIndex := 29, descriptorIndex := 30, attributes := #[] }, { accessFlags := 74, nameIndex := 154, descriptorIndex := 155, attributes := #[] }, { accessFlags := 10, nameIndex := 217, descriptorIndex := 218, attributes := #[] }, { accessFlags := 10, nameIndex := 221, descriptorIndex := 222, attributes := #[] }, { accessFlags := 8, nameIndex := 562, descriptorIndex := 563, attributes := #[] }])
  fields := #[{ name := "in", type := (.object "java/io/InputStream"), accessFlags := 25, slot := 0, constantValue := 0 }, { name := "out", type := (.object "java/io/PrintStream"), accessFlags := 25, slot := 1, constantValue := 0 }, { name := "err", type := (.object "java/io/PrintStream"), accessFlags := 25, slot := 2, constantValue := 0 }, { name := "initialIn", type := (.object "java/io/InputStream"), accessFlags := 10, slot := 3, constantValue := 0 }, { name := "NEVER", type := .int, accessFlags := 26, slot := 4, constantValue := 0 }, { name := "MAYBE", type := .int, accessFlags := 26, slot := 5, constantValue := 0 }, { name := "allowSecurityManager", type := .int, accessFlags := 10, slot := 6, constantValue := 0 }, { name := "security", type := (.object "java/lang/SecurityManager"), accessFlags := 74, slot := 7, constantValue := 0 }, { name := "notSupportedJnuEncoding", type := (.object "java/lang/String"), accessFlags := 10, slot := 8, constantValue := 0 }, { name := "cons", type := (.object "java/io/Console"), accessFlags := 74, slot := 9, constantValue := 0 }, { name := "initialErrStream", type := (.object "java/io/PrintStream"), accessFlags := 74, slot := 10, constantValue := 0 }, { name := "props", type := (.object "java/util/Properties"), accessFlags := 10, slot := 11, constantValue := 0 }, { name := "lineSeparator", type := (.object "java/lang/String"), accessFlags := 10, slot := 12, constantValue := 0 }, { name := "bootLayer", type := (.object "java/lang/ModuleLayer"), accessFlags := 8, slot := 13, constantValue := 0 }]
  methods := #[k12m0, k12m1]
  instanceTypes := #[]
  staticTypes := #[(.object "java/io/InputStream"), (.object "java/io/PrintStream"), (.object "java/io/PrintStream"), (.object "java/io/InputStream"), .int, .int, .int, (.object "java/lang/SecurityManager"), (.object "java/lang/String"), (.object "java/io/Console"), (.object "java/io/PrintStream"), (.object "java/util/Properties"), (.object "java/lang/String"), (.object "java/lang/ModuleLayer")]
  resolved := Array.replicate 834 none
  statics := none }

/-- the primitive byte -/
def k13 : Class := { plain "byte" none with kind := .primitive 'B', accessFlags := 0x411 }
/-- [B -/
def k14 : Class := { plain "[B" (some 0) with kind := .array 13 .byte, interfaces := #[3, 4], accessFlags := 1041 }

/-- the primitive int -/
def k15 : Class := { plain "int" none with kind := .primitive 'I', accessFlags := 0x411 }
/-- [I -/
def k16 : Class := { plain "[I" (some 0) with kind := .array 15 .int, interfaces := #[3, 4], accessFlags := 1041 }

/-- the primitive long -/
def k17 : Class := { plain "long" none with kind := .primitive 'J', accessFlags := 0x411 }
/-- [J -/
def k18 : Class := { plain "[J" (some 0) with kind := .array 17 .long, interfaces := #[3, 4], accessFlags := 1041 }

def heap : Heap := #[{ cls := 5, slots := #[.int 0, .int 0, .int 0, .long 0, .null, .long 0, .int 1], vm := .statics 5 }]
def classes : Array Class := #[k0, k1, k2, k3, k4, k5, k6, k7, k8, k9, k10, k11, k12, k13, k14, k15, k16, k17, k18]
def interned : List (Array UInt16 × Addr) := []
def slotsUsed : Nat := 7
def theMethod : MethodId := ⟨1, 1⟩
def args0 : Array Value := #[.int 8, .int 1, .int 2, .long 5, .long 3, .long 9]
def aboutOver (below : List Frame) : State where
  vm := { classes := classes, interned := interned.toArray }
  heap := heap
  slotsUsed := slotsUsed
  threads := #[{ frames := .invoking theMethod args0 :: below }]
def below0 : List Frame := [.native { method := ⟨0, 0⟩, args := #[] }]
def about1 : State := aboutOver below0
def p0 : Program := .bare "" "" ""
def e0 : Env := launch0.env 0 0 0
theorem w_frames : about1.frames = Frame.invoking theMethod args0 :: below0 := rfl
set_option maxRecDepth 65536 in
theorem w_args : argsFit about1.vm theMethod args0 = true := by decide +kernel
set_option maxRecDepth 65536 in
theorem w_heap : heapFits about1 = true := by decide +kernel
set_option maxRecDepth 65536 in
theorem w_runnable : about1.curStatus? = some .runnable := by decide +kernel
set_option maxRecDepth 65536 in
theorem w_alone : about1.alone = true := by decide +kernel
set_option maxRecDepth 65536 in
theorem w_named : about1.methodNamed? x = some theMethod := by decide +kernel
set_option maxRecDepth 65536 in
theorem w_hears : about1.hears theMethod below0 = true := by decide +kernel
set_option maxRecDepth 65536 in
theorem w_ripe : about1.ripe theMethod args0 below0 = true := by decide +kernel
theorem w_running : about1.status = .running := rfl
set_option maxRecDepth 65536 in
theorem w_room : about1.hasRoom e0.platform room_1 = true :=
  launch0.hasRoom_least _ room_1 (by decide +kernel) (by decide +kernel) (by decide +kernel) (by decide +kernel) (by decide +kernel) (by decide +kernel)
theorem allAtoms_all (ts : List Jvm.Cond) (a : Array Jvm.Value) (st : Jvm.State) : (allAtoms ts).before a st = ts.all (fun c => c.before a st) := by
  induction ts with
  | nil => rfl
  | cons c t ih =>
    show (Jvm.Cond.and c (allAtoms t)).before a st = _
    rw [Jvm.Cond.before_and, ih, List.all_cons]
def words1 : List Jvm.Cond := Jvm.Cond.code x code maxLocals ret :: tables_1
/-- a 'code' word, met by the world's own term for the bytes: nothing is compared byte by byte -/
theorem code_word {y : MethodName} {bytes : ByteArray} {mx : Nat} {rt : Option FieldType} {a : Array Value} {s : State} {m : MethodId} {meth : Method} {c : Code} (h1 : s.methodNamed? y = some m) (h2 : s.vm.method? m = some meth) (h3 : meth.code = some c) (h4 : c.code = bytes)
    (h5 : (c.maxLocals == mx && c.exceptionTable.isEmpty && decide (c.maxStack ≤ mostOperands) && decide (meth.sig.returnType = rt) && !meth.locks && decide (parseMethodDescriptor y.desc = some meth.sig)) = true) : (Jvm.Cond.code y bytes mx rt).before a s = true := by
  simp only [Bool.and_eq_true, beq_iff_eq, Bool.not_eq_true', decide_eq_true_eq] at h5
  obtain ⟨⟨⟨⟨⟨g1, g2⟩, g3⟩, g4⟩, g5⟩, g6⟩ := h5
  simp [Cond.before, Cond.holds, Cond.value, h1, h2, h3, h4, g1, g2, g3, g4, g5, g6]
def isCode : Jvm.Cond → Bool
  | .code _ _ _ _ => true
  | _ => false
theorem all_split {L : List Jvm.Cond} {P : Jvm.Cond → Bool} (h1 : L.all (fun c => isCode c || P c) = true) (h2 : ∀ c ∈ L.filter isCode, P c = true) : L.all P = true := by
  refine List.all_eq_true.mpr fun c hc => ?_
  have h := List.all_eq_true.mp h1 c hc
  rcases Bool.eq_false_or_eq_true (isCode c) with hi | hi
  · exact h2 c (List.mem_filter.mpr ⟨hc, hi⟩)
  · simpa [hi] using h
set_option maxRecDepth 65536 in
theorem w_c0 : (Jvm.Cond.code x code maxLocals ret).before args0 about1 = true := code_word (m := ⟨1, 1⟩) (meth := k1m1) (c := k1c1) (by decide +kernel) rfl rfl rfl (by decide +kernel)
set_option maxRecDepth 65536 in
theorem w_c1 : (Jvm.Cond.code ({ cls := "com/example/tight_pivot/tightpivot/ValueTree", name := "<init>", desc := "(I[I[JZ)V" } : Jvm.MethodName) prog_19_method_1_code (5 : Nat) (Option.none : Option Jvm.ClassFile.FieldType)).before args0 about1 = true := code_word (m := ⟨2, 0⟩) (meth := k2m0) (c := k2c0) (by decide +kernel) rfl rfl rfl (by decide +kernel)
set_option maxRecDepth 65536 in
theorem w_c2 : (Jvm.Cond.code ({ cls := "com/example/tight_pivot/tightpivot/ValueTree", name := "<init>", desc := "(I[I[JZZ)V" } : Jvm.MethodName) prog_19_method_2_code (12 : Nat) (Option.none : Option Jvm.ClassFile.FieldType)).before args0 about1 = true := code_word (m := ⟨2, 1⟩) (meth := k2m1) (c := k2c1) (by decide +kernel) rfl rfl rfl (by decide +kernel)
set_option maxRecDepth 65536 in
theorem w_c3 : (Jvm.Cond.code ({ cls := "java/lang/Object", name := "<init>", desc := "()V" } : Jvm.MethodName) object_method_1_code (1 : Nat) (Option.none : Option Jvm.ClassFile.FieldType)).before args0 about1 = true := code_word (m := ⟨0, 0⟩) (meth := k0m0) (c := k0c0) (by decide +kernel) rfl rfl rfl (by decide +kernel)
set_option maxRecDepth 65536 in
theorem w_c4 : (Jvm.Cond.code ({ cls := "java/util/BitSet", name := "<init>", desc := "()V" } : Jvm.MethodName) jdk_92_method_4_code (1 : Nat) (Option.none : Option Jvm.ClassFile.FieldType)).before args0 about1 = true := code_word (m := ⟨5, 3⟩) (meth := k5m3) (c := k5c3) (by decide +kernel) rfl rfl rfl (by decide +kernel)
set_option maxRecDepth 65536 in
theorem w_c5 : (Jvm.Cond.code ({ cls := "java/util/BitSet", name := "initWords", desc := "(I)V" } : Jvm.MethodName) jdk_92_method_6_code (2 : Nat) (Option.none : Option Jvm.ClassFile.FieldType)).before args0 about1 = true := code_word (m := ⟨5, 4⟩) (meth := k5m4) (c := k5c4) (by decide +kernel) rfl rfl rfl (by decide +kernel)
set_option maxRecDepth 65536 in
theorem w_c6 : (Jvm.Cond.code ({ cls := "java/util/BitSet", name := "wordIndex", desc := "(I)I" } : Jvm.MethodName) jdk_92_method_1_code (1 : Nat) (Option.some Jvm.ClassFile.FieldType.int)).before args0 about1 = true := code_word (m := ⟨5, 0⟩) (meth := k5m0) (c := k5c0) (by decide +kernel) rfl rfl rfl (by decide +kernel)
set_option maxRecDepth 65536 in
theorem w_c7 : (Jvm.Cond.code ({ cls := "java/lang/Math", name := "multiplyExact", desc := "(II)I" } : Jvm.MethodName) jdk_29_method_28_code (4 : Nat) (Option.some Jvm.ClassFile.FieldType.int)).before args0 about1 = true := code_word (m := ⟨6, 1⟩) (meth := k6m1) (c := k6c1) (by decide +kernel) rfl rfl rfl (by decide +kernel)
set_option maxRecDepth 65536 in
theorem w_c8 : (Jvm.Cond.code ({ cls := "java/util/BitSet", name := "set", desc := "(I)V" } : Jvm.MethodName) jdk_92_method_19_code (3 : Nat) (Option.none : Option Jvm.ClassFile.FieldType)).before args0 about1 = true := code_word (m := ⟨5, 7⟩) (meth := k5m7) (c := k5c7) (by decide +kernel) rfl rfl rfl (by decide +kernel)
set_option maxRecDepth 65536 in
theorem w_c9 : (Jvm.Cond.code ({ cls := "java/util/BitSet", name := "expandTo", desc := "(I)V" } : Jvm.MethodName) jdk_92_method_15_code (3 : Nat) (Option.none : Option Jvm.ClassFile.FieldType)).before args0 about1 = true := code_word (m := ⟨5, 6⟩) (meth := k5m6) (c := k5c6) (by decide +kernel) rfl rfl rfl (by decide +kernel)
set_option maxRecDepth 65536 in
theorem w_c10 : (Jvm.Cond.code ({ cls := "java/util/BitSet", name := "ensureCapacity", desc := "(I)V" } : Jvm.MethodName) jdk_92_method_14_code (3 : Nat) (Option.none : Option Jvm.ClassFile.FieldType)).before args0 about1 = true := code_word (m := ⟨5, 5⟩) (meth := k5m5) (c := k5c5) (by decide +kernel) rfl rfl rfl (by decide +kernel)
set_option maxRecDepth 65536 in
theorem w_c11 : (Jvm.Cond.code ({ cls := "java/util/BitSet", name := "checkInvariants", desc := "()V" } : Jvm.MethodName) jdk_92_method_2_code (1 : Nat) (Option.none : Option Jvm.ClassFile.FieldType)).before args0 about1 = true := code_word (m := ⟨5, 1⟩) (meth := k5m1) (c := k5c1) (by decide +kernel) rfl rfl rfl (by decide +kernel)
set_option maxRecDepth 65536 in
theorem w_c12 : (Jvm.Cond.code ({ cls := "java/util/BitSet", name := "cardinality", desc := "()I" } : Jvm.MethodName) jdk_92_method_35_code (3 : Nat) (Option.some Jvm.ClassFile.FieldType.int)).before args0 about1 = true := code_word (m := ⟨5, 10⟩) (meth := k5m10) (c := k5c10) (by decide +kernel) rfl rfl rfl (by decide +kernel)
set_option maxRecDepth 65536 in
theorem w_c13 : (Jvm.Cond.code ({ cls := "java/lang/Long", name := "bitCount", desc := "(J)I" } : Jvm.MethodName) jdk_35_method_50_code (2 : Nat) (Option.some Jvm.ClassFile.FieldType.int)).before args0 about1 = true := code_word (m := ⟨11, 0⟩) (meth := k11m0) (c := k11c0) (by decide +kernel) rfl rfl rfl (by decide +kernel)
set_option maxRecDepth 65536 in
theorem w_c14 : (Jvm.Cond.code ({ cls := "com/example/tight_pivot/tightpivot/ValueTree", name := "sortByCoordinate", desc := "()V" } : Jvm.MethodName) prog_19_method_10_code (12 : Nat) (Option.none : Option Jvm.ClassFile.FieldType)).before args0 about1 = true := code_word (m := ⟨2, 7⟩) (meth := k2m7) (c := k2c7) (by decide +kernel) rfl rfl rfl (by decide +kernel)
set_option maxRecDepth 65536 in
theorem w_c15 : (Jvm.Cond.code ({ cls := "com/example/tight_pivot/tightpivot/ValueTree", name := "sortingByte", desc := "(JI)I" } : Jvm.MethodName) prog_19_method_11_code (3 : Nat) (Option.some Jvm.ClassFile.FieldType.int)).before args0 about1 = true := code_word (m := ⟨2, 8⟩) (meth := k2m8) (c := k2c8) (by decide +kernel) rfl rfl rfl (by decide +kernel)
set_option maxRecDepth 65536 in
theorem w_c16 : (Jvm.Cond.code ({ cls := "com/example/tight_pivot/tightpivot/ValueTree", name := "split", desc := "(IIII)I" } : Jvm.MethodName) prog_19_method_8_code (7 : Nat) (Option.some Jvm.ClassFile.FieldType.int)).before args0 about1 = true := code_word (m := ⟨2, 5⟩) (meth := k2m5) (c := k2c5) (by decide +kernel) rfl rfl rfl (by decide +kernel)
set_option maxRecDepth 65536 in
theorem w_c17 : (Jvm.Cond.code ({ cls := "com/example/tight_pivot/tightpivot/ValueTree", name := "bound", desc := "(III)V" } : Jvm.MethodName) prog_19_method_9_code (12 : Nat) (Option.none : Option Jvm.ClassFile.FieldType)).before args0 about1 = true := code_word (m := ⟨2, 6⟩) (meth := k2m6) (c := k2c6) (by decide +kernel) rfl rfl rfl (by decide +kernel)
set_option maxRecDepth 65536 in
theorem w_c18 : (Jvm.Cond.code ({ cls := "java/lang/Math", name := "min", desc := "(II)I" } : Jvm.MethodName) jdk_29_method_69_code (2 : Nat) (Option.some Jvm.ClassFile.FieldType.int)).before args0 about1 = true := code_word (m := ⟨6, 2⟩) (meth := k6m2) (c := k6c2) (by decide +kernel) rfl rfl rfl (by decide +kernel)
set_option maxRecDepth 65536 in
theorem w_c19 : (Jvm.Cond.code ({ cls := "com/example/tight_pivot/tightpivot/ValueTree", name := "documentCount", desc := "()I" } : Jvm.MethodName) prog_19_method_4_code (1 : Nat) (Option.some Jvm.ClassFile.FieldType.int)).before args0 about1 = true := code_word (m := ⟨2, 2⟩) (meth := k2m2) (c := k2c2) (by decide +kernel) rfl rfl rfl (by decide +kernel)
set_option maxRecDepth 65536 in
theorem w_c20 : (Jvm.Cond.code ({ cls := "com/example/tight_pivot/tightpivot/ValueTree", name := "currentCount", desc := "()I" } : Jvm.MethodName) prog_19_method_5_code (1 : Nat) (Option.some Jvm.ClassFile.FieldType.int)).before args0 about1 = true := code_word (m := ⟨2, 3⟩) (meth := k2m3) (c := k2c3) (by decide +kernel) rfl rfl rfl (by decide +kernel)
set_option maxRecDepth 65536 in
theorem w_c21 : (Jvm.Cond.code ({ cls := "com/example/tight_pivot/tightpivot/ValueTree", name := "outdate", desc := "(I)V" } : Jvm.MethodName) prog_19_method_6_code (2 : Nat) (Option.none : Option Jvm.ClassFile.FieldType)).before args0 about1 = true := code_word (m := ⟨2, 4⟩) (meth := k2m4) (c := k2c4) (by decide +kernel) rfl rfl rfl (by decide +kernel)
set_option maxRecDepth 65536 in
theorem w_c22 : (Jvm.Cond.code ({ cls := "java/util/BitSet", name := "get", desc := "(I)Z" } : Jvm.MethodName) jdk_92_method_26_code (3 : Nat) (Option.some Jvm.ClassFile.FieldType.boolean)).before args0 about1 = true := code_word (m := ⟨5, 9⟩) (meth := k5m9) (c := k5c9) (by decide +kernel) rfl rfl rfl (by decide +kernel)
set_option maxRecDepth 65536 in
theorem w_c23 : (Jvm.Cond.code ({ cls := "java/util/BitSet", name := "clear", desc := "(I)V" } : Jvm.MethodName) jdk_92_method_23_code (3 : Nat) (Option.none : Option Jvm.ClassFile.FieldType)).before args0 about1 = true := code_word (m := ⟨5, 8⟩) (meth := k5m8) (c := k5c8) (by decide +kernel) rfl rfl rfl (by decide +kernel)
set_option maxRecDepth 65536 in
theorem w_c24 : (Jvm.Cond.code ({ cls := "java/util/BitSet", name := "recalculateWordsInUse", desc := "()V" } : Jvm.MethodName) jdk_92_method_3_code (2 : Nat) (Option.none : Option Jvm.ClassFile.FieldType)).before args0 about1 = true := code_word (m := ⟨5, 2⟩) (meth := k5m2) (c := k5c2) (by decide +kernel) rfl rfl rfl (by decide +kernel)
def codes1 : List Jvm.Cond := [Jvm.Cond.code x code maxLocals ret, Jvm.Cond.code ({ cls := "com/example/tight_pivot/tightpivot/ValueTree", name := "<init>", desc := "(I[I[JZ)V" } : Jvm.MethodName) prog_19_method_1_code (5 : Nat) (Option.none : Option Jvm.ClassFile.FieldType), Jvm.Cond.code ({ cls := "com/example/tight_pivot/tightpivot/ValueTree", name := "<init>", desc := "(I[I[JZZ)V" } : Jvm.MethodName) prog_19_method_2_code (12 : Nat) (Option.none : Option Jvm.ClassFile.FieldType), Jvm.Cond.code ({ cls := "java/lang/Object", name := "<init>", desc := "()V" } : Jvm.MethodName) object_method_1_code (1 : Nat) (Option.none : Option Jvm.ClassFile.FieldType), Jvm.Cond.code ({ cls := "java/util/BitSet", name := "<init>", desc := "()V" } : Jvm.MethodName) jdk_92_method_4_code (1 : Nat) (Option.none : Option Jvm.ClassFile.FieldType), Jvm.Cond.code ({ cls := "java/util/BitSet", name := "initWords", desc := "(I)V" } : Jvm.MethodName) jdk_92_method_6_code (2 : Nat) (Option.none : Option Jvm.ClassFile.FieldType), Jvm.Cond.code ({ cls := "java/util/BitSet", name := "wordIndex", desc := "(I)I" } : Jvm.MethodName) jdk_92_method_1_code (1 : Nat) (Option.some Jvm.ClassFile.FieldType.int), Jvm.Cond.code ({ cls := "java/lang/Math", name := "multiplyExact", desc := "(II)I" } : Jvm.MethodName) jdk_29_method_28_code (4 : Nat) (Option.some Jvm.ClassFile.FieldType.int), Jvm.Cond.code ({ cls := "java/util/BitSet", name := "set", desc := "(I)V" } : Jvm.MethodName) jdk_92_method_19_code (3 : Nat) (Option.none : Option Jvm.ClassFile.FieldType), Jvm.Cond.code ({ cls := "java/util/BitSet", name := "expandTo", desc := "(I)V" } : Jvm.MethodName) jdk_92_method_15_code (3 : Nat) (Option.none : Option Jvm.ClassFile.FieldType), Jvm.Cond.code ({ cls := "java/util/BitSet", name := "ensureCapacity", desc := "(I)V" } : Jvm.MethodName) jdk_92_method_14_code (3 : Nat) (Option.none : Option Jvm.ClassFile.FieldType), Jvm.Cond.code ({ cls := "java/util/BitSet", name := "checkInvariants", desc := "()V" } : Jvm.MethodName) jdk_92_method_2_code (1 : Nat) (Option.none : Option Jvm.ClassFile.FieldType), Jvm.Cond.code ({ cls := "java/util/BitSet", name := "cardinality", desc := "()I" } : Jvm.MethodName) jdk_92_method_35_code (3 : Nat) (Option.some Jvm.ClassFile.FieldType.int), Jvm.Cond.code ({ cls := "java/lang/Long", name := "bitCount", desc := "(J)I" } : Jvm.MethodName) jdk_35_method_50_code (2 : Nat) (Option.some Jvm.ClassFile.FieldType.int), Jvm.Cond.code ({ cls := "com/example/tight_pivot/tightpivot/ValueTree", name := "sortByCoordinate", desc := "()V" } : Jvm.MethodName) prog_19_method_10_code (12 : Nat) (Option.none : Option Jvm.ClassFile.FieldType), Jvm.Cond.code ({ cls := "com/example/tight_pivot/tightpivot/ValueTree", name := "sortingByte", desc := "(JI)I" } : Jvm.MethodName) prog_19_method_11_code (3 : Nat) (Option.some Jvm.ClassFile.FieldType.int), Jvm.Cond.code ({ cls := "com/example/tight_pivot/tightpivot/ValueTree", name := "split", desc := "(IIII)I" } : Jvm.MethodName) prog_19_method_8_code (7 : Nat) (Option.some Jvm.ClassFile.FieldType.int), Jvm.Cond.code ({ cls := "com/example/tight_pivot/tightpivot/ValueTree", name := "bound", desc := "(III)V" } : Jvm.MethodName) prog_19_method_9_code (12 : Nat) (Option.none : Option Jvm.ClassFile.FieldType), Jvm.Cond.code ({ cls := "java/lang/Math", name := "min", desc := "(II)I" } : Jvm.MethodName) jdk_29_method_69_code (2 : Nat) (Option.some Jvm.ClassFile.FieldType.int), Jvm.Cond.code ({ cls := "com/example/tight_pivot/tightpivot/ValueTree", name := "documentCount", desc := "()I" } : Jvm.MethodName) prog_19_method_4_code (1 : Nat) (Option.some Jvm.ClassFile.FieldType.int), Jvm.Cond.code ({ cls := "com/example/tight_pivot/tightpivot/ValueTree", name := "currentCount", desc := "()I" } : Jvm.MethodName) prog_19_method_5_code (1 : Nat) (Option.some Jvm.ClassFile.FieldType.int), Jvm.Cond.code ({ cls := "com/example/tight_pivot/tightpivot/ValueTree", name := "outdate", desc := "(I)V" } : Jvm.MethodName) prog_19_method_6_code (2 : Nat) (Option.none : Option Jvm.ClassFile.FieldType), Jvm.Cond.code ({ cls := "java/util/BitSet", name := "get", desc := "(I)Z" } : Jvm.MethodName) jdk_92_method_26_code (3 : Nat) (Option.some Jvm.ClassFile.FieldType.boolean), Jvm.Cond.code ({ cls := "java/util/BitSet", name := "clear", desc := "(I)V" } : Jvm.MethodName) jdk_92_method_23_code (3 : Nat) (Option.none : Option Jvm.ClassFile.FieldType), Jvm.Cond.code ({ cls := "java/util/BitSet", name := "recalculateWordsInUse", desc := "()V" } : Jvm.MethodName) jdk_92_method_3_code (2 : Nat) (Option.none : Option Jvm.ClassFile.FieldType)]
set_option maxRecDepth 65536 in
theorem codes_eq : words1.filter isCode = codes1 := rfl
theorem w_codes : ∀ c ∈ words1.filter isCode, c.before args0 about1 = true := by
  rw [codes_eq]
  intro c hc
  simp only [codes1, List.mem_cons, List.not_mem_nil, or_false] at hc
  rcases hc with rfl | rfl | rfl | rfl | rfl | rfl | rfl | rfl | rfl | rfl | rfl | rfl | rfl | rfl | rfl | rfl | rfl | rfl | rfl | rfl | rfl | rfl | rfl | rfl | rfl
  · exact w_c0
  · exact w_c1
  · exact w_c2
  · exact w_c3
  · exact w_c4
  · exact w_c5
  · exact w_c6
  · exact w_c7
  · exact w_c8
  · exact w_c9
  · exact w_c10
  · exact w_c11
  · exact w_c12
  · exact w_c13
  · exact w_c14
  · exact w_c15
  · exact w_c16
  · exact w_c17
  · exact w_c18
  · exact w_c19
  · exact w_c20
  · exact w_c21
  · exact w_c22
  · exact w_c23
  · exact w_c24
set_option maxRecDepth 65536 in
theorem w_t1 : (words1.take 24).all (fun c => isCode c || c.before args0 about1) = true := by decide +kernel
set_option maxRecDepth 65536 in
theorem w_t2 : ((words1.drop 24).take 24).all (fun c => isCode c || c.before args0 about1) = true := by decide +kernel
set_option maxRecDepth 65536 in
theorem w_t3 : (((words1.drop 24).drop 24).take 24).all (fun c => isCode c || c.before args0 about1) = true := by decide +kernel
set_option maxRecDepth 65536 in
theorem w_t4 : ((((words1.drop 24).drop 24).drop 24).take 24).all (fun c => isCode c || c.before args0 about1) = true := by decide +kernel
set_option maxRecDepth 65536 in
theorem w_t5 : (((((words1.drop 24).drop 24).drop 24).drop 24).take 24).all (fun c => isCode c || c.before args0 about1) = true := by decide +kernel
set_option maxRecDepth 65536 in
theorem w_t6 : ((((((words1.drop 24).drop 24).drop 24).drop 24).drop 24).take 24).all (fun c => isCode c || c.before args0 about1) = true := by decide +kernel
set_option maxRecDepth 65536 in
theorem w_t7 : ((((((words1.drop 24).drop 24).drop 24).drop 24).drop 24).drop 24).all (fun c => isCode c || c.before args0 about1) = true := by decide +kernel
theorem w_tables : (allAtoms (Jvm.Cond.code x code maxLocals ret :: tables_1)).before args0 about1 = true := by
  rw [allAtoms_all]
  show words1.all (fun c => c.before args0 about1) = true
  refine all_split ?_ w_codes
  rw [← List.take_append_drop 24 words1, List.all_append, w_t1, ← List.take_append_drop 24 (words1.drop 24), List.all_append, w_t2, ← List.take_append_drop 24 ((words1.drop 24).drop 24), List.all_append, w_t3, ← List.take_append_drop 24 (((words1.drop 24).drop 24).drop 24), List.all_append, w_t4, ← List.take_append_drop 24 ((((words1.drop 24).drop 24).drop 24).drop 24), List.all_append, w_t5, ← List.take_append_drop 24 (((((words1.drop 24).drop 24).drop 24).drop 24).drop 24), List.all_append, w_t6, w_t7]
  rfl
set_option maxRecDepth 65536 in
theorem w_rest : rest_1_c.before args0 about1 = true := by decide +kernel
set_option maxRecDepth 65536 in
theorem w_case : (Jvm.Cond.and given_1 narrow_1).before args0 about1 = true := by decide +kernel
theorem w_applies : (headSpec (Jvm.Cond.code x code maxLocals ret :: tables_1) room_1).applies x e0.platform about1 = true :=
  (Spec.applies_iff w_frames).mpr ⟨w_running, w_runnable, w_alone, w_named, w_hears, w_ripe, w_room, w_tables⟩
theorem atStart : AtStart classFile x code maxLocals ret World_1 tables_1 room_1 Calls_1 rest_1 Pre_1 launch0 p0 e0 about1 theMethod args0 below0 :=
  ⟨lists_1, trivial, launch0.admits_env _ _ _, launch0.least_env, fairChoices_fair.cas, fairChoices_fair.clock, w_frames, w_args, w_heap, w_applies, trivial, w_rest, w_case⟩
end start1
theorem witness_1 : WitnessClaimed_1 := ⟨start1.p0, start1.e0, start1.about1, start1.theMethod, start1.args0, start1.below0, start1.atStart⟩
end Jvm.Pilot.@@N@@
