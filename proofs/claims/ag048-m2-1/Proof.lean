import JvmDerived
import JvmDerived.Pilot.@@N@@Statement
import JvmDerived.Pilot.@@N@@Code
set_option linter.unusedVariables false
set_option linter.unusedSimpArgs false
namespace Jvm.Pilot.@@N@@
open Jvm Jvm.ClassFile Sem Op Lib Jvm.Free Jvm.Stand Jvm.LawKit Jvm.RoadKit Bundle Jvm.Pilot.@@N@@.Jvm.D

section OwnKit
variable {p : Program} {l : Launch} {e : Env} {R : Room} {s : State} {m : MethodId} {args : Array Value} {below : List Frame} {meth : Method} {c : Code} {T : State} {locs : List Loc} {cells slots : Nat}
/-- from A the invocation ends, and what it leaves is Q, within K cells and N slots -/
def OD (p : Program) (e : Env) (s : State) (below : List Frame) (Q : Option Value → Heap → List Loc → Prop) (K N : Nat) (A : State) : Prop :=
  ∃ s₂ o, Steps p.tables e below A s₂ ∧ s₂.status = .running ∧ Ended s₂ below o ∧ ∃ v L, o = .returned v ∧ Q v s₂.heap L ∧ FrameEnd s o s₂ L K N
theorem OD.go {Q : Option Value → Heap → List Loc → Prop} {K N : Nat} {A B : State} (h : ∀ t, Steps p.tables e below B t → Steps p.tables e below A t) (k : OD p e s below Q K N B) : OD p e s below Q K N A := by
  obtain ⟨s₂, o, h1, r⟩ := k
  exact ⟨s₂, o, h _ h1, r⟩
theorem OD.via {Q : Option Value → Heap → List Loc → Prop} {K N : Nat} {A B : State} (h : Steps p.tables e below A B) (k : OD p e s below Q K N B) : OD p e s below Q K N A := OD.go (fun _ q => h.trans q) k
theorem OD.cut {Q : Option Value → Heap → List Loc → Prop} {K N : Nat} {A B : State} (f : OD p e s below Q K N B → OD p e s below Q K N A) (g : OD p e s below Q K N B) : OD p e s below Q K N A := f g
theorem OD.cutA {Q : Option Value → Heap → List Loc → Prop} {K N : Nat} {A : State} {P : State → Prop} {B : State → State} (f : (∀ T, P T → OD p e s below Q K N (B T)) → OD p e s below Q K N A) (g : ∀ T, P T → OD p e s below Q K N (B T)) : OD p e s below Q K N A := f g
theorem OD.ret {Q : Option Value → Heap → List Loc → Prop} {K N : Nat} (X : Stand p l e R s m args below meth c T locs cells slots) (hx : p.tables.exec = Jvm.exec) (hlk : meth.locks = false) {pc : Nat} {Ls : Array Slot} {w : Value} {t : FieldType} {i : Instr} {rest : List Value} (hret : meth.sig.returnType = some t) (hn : narrow t w = w)
    (hi : (i = .ireturn ∧ (t = .int ∨ t = .boolean ∨ t = .byte ∨ t = .char ∨ t = .short) ∧ ∃ z, w = .int z) ∨ (i = .lreturn ∧ t = .long ∧ ∃ z, w = .long z) ∨ (i = .dreturn ∧ t = .double ∧ ∃ z, w = .double z) ∨ (i = .freturn ∧ t = .float ∧ ∃ z, w = .float z) ∨ (i = .areturn ∧ t.isReference = true ∧ w.isRef = true))
    (hd : decode c.code pc = .ok (i, 1)) (hk : cells ≤ K) (hs : slots ≤ N) (hQ : Q (some w) T.heap locs) : OD p e s below Q K N (T.setTop (mkF m pc Ls (w :: rest))) := by
  obtain ⟨fs, hr, hrun, hended, hW, hsame⟩ := X.leave (v := some w) (fun h => by rw [hret] at h; cases h) hlk
  exact ⟨_, _, retOut X hx hret hn hi hd hr, hrun, hended, _, _, rfl, hQ, ⟨_, rfl⟩, hW, hsame.mono hk hs⟩
theorem OD.retV {Q : Option Value → Heap → List Loc → Prop} {K N : Nat} (X : Stand p l e R s m args below meth c T locs cells slots) (hx : p.tables.exec = Jvm.exec) (hlk : meth.locks = false) {pc : Nat} {Ls : Array Slot} (hret : meth.sig.returnType = none)
    (hd : decode c.code pc = .ok (.return_, 1)) (hk : cells ≤ K) (hs : slots ≤ N) (hQ : Q none T.heap locs) : OD p e s below Q K N (T.setTop (mkF m pc Ls [])) := by
  obtain ⟨fs, hr, hrun, hended, hW, hsame⟩ := X.leave (v := none) (fun _ => rfl) hlk
  exact ⟨_, _, X.returnOut hx hret hd hr, hrun, hended, _, _, rfl, hQ, ⟨_, rfl⟩, hW, hsame.mono hk hs⟩
theorem own_len {Z : State} {h : Heap} {a : Addr} {k : ClassId} {ty : FieldType} {z : Int32} {vs : List Value} {dv : Value} (F : Arv Z h a k ty z vs dv) : ∃ cl : Cell, Arr Z h a cl ty ∧ cl.slots.size.toInt32 = z := by
  obtain ⟨cl, A, -, S, M, -⟩ := F
  exact ⟨cl, A, len_of S M⟩
theorem own_at {Z : State} {h : Heap} {a : Addr} {k : ClassId} {ty : FieldType} {z j : Int32} {vs : List Value} {dv v : Value} (F : Arv Z h a k ty z vs dv) (q : ¬ j < 0 ∧ j < z) (u : vs.getD j.toNatClampNeg dv = v) : ∃ cl : Cell, Arr Z h a cl ty ∧ ¬ (j < 0 ∨ cl.slots.size ≤ j.toNatClampNeg) ∧ cl.slots[j.toNatClampNeg]? = some v := by
  obtain ⟨cl, A, -, S, M, H, -⟩ := F
  exact ⟨cl, A, inb_of S q, H.at (inb_of S q) u⟩
end OwnKit
def own_imax (x0 x1 : Int32) : Int32 := if x0 < x1 then x1 else x0
theorem own_nn0 : Jvm.Free.Fl.NoNaN64 FP.dconst0 := by unfold Jvm.Free.Fl.NoNaN64; decide +kernel
theorem own_d0 : FP.dconst0 = FP.i2d 0 := by decide +kernel
theorem own_b53 (a : Int32) : B53 a.toInt64 := by
  have h1 := a.toInt_lt
  have h2 := a.le_toInt
  unfold B53
  rw [Int32.toInt_toInt64]
  omega
theorem own_pick (a b : Int32) : Native.java_lang_Math.nans.pick64 true (FP.i2d a) (FP.i2d b) = FP.i2d (own_imax a b) := by
  rw [i2d_w a, i2d_w b, own_imax]
  by_cases c : a < b
  · rw [if_pos c, i2d_w b]
    exact max_l (own_b53 a) (own_b53 b) (by rw [Int64.lt_iff_toInt_lt, Int32.toInt_toInt64, Int32.toInt_toInt64]; exact Int32.lt_iff_toInt_lt.mp c)
  · rw [if_neg c, i2d_w a]
    exact max_g (own_b53 a) (own_b53 b) (fun q => c (by rw [Int64.lt_iff_toInt_lt, Int32.toInt_toInt64, Int32.toInt_toInt64] at q; exact Int32.lt_iff_toInt_lt.mpr q))

theorem own_five (x : Int32) {u : Int32} (hx : 0 ≤ x.toInt) (h : x % (5 : Int32) = u) : u = 0 ∨ u = 1 ∨ u = 2 ∨ u = 3 ∨ u = 4 := by
  have q := (c_irem x 5 5 rfl).1 hx
  rw [h] at q
  have r1 : 0 ≤ u.toInt ∧ u.toInt < 5 := by omega
  have k : u.toInt = 0 ∨ u.toInt = 1 ∨ u.toInt = 2 ∨ u.toInt = 3 ∨ u.toInt = 4 := by omega
  rcases k with k | k | k | k | k
  · exact Or.inl (Int32.toInt_inj.mp k)
  · exact Or.inr (Or.inl (Int32.toInt_inj.mp k))
  · exact Or.inr (Or.inr (Or.inl (Int32.toInt_inj.mp k)))
  · exact Or.inr (Or.inr (Or.inr (Or.inl (Int32.toInt_inj.mp k))))
  · exact Or.inr (Or.inr (Or.inr (Or.inr (Int32.toInt_inj.mp k))))
theorem own_mask (x : Int32) : 0 ≤ (x &&& (2147483647 : Int32)).toInt := (c_and x 2147483647 (by decide)).1
theorem ef0 (m : MethodId) (x0 : Int32) (x1 : Int32) : entryFrame m #[(.int x0), (.int x1)] 2 = mkF m 0 #[.val (.int x0), .val (.int x1)] [] := by first | (simp [entryFrame, mkF, argsToLocals, Value.category]; done) | rfl
theorem d2_0 : decode jdk_29_method_65_code 0 = .ok (.iload_n 0, 1) := by decide +kernel
theorem d2_1 : decode jdk_29_method_65_code 1 = .ok (.iload_n 1, 1) := by decide +kernel
theorem d2_2 : decode jdk_29_method_65_code 2 = .ok (.if_icmp .lt 7, 3) := by decide +kernel
theorem d2_9 : decode jdk_29_method_65_code 9 = .ok (.iload_n 1, 1) := by decide +kernel
theorem d2_5 : decode jdk_29_method_65_code 5 = .ok (.iload_n 0, 1) := by decide +kernel
theorem d2_6 : decode jdk_29_method_65_code 6 = .ok (.goto 4, 3) := by decide +kernel
theorem d2_10 : decode jdk_29_method_65_code 10 = .ok (.ireturn, 1) := by decide +kernel
theorem ef1 (m : MethodId) (x0 : Addr) : entryFrame m #[(.ref x0)] 8 = mkF m 0 #[.val (.ref x0), .unset, .unset, .unset, .unset, .unset, .unset, .unset] [] := by first | (simp [entryFrame, mkF, argsToLocals, Value.category]; done) | rfl
theorem pn0 : plainName "com/example/querent/querent/ScoreScale" = true := by first | (simp [plainName, overriddenIn]; done) | decide +kernel
theorem d1_0 : decode prog_8_method_2_code 0 = .ok (.dconst 0, 1) := by decide +kernel
theorem d1_1 : decode prog_8_method_2_code 1 = .ok (.dstore_n 1, 1) := by decide +kernel
theorem d1_2 : decode prog_8_method_2_code 2 = .ok (.aload_n 0, 1) := by decide +kernel
theorem d1_3 : decode prog_8_method_2_code 3 = .ok (.astore_n 3, 1) := by decide +kernel
theorem d1_4 : decode prog_8_method_2_code 4 = .ok (.aload_n 3, 1) := by decide +kernel
theorem d1_5 : decode prog_8_method_2_code 5 = .ok (.arraylength, 1) := by decide +kernel
theorem d1_6 : decode prog_8_method_2_code 6 = .ok (.istore 4, 2) := by decide +kernel
theorem d1_8 : decode prog_8_method_2_code 8 = .ok (.iconst 0, 1) := by decide +kernel
theorem d1_9 : decode prog_8_method_2_code 9 = .ok (.istore 5, 2) := by decide +kernel
theorem d1_11 : decode prog_8_method_2_code 11 = .ok (.iload 5, 2) := by decide +kernel
theorem d1_13 : decode prog_8_method_2_code 13 = .ok (.iload 4, 2) := by decide +kernel
theorem d1_15 : decode prog_8_method_2_code 15 = .ok (.if_icmp .ge 22, 3) := by decide +kernel
theorem d1_37 : decode prog_8_method_2_code 37 = .ok (.dload_n 1, 1) := by decide +kernel
theorem d1_38 : decode prog_8_method_2_code 38 = .ok (.dreturn, 1) := by decide +kernel
theorem d1_18 : decode prog_8_method_2_code 18 = .ok (.aload_n 3, 1) := by decide +kernel
theorem d1_19 : decode prog_8_method_2_code 19 = .ok (.iload 5, 2) := by decide +kernel
theorem d1_21 : decode prog_8_method_2_code 21 = .ok (.daload, 1) := by decide +kernel
theorem d1_22 : decode prog_8_method_2_code 22 = .ok (.dstore 6, 2) := by decide +kernel
theorem d1_24 : decode prog_8_method_2_code 24 = .ok (.dload_n 1, 1) := by decide +kernel
theorem d1_25 : decode prog_8_method_2_code 25 = .ok (.dload 6, 2) := by decide +kernel
theorem Wd10 {Z : State} {a0 : Array Value} (hw : ∀ d ∈ tables_1, d.before a0 Z = true) : ((Jvm.Cond.methodLink "com/example/querent/querent/ScoreScale" (7 : Nat) ({ cls := "java/lang/Math", name := "max", desc := "(DD)D" } : Jvm.MethodName)) : Jvm.Cond).before a0 Z = true := hw _ (List.mem_of_getElem? (i := 10) rfl)
theorem Wd11 {Z : State} {a0 : Array Value} (hw : ∀ d ∈ tables_1, d.before a0 Z = true) : ((Jvm.Cond.static ({ cls := "java/lang/Math", name := "max", desc := "(DD)D" } : Jvm.MethodName)) : Jvm.Cond).before a0 Z = true := hw _ (List.mem_of_getElem? (i := 11) rfl)
theorem Wd8 {Z : State} {a0 : Array Value} (hw : ∀ d ∈ tables_1, d.before a0 Z = true) : ((Jvm.Cond.initialized "java/lang/Math") : Jvm.Cond).before a0 Z = true := hw _ (List.mem_of_getElem? (i := 8) rfl)
theorem Wd12 {Z : State} {a0 : Array Value} (hw : ∀ d ∈ tables_1, d.before a0 Z = true) : ((Jvm.Cond.code ({ cls := "java/lang/Math", name := "max", desc := "(DD)D" } : Jvm.MethodName) jdk_29_method_68_code (4 : Nat) (Option.some Jvm.ClassFile.FieldType.double)) : Jvm.Cond).before a0 Z = true := hw _ (List.mem_of_getElem? (i := 12) rfl)
theorem pd0 : parseMethodDescriptor "(DD)D" = some ⟨[.double, .double], some .double⟩ := by decide +kernel
theorem d1_27 : decode prog_8_method_2_code 27 = .ok (.invokestatic 7, 3) := by decide +kernel
theorem d1_30 : decode prog_8_method_2_code 30 = .ok (.dstore_n 1, 1) := by decide +kernel
theorem d1_31 : decode prog_8_method_2_code 31 = .ok (.iinc 5 1, 3) := by decide +kernel
theorem d1_34 : decode prog_8_method_2_code 34 = .ok (.goto (-23), 3) := by decide +kernel
theorem ef2 (m : MethodId) (x0 : Int32) (x1 : Int32) (x2 : Int32) (x3 : Int32) (x4 : Int32) : entryFrame m #[(.int x0), (.int x1), (.int x2), (.int x3), (.int x4)] maxLocals = mkF m 0 #[.val (.int x0), .val (.int x1), .val (.int x2), .val (.int x3), .val (.int x4), .unset, .unset, .unset, .unset, .unset] [] := by first | (simp [entryFrame, mkF, argsToLocals, Value.category, maxLocals]; done) | rfl
theorem pn1 : plainName "com/example/querent/querent/ScoreScaleHighestPinLaw" = true := by first | (simp [plainName, overriddenIn]; done) | decide +kernel
theorem Wd0 {Z : State} {a0 : Array Value} (hw : ∀ d ∈ tables_1, d.before a0 Z = true) : ((Jvm.Cond.constant "com/example/querent/querent/ScoreScaleHighestPinLaw" (7 : Nat) (2147483647 : Int32)) : Jvm.Cond).before a0 Z = true := hw _ (List.mem_of_getElem? (i := 0) rfl)
theorem Wd1 {Z : State} {a0 : Array Value} (hw : ∀ d ∈ tables_1, d.before a0 Z = true) : ((Jvm.Cond.arrayClass Jvm.ClassFile.FieldType.double) : Jvm.Cond).before a0 Z = true := hw _ (List.mem_of_getElem? (i := 1) rfl)
theorem Wd2 {Z : State} {a0 : Array Value} (hw : ∀ d ∈ tables_1, d.before a0 Z = true) : ((Jvm.Cond.methodLink "com/example/querent/querent/ScoreScaleHighestPinLaw" (14 : Nat) ({ cls := "com/example/querent/querent/ScoreScale", name := "highest", desc := "([D)D" } : Jvm.MethodName)) : Jvm.Cond).before a0 Z = true := hw _ (List.mem_of_getElem? (i := 2) rfl)
theorem Wd5 {Z : State} {a0 : Array Value} (hw : ∀ d ∈ tables_1, d.before a0 Z = true) : ((Jvm.Cond.code ({ cls := "com/example/querent/querent/ScoreScale", name := "highest", desc := "([D)D" } : Jvm.MethodName) prog_8_method_2_code (8 : Nat) (Option.some Jvm.ClassFile.FieldType.double)) : Jvm.Cond).before a0 Z = true := hw _ (List.mem_of_getElem? (i := 5) rfl)
theorem Wd4 {Z : State} {a0 : Array Value} (hw : ∀ d ∈ tables_1, d.before a0 Z = true) : ((Jvm.Cond.initialized "com/example/querent/querent/ScoreScale") : Jvm.Cond).before a0 Z = true := hw _ (List.mem_of_getElem? (i := 4) rfl)
theorem pd1 : parseMethodDescriptor "([D)D" = some ⟨[(.array .double)], some .double⟩ := by decide +kernel
theorem Wd3 {Z : State} {a0 : Array Value} (hw : ∀ d ∈ tables_1, d.before a0 Z = true) : ((Jvm.Cond.static ({ cls := "com/example/querent/querent/ScoreScale", name := "highest", desc := "([D)D" } : Jvm.MethodName)) : Jvm.Cond).before a0 Z = true := hw _ (List.mem_of_getElem? (i := 3) rfl)
theorem Wd6 {Z : State} {a0 : Array Value} (hw : ∀ d ∈ tables_1, d.before a0 Z = true) : ((Jvm.Cond.methodLink "com/example/querent/querent/ScoreScaleHighestPinLaw" (8 : Nat) ({ cls := "java/lang/Math", name := "max", desc := "(II)I" } : Jvm.MethodName)) : Jvm.Cond).before a0 Z = true := hw _ (List.mem_of_getElem? (i := 6) rfl)
theorem Wd9 {Z : State} {a0 : Array Value} (hw : ∀ d ∈ tables_1, d.before a0 Z = true) : ((Jvm.Cond.code ({ cls := "java/lang/Math", name := "max", desc := "(II)I" } : Jvm.MethodName) jdk_29_method_65_code (2 : Nat) (Option.some Jvm.ClassFile.FieldType.int)) : Jvm.Cond).before a0 Z = true := hw _ (List.mem_of_getElem? (i := 9) rfl)
theorem pd2 : parseMethodDescriptor "(II)I" = some ⟨[.int, .int], some .int⟩ := by decide +kernel
theorem Wd7 {Z : State} {a0 : Array Value} (hw : ∀ d ∈ tables_1, d.before a0 Z = true) : ((Jvm.Cond.static ({ cls := "java/lang/Math", name := "max", desc := "(II)I" } : Jvm.MethodName)) : Jvm.Cond).before a0 Z = true := hw _ (List.mem_of_getElem? (i := 7) rfl)
def Q_rmI (Z : State) (x0 : Int32) (x1 : Int32) (h0 : Heap) (v : Option Value) (h : Heap) (L : List Loc) : Prop := v = some (.int (own_imax x0 x1)) ∧ L = [] ∧ h = h0
set_option maxRecDepth 65536 in
set_option maxHeartbeats 40000000 in
theorem rmI (l : Launch) (Z : State) (a0 : Array Value) (hw : ∀ d ∈ tables_1, d.before a0 Z = true) (ws : List Jvm.Cond) (x0 : Int32) (x1 : Int32) (h0 : Heap)  :
    MetFree l (⟨"java/lang/Math", "max", "(II)I"⟩ : MethodName) (head1 (Jvm.Cond.code (⟨"java/lang/Math", "max", "(II)I"⟩ : MethodName) jdk_29_method_65_code 2 (some .int) :: ws) ({ frames := 0, cells := 0, slots := 0, locals := 0 } : Room)) (fun a U => a = #[(.int x0), (.int x1)] ∧ Z.Warmed39 U.vm ∧ U.heap = h0) (fun _ _ _ _ _ => True) (fun _ U o U' => ∃ v L, o = .returned v ∧ Q_rmI Z x0 x1 h0 v U'.heap L ∧ FrameEnd U o U' L ({ frames := 0, cells := 0, slots := 0, locals := 0 } : Room).cells ({ frames := 0, cells := 0, slots := 0, locals := 0 } : Room).slots) := by
  refine MetFree.of_bodySF (by decide +kernel) hisR ?_
  intro p e s m args below meth c s₁ Bd hml0 hP hK
  obtain ⟨rfl, hZ, hh⟩ := hP
  have hx := Bd.exec
  have hby := Bd.bytes
  have hlk : meth.locks = false := Bd.notSynchronized
  have hml : c.maxLocals = 2 := hml0
  have hown : s.vm.findClass "java/lang/Math" = some m.cls := findClass_of_methodNamed Bd.named
  have hnm := (name_of_methodNamed Bd.named Bd.method).1
  have X0 : Stand p l e ({ frames := 0, cells := 0, slots := 0, locals := 0 } : Room) s m #[(.int x0), (.int x1)] below meth c s₁ [] 0 0 := Stand.of_body Bd
  have e0 : s₁.heap = h0 := by rw [← hh, Bd.state]; rfl
  suffices hgo : OD p e s below (Q_rmI Z x0 x1 h0) ({ frames := 0, cells := 0, slots := 0, locals := 0 } : Room).cells ({ frames := 0, cells := 0, slots := 0, locals := 0 } : Room).slots (s₁.setTop (mkF m 0 #[.val (.int x0), .val (.int x1)] [])) by
    obtain ⟨s₂, o, q1, q2⟩ := hgo
    exact ⟨s₂, o, castTop (ef0 m x0 x1) q1, q2⟩
  refine OD.go (B := (s₁.setTop (mkF m 1 #[.val (.int x0), .val (.int x1)] [(.int x0)]))) (fun t k => XS.iloadN X0.here hx rfl (hb hby d2_0) rfl k) ?_
  refine OD.go (B := (s₁.setTop (mkF m 2 #[.val (.int x0), .val (.int x1)] [(.int x1), (.int x0)]))) (fun t k => XS.iloadN X0.here hx rfl (hb hby d2_1) rfl k) ?_
  obtain ⟨v10_1, hv10_1⟩ : ∃ z : Int32, z = (if x0 < x1 then x1 else x0) := ⟨_, rfl⟩
  refine OD.cut (B := (s₁.setTop (mkF m 10 #[.val (.int x0), .val (.int x1)] [(.int v10_1)]))) (fun J10_2 => ?_) ?_
  · skip
    by_cases c2_3 : x0 < x1
    · refine OD.go (B := (s₁.setTop (mkF m 9 #[.val (.int x0), .val (.int x1)] []))) (fun t k => XS.icmpYes X0.here hx rfl (pc0 := 2) (pc' := 9) rfl (hb hby d2_2) rfl (tlt c2_3).1 (by decide) (by decide) k) ?_
      refine OD.go (B := (s₁.setTop (mkF m 10 #[.val (.int x0), .val (.int x1)] [(.int x1)]))) (fun t k => XS.iloadN X0.here hx rfl (hb hby d2_9) rfl k) ?_
      rw [if_pos c2_3] at hv10_1
      rw [hv10_1] at J10_2
      exact J10_2
    · refine OD.go (B := (s₁.setTop (mkF m 5 #[.val (.int x0), .val (.int x1)] []))) (fun t k => XS.icmpNo X0.here hx rfl (hb hby d2_2) rfl (flt c2_3).1 k) ?_
      refine OD.go (B := (s₁.setTop (mkF m 6 #[.val (.int x0), .val (.int x1)] [(.int x0)]))) (fun t k => XS.iloadN X0.here hx rfl (hb hby d2_5) rfl k) ?_
      refine OD.go (B := (s₁.setTop (mkF m 10 #[.val (.int x0), .val (.int x1)] [(.int x0)]))) (fun t k => XS.goto X0.here hx rfl (pc0 := 6) (pc' := 10) rfl (hb hby d2_6) (by decide) (by decide) k) ?_
      rw [if_neg c2_3] at hv10_1
      rw [hv10_1] at J10_2
      exact J10_2
  exact OD.ret X0 hx hlk (t := .int) Bd.returns rfl (Or.inl ⟨rfl, Or.inl rfl, _, rfl⟩) (hb hby d2_10) (Nat.le_of_ble_eq_true rfl) (Nat.le_of_ble_eq_true rfl) ⟨(show some (Value.int v10_1) = some (Value.int (own_imax x0 x1)) from by rw [hv10_1]; rfl), rfl, e0⟩
def Q_rmH0 (Z : State) (a1 : Addr) (h0 : Heap) (v : Option Value) (h : Heap) (L : List Loc) : Prop := v = some (.double FP.dconst0) ∧ L = [] ∧ h = h0
set_option maxRecDepth 65536 in
set_option maxHeartbeats 40000000 in
theorem rmH0 (l : Launch) (Z : State) (a0 : Array Value) (hw : ∀ d ∈ tables_1, d.before a0 Z = true) (ws : List Jvm.Cond) (a1 : Addr) (h0 : Heap) (kA : ClassId)   (V0 : Arv Z h0 a1 kA .double (0 : Int32) [] (.double (0 : UInt64))) :
    MetFree l (⟨"com/example/querent/querent/ScoreScale", "highest", "([D)D"⟩ : MethodName) (head1 (Jvm.Cond.code (⟨"com/example/querent/querent/ScoreScale", "highest", "([D)D"⟩ : MethodName) prog_8_method_2_code 8 (some .double) :: ws) ({ frames := 1, cells := 0, slots := 0, locals := 15 } : Room)) (fun a U => a = #[(.ref a1)] ∧ Z.Warmed39 U.vm ∧ U.heap = h0) (fun _ _ _ _ _ => True) (fun _ U o U' => ∃ v L, o = .returned v ∧ Q_rmH0 Z a1 h0 v U'.heap L ∧ FrameEnd U o U' L ({ frames := 1, cells := 0, slots := 0, locals := 15 } : Room).cells ({ frames := 1, cells := 0, slots := 0, locals := 15 } : Room).slots) := by
  refine MetFree.of_bodySF (plainFor_of_name pn0) hisR ?_
  intro p e s m args below meth c s₁ Bd hml0 hP hK
  obtain ⟨rfl, hZ, hh⟩ := hP
  have hx := Bd.exec
  have hby := Bd.bytes
  have hlk : meth.locks = false := Bd.notSynchronized
  have hml : c.maxLocals = 8 := hml0
  have hown : s.vm.findClass "com/example/querent/querent/ScoreScale" = some m.cls := findClass_of_methodNamed Bd.named
  have hnm := (name_of_methodNamed Bd.named Bd.method).1
  have X0 : Stand p l e ({ frames := 1, cells := 0, slots := 0, locals := 15 } : Room) s m #[(.ref a1)] below meth c s₁ [] 0 0 := Stand.of_body Bd
  have e0 : s₁.heap = h0 := by rw [← hh, Bd.state]; rfl
  suffices hgo : OD p e s below (Q_rmH0 Z a1 h0) ({ frames := 1, cells := 0, slots := 0, locals := 15 } : Room).cells ({ frames := 1, cells := 0, slots := 0, locals := 15 } : Room).slots (s₁.setTop (mkF m 0 #[.val (.ref a1), .unset, .unset, .unset, .unset, .unset, .unset, .unset] [])) by
    obtain ⟨s₂, o, q1, q2⟩ := hgo
    exact ⟨s₂, o, castTop (ef1 m a1) q1, q2⟩
  refine OD.go (B := (s₁.setTop (mkF m 1 #[.val (.ref a1), .unset, .unset, .unset, .unset, .unset, .unset, .unset] [(.double FP.dconst0)]))) (fun t k => XS.dconst0 X0.here hx rfl (hb hby d1_0) (v := FP.dconst0) rfl k) ?_
  refine OD.go (B := (s₁.setTop (mkF m 2 #[.val (.ref a1), .val (.double FP.dconst0), .second, .unset, .unset, .unset, .unset, .unset] []))) (fun t k => XS.dstoreN X0.here hx rfl (hb hby d1_1) rfl (l' := #[.val (.ref a1), .val (.double FP.dconst0), .second, .unset, .unset, .unset, .unset, .unset]) rfl k) ?_
  refine OD.go (B := (s₁.setTop (mkF m 3 #[.val (.ref a1), .val (.double FP.dconst0), .second, .unset, .unset, .unset, .unset, .unset] [(.ref a1)]))) (fun t k => XS.aloadN X0.here hx rfl (hb hby d1_2) rfl rfl k) ?_
  refine OD.go (B := (s₁.setTop (mkF m 4 #[.val (.ref a1), .val (.double FP.dconst0), .second, .val (.ref a1), .unset, .unset, .unset, .unset] []))) (fun t k => XS.astoreN X0.here hx rfl (hb hby d1_3) rfl rfl (l' := #[.val (.ref a1), .val (.double FP.dconst0), .second, .val (.ref a1), .unset, .unset, .unset, .unset]) rfl k) ?_
  refine OD.go (B := (s₁.setTop (mkF m 5 #[.val (.ref a1), .val (.double FP.dconst0), .second, .val (.ref a1), .unset, .unset, .unset, .unset] [(.ref a1)]))) (fun t k => XS.aloadN X0.here hx rfl (hb hby d1_4) rfl rfl k) ?_
  obtain ⟨cl1, Ar1, hl1⟩ := own_len V0
  refine OD.go (B := (s₁.setTop (mkF m 6 #[.val (.ref a1), .val (.double FP.dconst0), .second, .val (.ref a1), .unset, .unset, .unset, .unset] [(.int (0 : Int32))]))) (fun t k => X0.arraylength hx (by rw [e0]; exact Ar1.1) (State.isArrayOf_alike hZ.alike Ar1.2.1) (g := (mkF m 5 #[.val (.ref a1), .val (.double FP.dconst0), .second, .val (.ref a1), .unset, .unset, .unset, .unset] [(.ref a1)])) rfl rfl (hb hby d1_5) _ (by rw [hl1]; exact k)) ?_
  refine OD.go (B := (s₁.setTop (mkF m 8 #[.val (.ref a1), .val (.double FP.dconst0), .second, .val (.ref a1), .val (.int (0 : Int32)), .unset, .unset, .unset] []))) (fun t k => XS.istore X0.here hx rfl (hb hby d1_6) rfl (l' := #[.val (.ref a1), .val (.double FP.dconst0), .second, .val (.ref a1), .val (.int (0 : Int32)), .unset, .unset, .unset]) rfl k) ?_
  refine OD.go (B := (s₁.setTop (mkF m 9 #[.val (.ref a1), .val (.double FP.dconst0), .second, .val (.ref a1), .val (.int (0 : Int32)), .unset, .unset, .unset] [(.int (0 : Int32))]))) (fun t k => XS.iconst X0.here hx rfl (hb hby d1_8) k) ?_
  refine OD.go (B := (s₁.setTop (mkF m 11 #[.val (.ref a1), .val (.double FP.dconst0), .second, .val (.ref a1), .val (.int (0 : Int32)), .val (.int (0 : Int32)), .unset, .unset] []))) (fun t k => XS.istore X0.here hx rfl (hb hby d1_9) rfl (l' := #[.val (.ref a1), .val (.double FP.dconst0), .second, .val (.ref a1), .val (.int (0 : Int32)), .val (.int (0 : Int32)), .unset, .unset]) rfl k) ?_
  refine OD.go (B := (s₁.setTop (mkF m 13 #[.val (.ref a1), .val (.double FP.dconst0), .second, .val (.ref a1), .val (.int (0 : Int32)), .val (.int (0 : Int32)), .unset, .unset] [(.int (0 : Int32))]))) (fun t k => XS.iload X0.here hx rfl (hb hby d1_11) rfl k) ?_
  refine OD.go (B := (s₁.setTop (mkF m 15 #[.val (.ref a1), .val (.double FP.dconst0), .second, .val (.ref a1), .val (.int (0 : Int32)), .val (.int (0 : Int32)), .unset, .unset] [(.int (0 : Int32)), (.int (0 : Int32))]))) (fun t k => XS.iload X0.here hx rfl (hb hby d1_13) rfl k) ?_
  refine OD.go (B := (s₁.setTop (mkF m 37 #[.val (.ref a1), .val (.double FP.dconst0), .second, .val (.ref a1), .val (.int (0 : Int32)), .val (.int (0 : Int32)), .unset, .unset] []))) (fun t k => XS.icmpYes X0.here hx rfl (pc0 := 15) (pc' := 37) rfl (hb hby d1_15) rfl (flt (by decide : ¬ (0 : Int32) < (0 : Int32))).2.1 (by decide) (by decide) k) ?_
  refine OD.go (B := (s₁.setTop (mkF m 38 #[.val (.ref a1), .val (.double FP.dconst0), .second, .val (.ref a1), .val (.int (0 : Int32)), .val (.int (0 : Int32)), .unset, .unset] [(.double FP.dconst0)]))) (fun t k => XS.dloadN X0.here hx rfl (hb hby d1_37) rfl k) ?_
  exact OD.ret X0 hx hlk (t := .double) Bd.returns rfl (Or.inr (Or.inr (Or.inl ⟨rfl, rfl, _, rfl⟩))) (hb hby d1_38) (Nat.le_of_ble_eq_true rfl) (Nat.le_of_ble_eq_true rfl) ⟨rfl, rfl, e0⟩
def Q_rmH1 (Z : State) (a1 : Addr) (h0 : Heap) (d0 : UInt64) (v : Option Value) (h : Heap) (L : List Loc) : Prop := v = some (.double (Native.java_lang_Math.nans.pick64 true FP.dconst0 d0)) ∧ L = [] ∧ h = h0
set_option maxRecDepth 65536 in
set_option maxHeartbeats 40000000 in
theorem rmH1 (l : Launch) (Z : State) (a0 : Array Value) (hw : ∀ d ∈ tables_1, d.before a0 Z = true) (ws : List Jvm.Cond) (a1 : Addr) (h0 : Heap) (kA : ClassId) (d0 : UInt64) (n0 : Jvm.Free.Fl.NoNaN64 d0) (V0 : Arv Z h0 a1 kA .double (1 : Int32) [(.double d0)] (.double (0 : UInt64))) :
    MetFree l (⟨"com/example/querent/querent/ScoreScale", "highest", "([D)D"⟩ : MethodName) (head1 (Jvm.Cond.code (⟨"com/example/querent/querent/ScoreScale", "highest", "([D)D"⟩ : MethodName) prog_8_method_2_code 8 (some .double) :: ws) ({ frames := 1, cells := 0, slots := 0, locals := 15 } : Room)) (fun a U => a = #[(.ref a1)] ∧ Z.Warmed39 U.vm ∧ U.heap = h0) (fun _ _ _ _ _ => True) (fun _ U o U' => ∃ v L, o = .returned v ∧ Q_rmH1 Z a1 h0 d0 v U'.heap L ∧ FrameEnd U o U' L ({ frames := 1, cells := 0, slots := 0, locals := 15 } : Room).cells ({ frames := 1, cells := 0, slots := 0, locals := 15 } : Room).slots) := by
  refine MetFree.of_bodySF (plainFor_of_name pn0) hisR ?_
  intro p e s m args below meth c s₁ Bd hml0 hP hK
  obtain ⟨rfl, hZ, hh⟩ := hP
  have hx := Bd.exec
  have hby := Bd.bytes
  have hlk : meth.locks = false := Bd.notSynchronized
  have hml : c.maxLocals = 8 := hml0
  have hown : s.vm.findClass "com/example/querent/querent/ScoreScale" = some m.cls := findClass_of_methodNamed Bd.named
  have hnm := (name_of_methodNamed Bd.named Bd.method).1
  have X0 : Stand p l e ({ frames := 1, cells := 0, slots := 0, locals := 15 } : Room) s m #[(.ref a1)] below meth c s₁ [] 0 0 := Stand.of_body Bd
  have e0 : s₁.heap = h0 := by rw [← hh, Bd.state]; rfl
  suffices hgo : OD p e s below (Q_rmH1 Z a1 h0 d0) ({ frames := 1, cells := 0, slots := 0, locals := 15 } : Room).cells ({ frames := 1, cells := 0, slots := 0, locals := 15 } : Room).slots (s₁.setTop (mkF m 0 #[.val (.ref a1), .unset, .unset, .unset, .unset, .unset, .unset, .unset] [])) by
    obtain ⟨s₂, o, q1, q2⟩ := hgo
    exact ⟨s₂, o, castTop (ef1 m a1) q1, q2⟩
  refine OD.go (B := (s₁.setTop (mkF m 1 #[.val (.ref a1), .unset, .unset, .unset, .unset, .unset, .unset, .unset] [(.double FP.dconst0)]))) (fun t k => XS.dconst0 X0.here hx rfl (hb hby d1_0) (v := FP.dconst0) rfl k) ?_
  refine OD.go (B := (s₁.setTop (mkF m 2 #[.val (.ref a1), .val (.double FP.dconst0), .second, .unset, .unset, .unset, .unset, .unset] []))) (fun t k => XS.dstoreN X0.here hx rfl (hb hby d1_1) rfl (l' := #[.val (.ref a1), .val (.double FP.dconst0), .second, .unset, .unset, .unset, .unset, .unset]) rfl k) ?_
  refine OD.go (B := (s₁.setTop (mkF m 3 #[.val (.ref a1), .val (.double FP.dconst0), .second, .unset, .unset, .unset, .unset, .unset] [(.ref a1)]))) (fun t k => XS.aloadN X0.here hx rfl (hb hby d1_2) rfl rfl k) ?_
  refine OD.go (B := (s₁.setTop (mkF m 4 #[.val (.ref a1), .val (.double FP.dconst0), .second, .val (.ref a1), .unset, .unset, .unset, .unset] []))) (fun t k => XS.astoreN X0.here hx rfl (hb hby d1_3) rfl rfl (l' := #[.val (.ref a1), .val (.double FP.dconst0), .second, .val (.ref a1), .unset, .unset, .unset, .unset]) rfl k) ?_
  refine OD.go (B := (s₁.setTop (mkF m 5 #[.val (.ref a1), .val (.double FP.dconst0), .second, .val (.ref a1), .unset, .unset, .unset, .unset] [(.ref a1)]))) (fun t k => XS.aloadN X0.here hx rfl (hb hby d1_4) rfl rfl k) ?_
  obtain ⟨cl1, Ar1, hl1⟩ := own_len V0
  refine OD.go (B := (s₁.setTop (mkF m 6 #[.val (.ref a1), .val (.double FP.dconst0), .second, .val (.ref a1), .unset, .unset, .unset, .unset] [(.int (1 : Int32))]))) (fun t k => X0.arraylength hx (by rw [e0]; exact Ar1.1) (State.isArrayOf_alike hZ.alike Ar1.2.1) (g := (mkF m 5 #[.val (.ref a1), .val (.double FP.dconst0), .second, .val (.ref a1), .unset, .unset, .unset, .unset] [(.ref a1)])) rfl rfl (hb hby d1_5) _ (by rw [hl1]; exact k)) ?_
  refine OD.go (B := (s₁.setTop (mkF m 8 #[.val (.ref a1), .val (.double FP.dconst0), .second, .val (.ref a1), .val (.int (1 : Int32)), .unset, .unset, .unset] []))) (fun t k => XS.istore X0.here hx rfl (hb hby d1_6) rfl (l' := #[.val (.ref a1), .val (.double FP.dconst0), .second, .val (.ref a1), .val (.int (1 : Int32)), .unset, .unset, .unset]) rfl k) ?_
  refine OD.go (B := (s₁.setTop (mkF m 9 #[.val (.ref a1), .val (.double FP.dconst0), .second, .val (.ref a1), .val (.int (1 : Int32)), .unset, .unset, .unset] [(.int (0 : Int32))]))) (fun t k => XS.iconst X0.here hx rfl (hb hby d1_8) k) ?_
  refine OD.go (B := (s₁.setTop (mkF m 11 #[.val (.ref a1), .val (.double FP.dconst0), .second, .val (.ref a1), .val (.int (1 : Int32)), .val (.int (0 : Int32)), .unset, .unset] []))) (fun t k => XS.istore X0.here hx rfl (hb hby d1_9) rfl (l' := #[.val (.ref a1), .val (.double FP.dconst0), .second, .val (.ref a1), .val (.int (1 : Int32)), .val (.int (0 : Int32)), .unset, .unset]) rfl k) ?_
  refine OD.go (B := (s₁.setTop (mkF m 13 #[.val (.ref a1), .val (.double FP.dconst0), .second, .val (.ref a1), .val (.int (1 : Int32)), .val (.int (0 : Int32)), .unset, .unset] [(.int (0 : Int32))]))) (fun t k => XS.iload X0.here hx rfl (hb hby d1_11) rfl k) ?_
  refine OD.go (B := (s₁.setTop (mkF m 15 #[.val (.ref a1), .val (.double FP.dconst0), .second, .val (.ref a1), .val (.int (1 : Int32)), .val (.int (0 : Int32)), .unset, .unset] [(.int (1 : Int32)), (.int (0 : Int32))]))) (fun t k => XS.iload X0.here hx rfl (hb hby d1_13) rfl k) ?_
  refine OD.go (B := (s₁.setTop (mkF m 18 #[.val (.ref a1), .val (.double FP.dconst0), .second, .val (.ref a1), .val (.int (1 : Int32)), .val (.int (0 : Int32)), .unset, .unset] []))) (fun t k => XS.icmpNo X0.here hx rfl (hb hby d1_15) rfl (tlt (by decide : (0 : Int32) < (1 : Int32))).2.1 k) ?_
  refine OD.go (B := (s₁.setTop (mkF m 19 #[.val (.ref a1), .val (.double FP.dconst0), .second, .val (.ref a1), .val (.int (1 : Int32)), .val (.int (0 : Int32)), .unset, .unset] [(.ref a1)]))) (fun t k => XS.aloadN X0.here hx rfl (hb hby d1_18) rfl rfl k) ?_
  refine OD.go (B := (s₁.setTop (mkF m 21 #[.val (.ref a1), .val (.double FP.dconst0), .second, .val (.ref a1), .val (.int (1 : Int32)), .val (.int (0 : Int32)), .unset, .unset] [(.int (0 : Int32)), (.ref a1)]))) (fun t k => XS.iload X0.here hx rfl (hb hby d1_19) rfl k) ?_
  obtain ⟨cl2, Ar2, hi2, ha2⟩ := own_at V0 (j := (0 : Int32)) (v := (.double d0)) ⟨by decide, by decide⟩ rfl
  refine OD.go (B := (s₁.setTop (mkF m 22 #[.val (.ref a1), .val (.double FP.dconst0), .second, .val (.ref a1), .val (.int (1 : Int32)), .val (.int (0 : Int32)), .unset, .unset] [(.double d0)]))) (fun t k => X0.daload hx (j := (0 : Int32)) (v := (.double d0)) (by rw [e0]; exact Ar2.1) (State.isArrayOf_alike hZ.alike Ar2.2.1) Ar2.2.2 hi2 ha2 (g := (mkF m 21 #[.val (.ref a1), .val (.double FP.dconst0), .second, .val (.ref a1), .val (.int (1 : Int32)), .val (.int (0 : Int32)), .unset, .unset] [(.int (0 : Int32)), (.ref a1)])) rfl rfl (hb hby d1_21) _ k) ?_
  refine OD.go (B := (s₁.setTop (mkF m 24 #[.val (.ref a1), .val (.double FP.dconst0), .second, .val (.ref a1), .val (.int (1 : Int32)), .val (.int (0 : Int32)), .val (.double d0), .second] []))) (fun t k => XS.dstore X0.here hx rfl (hb hby d1_22) rfl (l' := #[.val (.ref a1), .val (.double FP.dconst0), .second, .val (.ref a1), .val (.int (1 : Int32)), .val (.int (0 : Int32)), .val (.double d0), .second]) rfl k) ?_
  refine OD.go (B := (s₁.setTop (mkF m 25 #[.val (.ref a1), .val (.double FP.dconst0), .second, .val (.ref a1), .val (.int (1 : Int32)), .val (.int (0 : Int32)), .val (.double d0), .second] [(.double FP.dconst0)]))) (fun t k => XS.dloadN X0.here hx rfl (hb hby d1_24) rfl k) ?_
  refine OD.go (B := (s₁.setTop (mkF m 27 #[.val (.ref a1), .val (.double FP.dconst0), .second, .val (.ref a1), .val (.int (1 : Int32)), .val (.int (0 : Int32)), .val (.double d0), .second] [(.double d0), (.double FP.dconst0)]))) (fun t k => XS.dload X0.here hx rfl (hb hby d1_25) rfl k) ?_
  obtain ⟨T3, X3, e3, st3⟩ := natS X0 hx hZ hown (Wd10 hw) (Wd11 hw) (Wd8 hw) (Wd12 hw) (by decide) e0 (W := 0) (fun hc => Fl.Abs.maxD_pays (W := 0) FP.dconst0 d0 hc (by decide) (by decide)) (g := (mkF m 27 #[.val (.ref a1), .val (.double FP.dconst0), .second, .val (.ref a1), .val (.int (1 : Int32)), .val (.int (0 : Int32)), .val (.double d0), .second] [(.double d0), (.double FP.dconst0)])) rfl (by rw [hml]; rfl) (argsL := [(.double FP.dconst0), (.double d0)]) (rest := []) (lenOf pd0 rfl) rfl (by show 2 * 0 + _ ≤ _; exact Nat.le_of_eq rfl) (hb hby d1_27) (by decide) (by decide) ⟨rfl, own_nn0, n0⟩ (val' := .double (Native.java_lang_Math.nans.pick64 true FP.dconst0 d0)) rfl
  refine OD.go (B := (T3.setTop (mkF m 30 #[.val (.ref a1), .val (.double FP.dconst0), .second, .val (.ref a1), .val (.int (1 : Int32)), .val (.int (0 : Int32)), .val (.double d0), .second] [(.double (Native.java_lang_Math.nans.pick64 true FP.dconst0 d0))]))) st3 ?_
  refine OD.go (B := (T3.setTop (mkF m 31 #[.val (.ref a1), .val (.double (Native.java_lang_Math.nans.pick64 true FP.dconst0 d0)), .second, .val (.ref a1), .val (.int (1 : Int32)), .val (.int (0 : Int32)), .val (.double d0), .second] []))) (fun t k => XS.dstoreN X3.here hx rfl (hb hby d1_30) rfl (l' := #[.val (.ref a1), .val (.double (Native.java_lang_Math.nans.pick64 true FP.dconst0 d0)), .second, .val (.ref a1), .val (.int (1 : Int32)), .val (.int (0 : Int32)), .val (.double d0), .second]) rfl k) ?_
  refine OD.go (B := (T3.setTop (mkF m 34 #[.val (.ref a1), .val (.double (Native.java_lang_Math.nans.pick64 true FP.dconst0 d0)), .second, .val (.ref a1), .val (.int (1 : Int32)), .val (.int (1 : Int32)), .val (.double d0), .second] []))) (fun t k => XS.iinc X3.here hx rfl (hb hby d1_31) rfl (l' := #[.val (.ref a1), .val (.double (Native.java_lang_Math.nans.pick64 true FP.dconst0 d0)), .second, .val (.ref a1), .val (.int (1 : Int32)), .val (.int (1 : Int32)), .val (.double d0), .second]) rfl k) ?_
  refine OD.go (B := (T3.setTop (mkF m 11 #[.val (.ref a1), .val (.double (Native.java_lang_Math.nans.pick64 true FP.dconst0 d0)), .second, .val (.ref a1), .val (.int (1 : Int32)), .val (.int (1 : Int32)), .val (.double d0), .second] []))) (fun t k => XS.goto X3.here hx rfl (pc0 := 34) (pc' := 11) rfl (hb hby d1_34) (by decide) (by decide) k) ?_
  refine OD.go (B := (T3.setTop (mkF m 13 #[.val (.ref a1), .val (.double (Native.java_lang_Math.nans.pick64 true FP.dconst0 d0)), .second, .val (.ref a1), .val (.int (1 : Int32)), .val (.int (1 : Int32)), .val (.double d0), .second] [(.int (1 : Int32))]))) (fun t k => XS.iload X3.here hx rfl (hb hby d1_11) rfl k) ?_
  refine OD.go (B := (T3.setTop (mkF m 15 #[.val (.ref a1), .val (.double (Native.java_lang_Math.nans.pick64 true FP.dconst0 d0)), .second, .val (.ref a1), .val (.int (1 : Int32)), .val (.int (1 : Int32)), .val (.double d0), .second] [(.int (1 : Int32)), (.int (1 : Int32))]))) (fun t k => XS.iload X3.here hx rfl (hb hby d1_13) rfl k) ?_
  refine OD.go (B := (T3.setTop (mkF m 37 #[.val (.ref a1), .val (.double (Native.java_lang_Math.nans.pick64 true FP.dconst0 d0)), .second, .val (.ref a1), .val (.int (1 : Int32)), .val (.int (1 : Int32)), .val (.double d0), .second] []))) (fun t k => XS.icmpYes X3.here hx rfl (pc0 := 15) (pc' := 37) rfl (hb hby d1_15) rfl (flt (by decide : ¬ (1 : Int32) < (1 : Int32))).2.1 (by decide) (by decide) k) ?_
  refine OD.go (B := (T3.setTop (mkF m 38 #[.val (.ref a1), .val (.double (Native.java_lang_Math.nans.pick64 true FP.dconst0 d0)), .second, .val (.ref a1), .val (.int (1 : Int32)), .val (.int (1 : Int32)), .val (.double d0), .second] [(.double (Native.java_lang_Math.nans.pick64 true FP.dconst0 d0))]))) (fun t k => XS.dloadN X3.here hx rfl (hb hby d1_37) rfl k) ?_
  exact OD.ret X3 hx hlk (t := .double) Bd.returns rfl (Or.inr (Or.inr (Or.inl ⟨rfl, rfl, _, rfl⟩))) (hb hby d1_38) (Nat.le_of_ble_eq_true rfl) (Nat.le_of_ble_eq_true rfl) ⟨rfl, rfl, e3⟩
def Q_rmH2 (Z : State) (a1 : Addr) (h0 : Heap) (d0 : UInt64) (d1 : UInt64) (v : Option Value) (h : Heap) (L : List Loc) : Prop := v = some (.double (Native.java_lang_Math.nans.pick64 true (Native.java_lang_Math.nans.pick64 true FP.dconst0 d0) d1)) ∧ L = [] ∧ h = h0
set_option maxRecDepth 65536 in
set_option maxHeartbeats 40000000 in
theorem rmH2 (l : Launch) (Z : State) (a0 : Array Value) (hw : ∀ d ∈ tables_1, d.before a0 Z = true) (ws : List Jvm.Cond) (a1 : Addr) (h0 : Heap) (kA : ClassId) (d0 : UInt64) (d1 : UInt64) (n0 : Jvm.Free.Fl.NoNaN64 d0) (n1 : Jvm.Free.Fl.NoNaN64 d1) (V0 : Arv Z h0 a1 kA .double (2 : Int32) [(.double d0), (.double d1)] (.double (0 : UInt64))) :
    MetFree l (⟨"com/example/querent/querent/ScoreScale", "highest", "([D)D"⟩ : MethodName) (head1 (Jvm.Cond.code (⟨"com/example/querent/querent/ScoreScale", "highest", "([D)D"⟩ : MethodName) prog_8_method_2_code 8 (some .double) :: ws) ({ frames := 1, cells := 0, slots := 0, locals := 15 } : Room)) (fun a U => a = #[(.ref a1)] ∧ Z.Warmed39 U.vm ∧ U.heap = h0) (fun _ _ _ _ _ => True) (fun _ U o U' => ∃ v L, o = .returned v ∧ Q_rmH2 Z a1 h0 d0 d1 v U'.heap L ∧ FrameEnd U o U' L ({ frames := 1, cells := 0, slots := 0, locals := 15 } : Room).cells ({ frames := 1, cells := 0, slots := 0, locals := 15 } : Room).slots) := by
  refine MetFree.of_bodySF (plainFor_of_name pn0) hisR ?_
  intro p e s m args below meth c s₁ Bd hml0 hP hK
  obtain ⟨rfl, hZ, hh⟩ := hP
  have hx := Bd.exec
  have hby := Bd.bytes
  have hlk : meth.locks = false := Bd.notSynchronized
  have hml : c.maxLocals = 8 := hml0
  have hown : s.vm.findClass "com/example/querent/querent/ScoreScale" = some m.cls := findClass_of_methodNamed Bd.named
  have hnm := (name_of_methodNamed Bd.named Bd.method).1
  have X0 : Stand p l e ({ frames := 1, cells := 0, slots := 0, locals := 15 } : Room) s m #[(.ref a1)] below meth c s₁ [] 0 0 := Stand.of_body Bd
  have e0 : s₁.heap = h0 := by rw [← hh, Bd.state]; rfl
  suffices hgo : OD p e s below (Q_rmH2 Z a1 h0 d0 d1) ({ frames := 1, cells := 0, slots := 0, locals := 15 } : Room).cells ({ frames := 1, cells := 0, slots := 0, locals := 15 } : Room).slots (s₁.setTop (mkF m 0 #[.val (.ref a1), .unset, .unset, .unset, .unset, .unset, .unset, .unset] [])) by
    obtain ⟨s₂, o, q1, q2⟩ := hgo
    exact ⟨s₂, o, castTop (ef1 m a1) q1, q2⟩
  refine OD.go (B := (s₁.setTop (mkF m 1 #[.val (.ref a1), .unset, .unset, .unset, .unset, .unset, .unset, .unset] [(.double FP.dconst0)]))) (fun t k => XS.dconst0 X0.here hx rfl (hb hby d1_0) (v := FP.dconst0) rfl k) ?_
  refine OD.go (B := (s₁.setTop (mkF m 2 #[.val (.ref a1), .val (.double FP.dconst0), .second, .unset, .unset, .unset, .unset, .unset] []))) (fun t k => XS.dstoreN X0.here hx rfl (hb hby d1_1) rfl (l' := #[.val (.ref a1), .val (.double FP.dconst0), .second, .unset, .unset, .unset, .unset, .unset]) rfl k) ?_
  refine OD.go (B := (s₁.setTop (mkF m 3 #[.val (.ref a1), .val (.double FP.dconst0), .second, .unset, .unset, .unset, .unset, .unset] [(.ref a1)]))) (fun t k => XS.aloadN X0.here hx rfl (hb hby d1_2) rfl rfl k) ?_
  refine OD.go (B := (s₁.setTop (mkF m 4 #[.val (.ref a1), .val (.double FP.dconst0), .second, .val (.ref a1), .unset, .unset, .unset, .unset] []))) (fun t k => XS.astoreN X0.here hx rfl (hb hby d1_3) rfl rfl (l' := #[.val (.ref a1), .val (.double FP.dconst0), .second, .val (.ref a1), .unset, .unset, .unset, .unset]) rfl k) ?_
  refine OD.go (B := (s₁.setTop (mkF m 5 #[.val (.ref a1), .val (.double FP.dconst0), .second, .val (.ref a1), .unset, .unset, .unset, .unset] [(.ref a1)]))) (fun t k => XS.aloadN X0.here hx rfl (hb hby d1_4) rfl rfl k) ?_
  obtain ⟨cl1, Ar1, hl1⟩ := own_len V0
  refine OD.go (B := (s₁.setTop (mkF m 6 #[.val (.ref a1), .val (.double FP.dconst0), .second, .val (.ref a1), .unset, .unset, .unset, .unset] [(.int (2 : Int32))]))) (fun t k => X0.arraylength hx (by rw [e0]; exact Ar1.1) (State.isArrayOf_alike hZ.alike Ar1.2.1) (g := (mkF m 5 #[.val (.ref a1), .val (.double FP.dconst0), .second, .val (.ref a1), .unset, .unset, .unset, .unset] [(.ref a1)])) rfl rfl (hb hby d1_5) _ (by rw [hl1]; exact k)) ?_
  refine OD.go (B := (s₁.setTop (mkF m 8 #[.val (.ref a1), .val (.double FP.dconst0), .second, .val (.ref a1), .val (.int (2 : Int32)), .unset, .unset, .unset] []))) (fun t k => XS.istore X0.here hx rfl (hb hby d1_6) rfl (l' := #[.val (.ref a1), .val (.double FP.dconst0), .second, .val (.ref a1), .val (.int (2 : Int32)), .unset, .unset, .unset]) rfl k) ?_
  refine OD.go (B := (s₁.setTop (mkF m 9 #[.val (.ref a1), .val (.double FP.dconst0), .second, .val (.ref a1), .val (.int (2 : Int32)), .unset, .unset, .unset] [(.int (0 : Int32))]))) (fun t k => XS.iconst X0.here hx rfl (hb hby d1_8) k) ?_
  refine OD.go (B := (s₁.setTop (mkF m 11 #[.val (.ref a1), .val (.double FP.dconst0), .second, .val (.ref a1), .val (.int (2 : Int32)), .val (.int (0 : Int32)), .unset, .unset] []))) (fun t k => XS.istore X0.here hx rfl (hb hby d1_9) rfl (l' := #[.val (.ref a1), .val (.double FP.dconst0), .second, .val (.ref a1), .val (.int (2 : Int32)), .val (.int (0 : Int32)), .unset, .unset]) rfl k) ?_
  refine OD.go (B := (s₁.setTop (mkF m 13 #[.val (.ref a1), .val (.double FP.dconst0), .second, .val (.ref a1), .val (.int (2 : Int32)), .val (.int (0 : Int32)), .unset, .unset] [(.int (0 : Int32))]))) (fun t k => XS.iload X0.here hx rfl (hb hby d1_11) rfl k) ?_
  refine OD.go (B := (s₁.setTop (mkF m 15 #[.val (.ref a1), .val (.double FP.dconst0), .second, .val (.ref a1), .val (.int (2 : Int32)), .val (.int (0 : Int32)), .unset, .unset] [(.int (2 : Int32)), (.int (0 : Int32))]))) (fun t k => XS.iload X0.here hx rfl (hb hby d1_13) rfl k) ?_
  refine OD.go (B := (s₁.setTop (mkF m 18 #[.val (.ref a1), .val (.double FP.dconst0), .second, .val (.ref a1), .val (.int (2 : Int32)), .val (.int (0 : Int32)), .unset, .unset] []))) (fun t k => XS.icmpNo X0.here hx rfl (hb hby d1_15) rfl (tlt (by decide : (0 : Int32) < (2 : Int32))).2.1 k) ?_
  refine OD.go (B := (s₁.setTop (mkF m 19 #[.val (.ref a1), .val (.double FP.dconst0), .second, .val (.ref a1), .val (.int (2 : Int32)), .val (.int (0 : Int32)), .unset, .unset] [(.ref a1)]))) (fun t k => XS.aloadN X0.here hx rfl (hb hby d1_18) rfl rfl k) ?_
  refine OD.go (B := (s₁.setTop (mkF m 21 #[.val (.ref a1), .val (.double FP.dconst0), .second, .val (.ref a1), .val (.int (2 : Int32)), .val (.int (0 : Int32)), .unset, .unset] [(.int (0 : Int32)), (.ref a1)]))) (fun t k => XS.iload X0.here hx rfl (hb hby d1_19) rfl k) ?_
  obtain ⟨cl2, Ar2, hi2, ha2⟩ := own_at V0 (j := (0 : Int32)) (v := (.double d0)) ⟨by decide, by decide⟩ rfl
  refine OD.go (B := (s₁.setTop (mkF m 22 #[.val (.ref a1), .val (.double FP.dconst0), .second, .val (.ref a1), .val (.int (2 : Int32)), .val (.int (0 : Int32)), .unset, .unset] [(.double d0)]))) (fun t k => X0.daload hx (j := (0 : Int32)) (v := (.double d0)) (by rw [e0]; exact Ar2.1) (State.isArrayOf_alike hZ.alike Ar2.2.1) Ar2.2.2 hi2 ha2 (g := (mkF m 21 #[.val (.ref a1), .val (.double FP.dconst0), .second, .val (.ref a1), .val (.int (2 : Int32)), .val (.int (0 : Int32)), .unset, .unset] [(.int (0 : Int32)), (.ref a1)])) rfl rfl (hb hby d1_21) _ k) ?_
  refine OD.go (B := (s₁.setTop (mkF m 24 #[.val (.ref a1), .val (.double FP.dconst0), .second, .val (.ref a1), .val (.int (2 : Int32)), .val (.int (0 : Int32)), .val (.double d0), .second] []))) (fun t k => XS.dstore X0.here hx rfl (hb hby d1_22) rfl (l' := #[.val (.ref a1), .val (.double FP.dconst0), .second, .val (.ref a1), .val (.int (2 : Int32)), .val (.int (0 : Int32)), .val (.double d0), .second]) rfl k) ?_
  refine OD.go (B := (s₁.setTop (mkF m 25 #[.val (.ref a1), .val (.double FP.dconst0), .second, .val (.ref a1), .val (.int (2 : Int32)), .val (.int (0 : Int32)), .val (.double d0), .second] [(.double FP.dconst0)]))) (fun t k => XS.dloadN X0.here hx rfl (hb hby d1_24) rfl k) ?_
  refine OD.go (B := (s₁.setTop (mkF m 27 #[.val (.ref a1), .val (.double FP.dconst0), .second, .val (.ref a1), .val (.int (2 : Int32)), .val (.int (0 : Int32)), .val (.double d0), .second] [(.double d0), (.double FP.dconst0)]))) (fun t k => XS.dload X0.here hx rfl (hb hby d1_25) rfl k) ?_
  obtain ⟨T3, X3, e3, st3⟩ := natS X0 hx hZ hown (Wd10 hw) (Wd11 hw) (Wd8 hw) (Wd12 hw) (by decide) e0 (W := 0) (fun hc => Fl.Abs.maxD_pays (W := 0) FP.dconst0 d0 hc (by decide) (by decide)) (g := (mkF m 27 #[.val (.ref a1), .val (.double FP.dconst0), .second, .val (.ref a1), .val (.int (2 : Int32)), .val (.int (0 : Int32)), .val (.double d0), .second] [(.double d0), (.double FP.dconst0)])) rfl (by rw [hml]; rfl) (argsL := [(.double FP.dconst0), (.double d0)]) (rest := []) (lenOf pd0 rfl) rfl (by show 2 * 0 + _ ≤ _; exact Nat.le_of_eq rfl) (hb hby d1_27) (by decide) (by decide) ⟨rfl, own_nn0, n0⟩ (val' := .double (Native.java_lang_Math.nans.pick64 true FP.dconst0 d0)) rfl
  refine OD.go (B := (T3.setTop (mkF m 30 #[.val (.ref a1), .val (.double FP.dconst0), .second, .val (.ref a1), .val (.int (2 : Int32)), .val (.int (0 : Int32)), .val (.double d0), .second] [(.double (Native.java_lang_Math.nans.pick64 true FP.dconst0 d0))]))) st3 ?_
  refine OD.go (B := (T3.setTop (mkF m 31 #[.val (.ref a1), .val (.double (Native.java_lang_Math.nans.pick64 true FP.dconst0 d0)), .second, .val (.ref a1), .val (.int (2 : Int32)), .val (.int (0 : Int32)), .val (.double d0), .second] []))) (fun t k => XS.dstoreN X3.here hx rfl (hb hby d1_30) rfl (l' := #[.val (.ref a1), .val (.double (Native.java_lang_Math.nans.pick64 true FP.dconst0 d0)), .second, .val (.ref a1), .val (.int (2 : Int32)), .val (.int (0 : Int32)), .val (.double d0), .second]) rfl k) ?_
  refine OD.go (B := (T3.setTop (mkF m 34 #[.val (.ref a1), .val (.double (Native.java_lang_Math.nans.pick64 true FP.dconst0 d0)), .second, .val (.ref a1), .val (.int (2 : Int32)), .val (.int (1 : Int32)), .val (.double d0), .second] []))) (fun t k => XS.iinc X3.here hx rfl (hb hby d1_31) rfl (l' := #[.val (.ref a1), .val (.double (Native.java_lang_Math.nans.pick64 true FP.dconst0 d0)), .second, .val (.ref a1), .val (.int (2 : Int32)), .val (.int (1 : Int32)), .val (.double d0), .second]) rfl k) ?_
  refine OD.go (B := (T3.setTop (mkF m 11 #[.val (.ref a1), .val (.double (Native.java_lang_Math.nans.pick64 true FP.dconst0 d0)), .second, .val (.ref a1), .val (.int (2 : Int32)), .val (.int (1 : Int32)), .val (.double d0), .second] []))) (fun t k => XS.goto X3.here hx rfl (pc0 := 34) (pc' := 11) rfl (hb hby d1_34) (by decide) (by decide) k) ?_
  refine OD.go (B := (T3.setTop (mkF m 13 #[.val (.ref a1), .val (.double (Native.java_lang_Math.nans.pick64 true FP.dconst0 d0)), .second, .val (.ref a1), .val (.int (2 : Int32)), .val (.int (1 : Int32)), .val (.double d0), .second] [(.int (1 : Int32))]))) (fun t k => XS.iload X3.here hx rfl (hb hby d1_11) rfl k) ?_
  refine OD.go (B := (T3.setTop (mkF m 15 #[.val (.ref a1), .val (.double (Native.java_lang_Math.nans.pick64 true FP.dconst0 d0)), .second, .val (.ref a1), .val (.int (2 : Int32)), .val (.int (1 : Int32)), .val (.double d0), .second] [(.int (2 : Int32)), (.int (1 : Int32))]))) (fun t k => XS.iload X3.here hx rfl (hb hby d1_13) rfl k) ?_
  refine OD.go (B := (T3.setTop (mkF m 18 #[.val (.ref a1), .val (.double (Native.java_lang_Math.nans.pick64 true FP.dconst0 d0)), .second, .val (.ref a1), .val (.int (2 : Int32)), .val (.int (1 : Int32)), .val (.double d0), .second] []))) (fun t k => XS.icmpNo X3.here hx rfl (hb hby d1_15) rfl (tlt (by decide : (1 : Int32) < (2 : Int32))).2.1 k) ?_
  refine OD.go (B := (T3.setTop (mkF m 19 #[.val (.ref a1), .val (.double (Native.java_lang_Math.nans.pick64 true FP.dconst0 d0)), .second, .val (.ref a1), .val (.int (2 : Int32)), .val (.int (1 : Int32)), .val (.double d0), .second] [(.ref a1)]))) (fun t k => XS.aloadN X3.here hx rfl (hb hby d1_18) rfl rfl k) ?_
  refine OD.go (B := (T3.setTop (mkF m 21 #[.val (.ref a1), .val (.double (Native.java_lang_Math.nans.pick64 true FP.dconst0 d0)), .second, .val (.ref a1), .val (.int (2 : Int32)), .val (.int (1 : Int32)), .val (.double d0), .second] [(.int (1 : Int32)), (.ref a1)]))) (fun t k => XS.iload X3.here hx rfl (hb hby d1_19) rfl k) ?_
  obtain ⟨cl4, Ar4, hi4, ha4⟩ := own_at V0 (j := (1 : Int32)) (v := (.double d1)) ⟨by decide, by decide⟩ rfl
  refine OD.go (B := (T3.setTop (mkF m 22 #[.val (.ref a1), .val (.double (Native.java_lang_Math.nans.pick64 true FP.dconst0 d0)), .second, .val (.ref a1), .val (.int (2 : Int32)), .val (.int (1 : Int32)), .val (.double d0), .second] [(.double d1)]))) (fun t k => X3.daload hx (j := (1 : Int32)) (v := (.double d1)) (by rw [e3]; exact Ar4.1) (State.isArrayOf_alike hZ.alike Ar4.2.1) Ar4.2.2 hi4 ha4 (g := (mkF m 21 #[.val (.ref a1), .val (.double (Native.java_lang_Math.nans.pick64 true FP.dconst0 d0)), .second, .val (.ref a1), .val (.int (2 : Int32)), .val (.int (1 : Int32)), .val (.double d0), .second] [(.int (1 : Int32)), (.ref a1)])) rfl rfl (hb hby d1_21) _ k) ?_
  refine OD.go (B := (T3.setTop (mkF m 24 #[.val (.ref a1), .val (.double (Native.java_lang_Math.nans.pick64 true FP.dconst0 d0)), .second, .val (.ref a1), .val (.int (2 : Int32)), .val (.int (1 : Int32)), .val (.double d1), .second] []))) (fun t k => XS.dstore X3.here hx rfl (hb hby d1_22) rfl (l' := #[.val (.ref a1), .val (.double (Native.java_lang_Math.nans.pick64 true FP.dconst0 d0)), .second, .val (.ref a1), .val (.int (2 : Int32)), .val (.int (1 : Int32)), .val (.double d1), .second]) rfl k) ?_
  refine OD.go (B := (T3.setTop (mkF m 25 #[.val (.ref a1), .val (.double (Native.java_lang_Math.nans.pick64 true FP.dconst0 d0)), .second, .val (.ref a1), .val (.int (2 : Int32)), .val (.int (1 : Int32)), .val (.double d1), .second] [(.double (Native.java_lang_Math.nans.pick64 true FP.dconst0 d0))]))) (fun t k => XS.dloadN X3.here hx rfl (hb hby d1_24) rfl k) ?_
  refine OD.go (B := (T3.setTop (mkF m 27 #[.val (.ref a1), .val (.double (Native.java_lang_Math.nans.pick64 true FP.dconst0 d0)), .second, .val (.ref a1), .val (.int (2 : Int32)), .val (.int (1 : Int32)), .val (.double d1), .second] [(.double d1), (.double (Native.java_lang_Math.nans.pick64 true FP.dconst0 d0))]))) (fun t k => XS.dload X3.here hx rfl (hb hby d1_25) rfl k) ?_
  obtain ⟨T5, X5, e5, st5⟩ := natS X3 hx hZ hown (Wd10 hw) (Wd11 hw) (Wd8 hw) (Wd12 hw) (by decide) e3 (W := 0) (fun hc => Fl.Abs.maxD_pays (W := 0) (Native.java_lang_Math.nans.pick64 true FP.dconst0 d0) d1 hc (by decide) (by decide)) (g := (mkF m 27 #[.val (.ref a1), .val (.double (Native.java_lang_Math.nans.pick64 true FP.dconst0 d0)), .second, .val (.ref a1), .val (.int (2 : Int32)), .val (.int (1 : Int32)), .val (.double d1), .second] [(.double d1), (.double (Native.java_lang_Math.nans.pick64 true FP.dconst0 d0))])) rfl (by rw [hml]; rfl) (argsL := [(.double (Native.java_lang_Math.nans.pick64 true FP.dconst0 d0)), (.double d1)]) (rest := []) (lenOf pd0 rfl) rfl (by show 2 * 0 + _ ≤ _; exact Nat.le_of_eq rfl) (hb hby d1_27) (by decide) (by decide) ⟨rfl, (Fl.pick64_noNaN own_nn0 n0), n1⟩ (val' := .double (Native.java_lang_Math.nans.pick64 true (Native.java_lang_Math.nans.pick64 true FP.dconst0 d0) d1)) rfl
  refine OD.go (B := (T5.setTop (mkF m 30 #[.val (.ref a1), .val (.double (Native.java_lang_Math.nans.pick64 true FP.dconst0 d0)), .second, .val (.ref a1), .val (.int (2 : Int32)), .val (.int (1 : Int32)), .val (.double d1), .second] [(.double (Native.java_lang_Math.nans.pick64 true (Native.java_lang_Math.nans.pick64 true FP.dconst0 d0) d1))]))) st5 ?_
  refine OD.go (B := (T5.setTop (mkF m 31 #[.val (.ref a1), .val (.double (Native.java_lang_Math.nans.pick64 true (Native.java_lang_Math.nans.pick64 true FP.dconst0 d0) d1)), .second, .val (.ref a1), .val (.int (2 : Int32)), .val (.int (1 : Int32)), .val (.double d1), .second] []))) (fun t k => XS.dstoreN X5.here hx rfl (hb hby d1_30) rfl (l' := #[.val (.ref a1), .val (.double (Native.java_lang_Math.nans.pick64 true (Native.java_lang_Math.nans.pick64 true FP.dconst0 d0) d1)), .second, .val (.ref a1), .val (.int (2 : Int32)), .val (.int (1 : Int32)), .val (.double d1), .second]) rfl k) ?_
  refine OD.go (B := (T5.setTop (mkF m 34 #[.val (.ref a1), .val (.double (Native.java_lang_Math.nans.pick64 true (Native.java_lang_Math.nans.pick64 true FP.dconst0 d0) d1)), .second, .val (.ref a1), .val (.int (2 : Int32)), .val (.int (2 : Int32)), .val (.double d1), .second] []))) (fun t k => XS.iinc X5.here hx rfl (hb hby d1_31) rfl (l' := #[.val (.ref a1), .val (.double (Native.java_lang_Math.nans.pick64 true (Native.java_lang_Math.nans.pick64 true FP.dconst0 d0) d1)), .second, .val (.ref a1), .val (.int (2 : Int32)), .val (.int (2 : Int32)), .val (.double d1), .second]) rfl k) ?_
  refine OD.go (B := (T5.setTop (mkF m 11 #[.val (.ref a1), .val (.double (Native.java_lang_Math.nans.pick64 true (Native.java_lang_Math.nans.pick64 true FP.dconst0 d0) d1)), .second, .val (.ref a1), .val (.int (2 : Int32)), .val (.int (2 : Int32)), .val (.double d1), .second] []))) (fun t k => XS.goto X5.here hx rfl (pc0 := 34) (pc' := 11) rfl (hb hby d1_34) (by decide) (by decide) k) ?_
  refine OD.go (B := (T5.setTop (mkF m 13 #[.val (.ref a1), .val (.double (Native.java_lang_Math.nans.pick64 true (Native.java_lang_Math.nans.pick64 true FP.dconst0 d0) d1)), .second, .val (.ref a1), .val (.int (2 : Int32)), .val (.int (2 : Int32)), .val (.double d1), .second] [(.int (2 : Int32))]))) (fun t k => XS.iload X5.here hx rfl (hb hby d1_11) rfl k) ?_
  refine OD.go (B := (T5.setTop (mkF m 15 #[.val (.ref a1), .val (.double (Native.java_lang_Math.nans.pick64 true (Native.java_lang_Math.nans.pick64 true FP.dconst0 d0) d1)), .second, .val (.ref a1), .val (.int (2 : Int32)), .val (.int (2 : Int32)), .val (.double d1), .second] [(.int (2 : Int32)), (.int (2 : Int32))]))) (fun t k => XS.iload X5.here hx rfl (hb hby d1_13) rfl k) ?_
  refine OD.go (B := (T5.setTop (mkF m 37 #[.val (.ref a1), .val (.double (Native.java_lang_Math.nans.pick64 true (Native.java_lang_Math.nans.pick64 true FP.dconst0 d0) d1)), .second, .val (.ref a1), .val (.int (2 : Int32)), .val (.int (2 : Int32)), .val (.double d1), .second] []))) (fun t k => XS.icmpYes X5.here hx rfl (pc0 := 15) (pc' := 37) rfl (hb hby d1_15) rfl (flt (by decide : ¬ (2 : Int32) < (2 : Int32))).2.1 (by decide) (by decide) k) ?_
  refine OD.go (B := (T5.setTop (mkF m 38 #[.val (.ref a1), .val (.double (Native.java_lang_Math.nans.pick64 true (Native.java_lang_Math.nans.pick64 true FP.dconst0 d0) d1)), .second, .val (.ref a1), .val (.int (2 : Int32)), .val (.int (2 : Int32)), .val (.double d1), .second] [(.double (Native.java_lang_Math.nans.pick64 true (Native.java_lang_Math.nans.pick64 true FP.dconst0 d0) d1))]))) (fun t k => XS.dloadN X5.here hx rfl (hb hby d1_37) rfl k) ?_
  exact OD.ret X5 hx hlk (t := .double) Bd.returns rfl (Or.inr (Or.inr (Or.inl ⟨rfl, rfl, _, rfl⟩))) (hb hby d1_38) (Nat.le_of_ble_eq_true rfl) (Nat.le_of_ble_eq_true rfl) ⟨rfl, rfl, e5⟩
def Q_rmH3 (Z : State) (a1 : Addr) (h0 : Heap) (d0 : UInt64) (d1 : UInt64) (d2 : UInt64) (v : Option Value) (h : Heap) (L : List Loc) : Prop := v = some (.double (Native.java_lang_Math.nans.pick64 true (Native.java_lang_Math.nans.pick64 true (Native.java_lang_Math.nans.pick64 true FP.dconst0 d0) d1) d2)) ∧ L = [] ∧ h = h0
set_option maxRecDepth 65536 in
set_option maxHeartbeats 40000000 in
theorem rmH3 (l : Launch) (Z : State) (a0 : Array Value) (hw : ∀ d ∈ tables_1, d.before a0 Z = true) (ws : List Jvm.Cond) (a1 : Addr) (h0 : Heap) (kA : ClassId) (d0 : UInt64) (d1 : UInt64) (d2 : UInt64) (n0 : Jvm.Free.Fl.NoNaN64 d0) (n1 : Jvm.Free.Fl.NoNaN64 d1) (n2 : Jvm.Free.Fl.NoNaN64 d2) (V0 : Arv Z h0 a1 kA .double (3 : Int32) [(.double d0), (.double d1), (.double d2)] (.double (0 : UInt64))) :
    MetFree l (⟨"com/example/querent/querent/ScoreScale", "highest", "([D)D"⟩ : MethodName) (head1 (Jvm.Cond.code (⟨"com/example/querent/querent/ScoreScale", "highest", "([D)D"⟩ : MethodName) prog_8_method_2_code 8 (some .double) :: ws) ({ frames := 1, cells := 0, slots := 0, locals := 15 } : Room)) (fun a U => a = #[(.ref a1)] ∧ Z.Warmed39 U.vm ∧ U.heap = h0) (fun _ _ _ _ _ => True) (fun _ U o U' => ∃ v L, o = .returned v ∧ Q_rmH3 Z a1 h0 d0 d1 d2 v U'.heap L ∧ FrameEnd U o U' L ({ frames := 1, cells := 0, slots := 0, locals := 15 } : Room).cells ({ frames := 1, cells := 0, slots := 0, locals := 15 } : Room).slots) := by
  refine MetFree.of_bodySF (plainFor_of_name pn0) hisR ?_
  intro p e s m args below meth c s₁ Bd hml0 hP hK
  obtain ⟨rfl, hZ, hh⟩ := hP
  have hx := Bd.exec
  have hby := Bd.bytes
  have hlk : meth.locks = false := Bd.notSynchronized
  have hml : c.maxLocals = 8 := hml0
  have hown : s.vm.findClass "com/example/querent/querent/ScoreScale" = some m.cls := findClass_of_methodNamed Bd.named
  have hnm := (name_of_methodNamed Bd.named Bd.method).1
  have X0 : Stand p l e ({ frames := 1, cells := 0, slots := 0, locals := 15 } : Room) s m #[(.ref a1)] below meth c s₁ [] 0 0 := Stand.of_body Bd
  have e0 : s₁.heap = h0 := by rw [← hh, Bd.state]; rfl
  suffices hgo : OD p e s below (Q_rmH3 Z a1 h0 d0 d1 d2) ({ frames := 1, cells := 0, slots := 0, locals := 15 } : Room).cells ({ frames := 1, cells := 0, slots := 0, locals := 15 } : Room).slots (s₁.setTop (mkF m 0 #[.val (.ref a1), .unset, .unset, .unset, .unset, .unset, .unset, .unset] [])) by
    obtain ⟨s₂, o, q1, q2⟩ := hgo
    exact ⟨s₂, o, castTop (ef1 m a1) q1, q2⟩
  refine OD.go (B := (s₁.setTop (mkF m 1 #[.val (.ref a1), .unset, .unset, .unset, .unset, .unset, .unset, .unset] [(.double FP.dconst0)]))) (fun t k => XS.dconst0 X0.here hx rfl (hb hby d1_0) (v := FP.dconst0) rfl k) ?_
  refine OD.go (B := (s₁.setTop (mkF m 2 #[.val (.ref a1), .val (.double FP.dconst0), .second, .unset, .unset, .unset, .unset, .unset] []))) (fun t k => XS.dstoreN X0.here hx rfl (hb hby d1_1) rfl (l' := #[.val (.ref a1), .val (.double FP.dconst0), .second, .unset, .unset, .unset, .unset, .unset]) rfl k) ?_
  refine OD.go (B := (s₁.setTop (mkF m 3 #[.val (.ref a1), .val (.double FP.dconst0), .second, .unset, .unset, .unset, .unset, .unset] [(.ref a1)]))) (fun t k => XS.aloadN X0.here hx rfl (hb hby d1_2) rfl rfl k) ?_
  refine OD.go (B := (s₁.setTop (mkF m 4 #[.val (.ref a1), .val (.double FP.dconst0), .second, .val (.ref a1), .unset, .unset, .unset, .unset] []))) (fun t k => XS.astoreN X0.here hx rfl (hb hby d1_3) rfl rfl (l' := #[.val (.ref a1), .val (.double FP.dconst0), .second, .val (.ref a1), .unset, .unset, .unset, .unset]) rfl k) ?_
  refine OD.go (B := (s₁.setTop (mkF m 5 #[.val (.ref a1), .val (.double FP.dconst0), .second, .val (.ref a1), .unset, .unset, .unset, .unset] [(.ref a1)]))) (fun t k => XS.aloadN X0.here hx rfl (hb hby d1_4) rfl rfl k) ?_
  obtain ⟨cl1, Ar1, hl1⟩ := own_len V0
  refine OD.go (B := (s₁.setTop (mkF m 6 #[.val (.ref a1), .val (.double FP.dconst0), .second, .val (.ref a1), .unset, .unset, .unset, .unset] [(.int (3 : Int32))]))) (fun t k => X0.arraylength hx (by rw [e0]; exact Ar1.1) (State.isArrayOf_alike hZ.alike Ar1.2.1) (g := (mkF m 5 #[.val (.ref a1), .val (.double FP.dconst0), .second, .val (.ref a1), .unset, .unset, .unset, .unset] [(.ref a1)])) rfl rfl (hb hby d1_5) _ (by rw [hl1]; exact k)) ?_
  refine OD.go (B := (s₁.setTop (mkF m 8 #[.val (.ref a1), .val (.double FP.dconst0), .second, .val (.ref a1), .val (.int (3 : Int32)), .unset, .unset, .unset] []))) (fun t k => XS.istore X0.here hx rfl (hb hby d1_6) rfl (l' := #[.val (.ref a1), .val (.double FP.dconst0), .second, .val (.ref a1), .val (.int (3 : Int32)), .unset, .unset, .unset]) rfl k) ?_
  refine OD.go (B := (s₁.setTop (mkF m 9 #[.val (.ref a1), .val (.double FP.dconst0), .second, .val (.ref a1), .val (.int (3 : Int32)), .unset, .unset, .unset] [(.int (0 : Int32))]))) (fun t k => XS.iconst X0.here hx rfl (hb hby d1_8) k) ?_
  refine OD.go (B := (s₁.setTop (mkF m 11 #[.val (.ref a1), .val (.double FP.dconst0), .second, .val (.ref a1), .val (.int (3 : Int32)), .val (.int (0 : Int32)), .unset, .unset] []))) (fun t k => XS.istore X0.here hx rfl (hb hby d1_9) rfl (l' := #[.val (.ref a1), .val (.double FP.dconst0), .second, .val (.ref a1), .val (.int (3 : Int32)), .val (.int (0 : Int32)), .unset, .unset]) rfl k) ?_
  refine OD.go (B := (s₁.setTop (mkF m 13 #[.val (.ref a1), .val (.double FP.dconst0), .second, .val (.ref a1), .val (.int (3 : Int32)), .val (.int (0 : Int32)), .unset, .unset] [(.int (0 : Int32))]))) (fun t k => XS.iload X0.here hx rfl (hb hby d1_11) rfl k) ?_
  refine OD.go (B := (s₁.setTop (mkF m 15 #[.val (.ref a1), .val (.double FP.dconst0), .second, .val (.ref a1), .val (.int (3 : Int32)), .val (.int (0 : Int32)), .unset, .unset] [(.int (3 : Int32)), (.int (0 : Int32))]))) (fun t k => XS.iload X0.here hx rfl (hb hby d1_13) rfl k) ?_
  refine OD.go (B := (s₁.setTop (mkF m 18 #[.val (.ref a1), .val (.double FP.dconst0), .second, .val (.ref a1), .val (.int (3 : Int32)), .val (.int (0 : Int32)), .unset, .unset] []))) (fun t k => XS.icmpNo X0.here hx rfl (hb hby d1_15) rfl (tlt (by decide : (0 : Int32) < (3 : Int32))).2.1 k) ?_
  refine OD.go (B := (s₁.setTop (mkF m 19 #[.val (.ref a1), .val (.double FP.dconst0), .second, .val (.ref a1), .val (.int (3 : Int32)), .val (.int (0 : Int32)), .unset, .unset] [(.ref a1)]))) (fun t k => XS.aloadN X0.here hx rfl (hb hby d1_18) rfl rfl k) ?_
  refine OD.go (B := (s₁.setTop (mkF m 21 #[.val (.ref a1), .val (.double FP.dconst0), .second, .val (.ref a1), .val (.int (3 : Int32)), .val (.int (0 : Int32)), .unset, .unset] [(.int (0 : Int32)), (.ref a1)]))) (fun t k => XS.iload X0.here hx rfl (hb hby d1_19) rfl k) ?_
  obtain ⟨cl2, Ar2, hi2, ha2⟩ := own_at V0 (j := (0 : Int32)) (v := (.double d0)) ⟨by decide, by decide⟩ rfl
  refine OD.go (B := (s₁.setTop (mkF m 22 #[.val (.ref a1), .val (.double FP.dconst0), .second, .val (.ref a1), .val (.int (3 : Int32)), .val (.int (0 : Int32)), .unset, .unset] [(.double d0)]))) (fun t k => X0.daload hx (j := (0 : Int32)) (v := (.double d0)) (by rw [e0]; exact Ar2.1) (State.isArrayOf_alike hZ.alike Ar2.2.1) Ar2.2.2 hi2 ha2 (g := (mkF m 21 #[.val (.ref a1), .val (.double FP.dconst0), .second, .val (.ref a1), .val (.int (3 : Int32)), .val (.int (0 : Int32)), .unset, .unset] [(.int (0 : Int32)), (.ref a1)])) rfl rfl (hb hby d1_21) _ k) ?_
  refine OD.go (B := (s₁.setTop (mkF m 24 #[.val (.ref a1), .val (.double FP.dconst0), .second, .val (.ref a1), .val (.int (3 : Int32)), .val (.int (0 : Int32)), .val (.double d0), .second] []))) (fun t k => XS.dstore X0.here hx rfl (hb hby d1_22) rfl (l' := #[.val (.ref a1), .val (.double FP.dconst0), .second, .val (.ref a1), .val (.int (3 : Int32)), .val (.int (0 : Int32)), .val (.double d0), .second]) rfl k) ?_
  refine OD.go (B := (s₁.setTop (mkF m 25 #[.val (.ref a1), .val (.double FP.dconst0), .second, .val (.ref a1), .val (.int (3 : Int32)), .val (.int (0 : Int32)), .val (.double d0), .second] [(.double FP.dconst0)]))) (fun t k => XS.dloadN X0.here hx rfl (hb hby d1_24) rfl k) ?_
  refine OD.go (B := (s₁.setTop (mkF m 27 #[.val (.ref a1), .val (.double FP.dconst0), .second, .val (.ref a1), .val (.int (3 : Int32)), .val (.int (0 : Int32)), .val (.double d0), .second] [(.double d0), (.double FP.dconst0)]))) (fun t k => XS.dload X0.here hx rfl (hb hby d1_25) rfl k) ?_
  obtain ⟨T3, X3, e3, st3⟩ := natS X0 hx hZ hown (Wd10 hw) (Wd11 hw) (Wd8 hw) (Wd12 hw) (by decide) e0 (W := 0) (fun hc => Fl.Abs.maxD_pays (W := 0) FP.dconst0 d0 hc (by decide) (by decide)) (g := (mkF m 27 #[.val (.ref a1), .val (.double FP.dconst0), .second, .val (.ref a1), .val (.int (3 : Int32)), .val (.int (0 : Int32)), .val (.double d0), .second] [(.double d0), (.double FP.dconst0)])) rfl (by rw [hml]; rfl) (argsL := [(.double FP.dconst0), (.double d0)]) (rest := []) (lenOf pd0 rfl) rfl (by show 2 * 0 + _ ≤ _; exact Nat.le_of_eq rfl) (hb hby d1_27) (by decide) (by decide) ⟨rfl, own_nn0, n0⟩ (val' := .double (Native.java_lang_Math.nans.pick64 true FP.dconst0 d0)) rfl
  refine OD.go (B := (T3.setTop (mkF m 30 #[.val (.ref a1), .val (.double FP.dconst0), .second, .val (.ref a1), .val (.int (3 : Int32)), .val (.int (0 : Int32)), .val (.double d0), .second] [(.double (Native.java_lang_Math.nans.pick64 true FP.dconst0 d0))]))) st3 ?_
  refine OD.go (B := (T3.setTop (mkF m 31 #[.val (.ref a1), .val (.double (Native.java_lang_Math.nans.pick64 true FP.dconst0 d0)), .second, .val (.ref a1), .val (.int (3 : Int32)), .val (.int (0 : Int32)), .val (.double d0), .second] []))) (fun t k => XS.dstoreN X3.here hx rfl (hb hby d1_30) rfl (l' := #[.val (.ref a1), .val (.double (Native.java_lang_Math.nans.pick64 true FP.dconst0 d0)), .second, .val (.ref a1), .val (.int (3 : Int32)), .val (.int (0 : Int32)), .val (.double d0), .second]) rfl k) ?_
  refine OD.go (B := (T3.setTop (mkF m 34 #[.val (.ref a1), .val (.double (Native.java_lang_Math.nans.pick64 true FP.dconst0 d0)), .second, .val (.ref a1), .val (.int (3 : Int32)), .val (.int (1 : Int32)), .val (.double d0), .second] []))) (fun t k => XS.iinc X3.here hx rfl (hb hby d1_31) rfl (l' := #[.val (.ref a1), .val (.double (Native.java_lang_Math.nans.pick64 true FP.dconst0 d0)), .second, .val (.ref a1), .val (.int (3 : Int32)), .val (.int (1 : Int32)), .val (.double d0), .second]) rfl k) ?_
  refine OD.go (B := (T3.setTop (mkF m 11 #[.val (.ref a1), .val (.double (Native.java_lang_Math.nans.pick64 true FP.dconst0 d0)), .second, .val (.ref a1), .val (.int (3 : Int32)), .val (.int (1 : Int32)), .val (.double d0), .second] []))) (fun t k => XS.goto X3.here hx rfl (pc0 := 34) (pc' := 11) rfl (hb hby d1_34) (by decide) (by decide) k) ?_
  refine OD.go (B := (T3.setTop (mkF m 13 #[.val (.ref a1), .val (.double (Native.java_lang_Math.nans.pick64 true FP.dconst0 d0)), .second, .val (.ref a1), .val (.int (3 : Int32)), .val (.int (1 : Int32)), .val (.double d0), .second] [(.int (1 : Int32))]))) (fun t k => XS.iload X3.here hx rfl (hb hby d1_11) rfl k) ?_
  refine OD.go (B := (T3.setTop (mkF m 15 #[.val (.ref a1), .val (.double (Native.java_lang_Math.nans.pick64 true FP.dconst0 d0)), .second, .val (.ref a1), .val (.int (3 : Int32)), .val (.int (1 : Int32)), .val (.double d0), .second] [(.int (3 : Int32)), (.int (1 : Int32))]))) (fun t k => XS.iload X3.here hx rfl (hb hby d1_13) rfl k) ?_
  refine OD.go (B := (T3.setTop (mkF m 18 #[.val (.ref a1), .val (.double (Native.java_lang_Math.nans.pick64 true FP.dconst0 d0)), .second, .val (.ref a1), .val (.int (3 : Int32)), .val (.int (1 : Int32)), .val (.double d0), .second] []))) (fun t k => XS.icmpNo X3.here hx rfl (hb hby d1_15) rfl (tlt (by decide : (1 : Int32) < (3 : Int32))).2.1 k) ?_
  refine OD.go (B := (T3.setTop (mkF m 19 #[.val (.ref a1), .val (.double (Native.java_lang_Math.nans.pick64 true FP.dconst0 d0)), .second, .val (.ref a1), .val (.int (3 : Int32)), .val (.int (1 : Int32)), .val (.double d0), .second] [(.ref a1)]))) (fun t k => XS.aloadN X3.here hx rfl (hb hby d1_18) rfl rfl k) ?_
  refine OD.go (B := (T3.setTop (mkF m 21 #[.val (.ref a1), .val (.double (Native.java_lang_Math.nans.pick64 true FP.dconst0 d0)), .second, .val (.ref a1), .val (.int (3 : Int32)), .val (.int (1 : Int32)), .val (.double d0), .second] [(.int (1 : Int32)), (.ref a1)]))) (fun t k => XS.iload X3.here hx rfl (hb hby d1_19) rfl k) ?_
  obtain ⟨cl4, Ar4, hi4, ha4⟩ := own_at V0 (j := (1 : Int32)) (v := (.double d1)) ⟨by decide, by decide⟩ rfl
  refine OD.go (B := (T3.setTop (mkF m 22 #[.val (.ref a1), .val (.double (Native.java_lang_Math.nans.pick64 true FP.dconst0 d0)), .second, .val (.ref a1), .val (.int (3 : Int32)), .val (.int (1 : Int32)), .val (.double d0), .second] [(.double d1)]))) (fun t k => X3.daload hx (j := (1 : Int32)) (v := (.double d1)) (by rw [e3]; exact Ar4.1) (State.isArrayOf_alike hZ.alike Ar4.2.1) Ar4.2.2 hi4 ha4 (g := (mkF m 21 #[.val (.ref a1), .val (.double (Native.java_lang_Math.nans.pick64 true FP.dconst0 d0)), .second, .val (.ref a1), .val (.int (3 : Int32)), .val (.int (1 : Int32)), .val (.double d0), .second] [(.int (1 : Int32)), (.ref a1)])) rfl rfl (hb hby d1_21) _ k) ?_
  refine OD.go (B := (T3.setTop (mkF m 24 #[.val (.ref a1), .val (.double (Native.java_lang_Math.nans.pick64 true FP.dconst0 d0)), .second, .val (.ref a1), .val (.int (3 : Int32)), .val (.int (1 : Int32)), .val (.double d1), .second] []))) (fun t k => XS.dstore X3.here hx rfl (hb hby d1_22) rfl (l' := #[.val (.ref a1), .val (.double (Native.java_lang_Math.nans.pick64 true FP.dconst0 d0)), .second, .val (.ref a1), .val (.int (3 : Int32)), .val (.int (1 : Int32)), .val (.double d1), .second]) rfl k) ?_
  refine OD.go (B := (T3.setTop (mkF m 25 #[.val (.ref a1), .val (.double (Native.java_lang_Math.nans.pick64 true FP.dconst0 d0)), .second, .val (.ref a1), .val (.int (3 : Int32)), .val (.int (1 : Int32)), .val (.double d1), .second] [(.double (Native.java_lang_Math.nans.pick64 true FP.dconst0 d0))]))) (fun t k => XS.dloadN X3.here hx rfl (hb hby d1_24) rfl k) ?_
  refine OD.go (B := (T3.setTop (mkF m 27 #[.val (.ref a1), .val (.double (Native.java_lang_Math.nans.pick64 true FP.dconst0 d0)), .second, .val (.ref a1), .val (.int (3 : Int32)), .val (.int (1 : Int32)), .val (.double d1), .second] [(.double d1), (.double (Native.java_lang_Math.nans.pick64 true FP.dconst0 d0))]))) (fun t k => XS.dload X3.here hx rfl (hb hby d1_25) rfl k) ?_
  obtain ⟨T5, X5, e5, st5⟩ := natS X3 hx hZ hown (Wd10 hw) (Wd11 hw) (Wd8 hw) (Wd12 hw) (by decide) e3 (W := 0) (fun hc => Fl.Abs.maxD_pays (W := 0) (Native.java_lang_Math.nans.pick64 true FP.dconst0 d0) d1 hc (by decide) (by decide)) (g := (mkF m 27 #[.val (.ref a1), .val (.double (Native.java_lang_Math.nans.pick64 true FP.dconst0 d0)), .second, .val (.ref a1), .val (.int (3 : Int32)), .val (.int (1 : Int32)), .val (.double d1), .second] [(.double d1), (.double (Native.java_lang_Math.nans.pick64 true FP.dconst0 d0))])) rfl (by rw [hml]; rfl) (argsL := [(.double (Native.java_lang_Math.nans.pick64 true FP.dconst0 d0)), (.double d1)]) (rest := []) (lenOf pd0 rfl) rfl (by show 2 * 0 + _ ≤ _; exact Nat.le_of_eq rfl) (hb hby d1_27) (by decide) (by decide) ⟨rfl, (Fl.pick64_noNaN own_nn0 n0), n1⟩ (val' := .double (Native.java_lang_Math.nans.pick64 true (Native.java_lang_Math.nans.pick64 true FP.dconst0 d0) d1)) rfl
  refine OD.go (B := (T5.setTop (mkF m 30 #[.val (.ref a1), .val (.double (Native.java_lang_Math.nans.pick64 true FP.dconst0 d0)), .second, .val (.ref a1), .val (.int (3 : Int32)), .val (.int (1 : Int32)), .val (.double d1), .second] [(.double (Native.java_lang_Math.nans.pick64 true (Native.java_lang_Math.nans.pick64 true FP.dconst0 d0) d1))]))) st5 ?_
  refine OD.go (B := (T5.setTop (mkF m 31 #[.val (.ref a1), .val (.double (Native.java_lang_Math.nans.pick64 true (Native.java_lang_Math.nans.pick64 true FP.dconst0 d0) d1)), .second, .val (.ref a1), .val (.int (3 : Int32)), .val (.int (1 : Int32)), .val (.double d1), .second] []))) (fun t k => XS.dstoreN X5.here hx rfl (hb hby d1_30) rfl (l' := #[.val (.ref a1), .val (.double (Native.java_lang_Math.nans.pick64 true (Native.java_lang_Math.nans.pick64 true FP.dconst0 d0) d1)), .second, .val (.ref a1), .val (.int (3 : Int32)), .val (.int (1 : Int32)), .val (.double d1), .second]) rfl k) ?_
  refine OD.go (B := (T5.setTop (mkF m 34 #[.val (.ref a1), .val (.double (Native.java_lang_Math.nans.pick64 true (Native.java_lang_Math.nans.pick64 true FP.dconst0 d0) d1)), .second, .val (.ref a1), .val (.int (3 : Int32)), .val (.int (2 : Int32)), .val (.double d1), .second] []))) (fun t k => XS.iinc X5.here hx rfl (hb hby d1_31) rfl (l' := #[.val (.ref a1), .val (.double (Native.java_lang_Math.nans.pick64 true (Native.java_lang_Math.nans.pick64 true FP.dconst0 d0) d1)), .second, .val (.ref a1), .val (.int (3 : Int32)), .val (.int (2 : Int32)), .val (.double d1), .second]) rfl k) ?_
  refine OD.go (B := (T5.setTop (mkF m 11 #[.val (.ref a1), .val (.double (Native.java_lang_Math.nans.pick64 true (Native.java_lang_Math.nans.pick64 true FP.dconst0 d0) d1)), .second, .val (.ref a1), .val (.int (3 : Int32)), .val (.int (2 : Int32)), .val (.double d1), .second] []))) (fun t k => XS.goto X5.here hx rfl (pc0 := 34) (pc' := 11) rfl (hb hby d1_34) (by decide) (by decide) k) ?_
  refine OD.go (B := (T5.setTop (mkF m 13 #[.val (.ref a1), .val (.double (Native.java_lang_Math.nans.pick64 true (Native.java_lang_Math.nans.pick64 true FP.dconst0 d0) d1)), .second, .val (.ref a1), .val (.int (3 : Int32)), .val (.int (2 : Int32)), .val (.double d1), .second] [(.int (2 : Int32))]))) (fun t k => XS.iload X5.here hx rfl (hb hby d1_11) rfl k) ?_
  refine OD.go (B := (T5.setTop (mkF m 15 #[.val (.ref a1), .val (.double (Native.java_lang_Math.nans.pick64 true (Native.java_lang_Math.nans.pick64 true FP.dconst0 d0) d1)), .second, .val (.ref a1), .val (.int (3 : Int32)), .val (.int (2 : Int32)), .val (.double d1), .second] [(.int (3 : Int32)), (.int (2 : Int32))]))) (fun t k => XS.iload X5.here hx rfl (hb hby d1_13) rfl k) ?_
  refine OD.go (B := (T5.setTop (mkF m 18 #[.val (.ref a1), .val (.double (Native.java_lang_Math.nans.pick64 true (Native.java_lang_Math.nans.pick64 true FP.dconst0 d0) d1)), .second, .val (.ref a1), .val (.int (3 : Int32)), .val (.int (2 : Int32)), .val (.double d1), .second] []))) (fun t k => XS.icmpNo X5.here hx rfl (hb hby d1_15) rfl (tlt (by decide : (2 : Int32) < (3 : Int32))).2.1 k) ?_
  refine OD.go (B := (T5.setTop (mkF m 19 #[.val (.ref a1), .val (.double (Native.java_lang_Math.nans.pick64 true (Native.java_lang_Math.nans.pick64 true FP.dconst0 d0) d1)), .second, .val (.ref a1), .val (.int (3 : Int32)), .val (.int (2 : Int32)), .val (.double d1), .second] [(.ref a1)]))) (fun t k => XS.aloadN X5.here hx rfl (hb hby d1_18) rfl rfl k) ?_
  refine OD.go (B := (T5.setTop (mkF m 21 #[.val (.ref a1), .val (.double (Native.java_lang_Math.nans.pick64 true (Native.java_lang_Math.nans.pick64 true FP.dconst0 d0) d1)), .second, .val (.ref a1), .val (.int (3 : Int32)), .val (.int (2 : Int32)), .val (.double d1), .second] [(.int (2 : Int32)), (.ref a1)]))) (fun t k => XS.iload X5.here hx rfl (hb hby d1_19) rfl k) ?_
  obtain ⟨cl6, Ar6, hi6, ha6⟩ := own_at V0 (j := (2 : Int32)) (v := (.double d2)) ⟨by decide, by decide⟩ rfl
  refine OD.go (B := (T5.setTop (mkF m 22 #[.val (.ref a1), .val (.double (Native.java_lang_Math.nans.pick64 true (Native.java_lang_Math.nans.pick64 true FP.dconst0 d0) d1)), .second, .val (.ref a1), .val (.int (3 : Int32)), .val (.int (2 : Int32)), .val (.double d1), .second] [(.double d2)]))) (fun t k => X5.daload hx (j := (2 : Int32)) (v := (.double d2)) (by rw [e5]; exact Ar6.1) (State.isArrayOf_alike hZ.alike Ar6.2.1) Ar6.2.2 hi6 ha6 (g := (mkF m 21 #[.val (.ref a1), .val (.double (Native.java_lang_Math.nans.pick64 true (Native.java_lang_Math.nans.pick64 true FP.dconst0 d0) d1)), .second, .val (.ref a1), .val (.int (3 : Int32)), .val (.int (2 : Int32)), .val (.double d1), .second] [(.int (2 : Int32)), (.ref a1)])) rfl rfl (hb hby d1_21) _ k) ?_
  refine OD.go (B := (T5.setTop (mkF m 24 #[.val (.ref a1), .val (.double (Native.java_lang_Math.nans.pick64 true (Native.java_lang_Math.nans.pick64 true FP.dconst0 d0) d1)), .second, .val (.ref a1), .val (.int (3 : Int32)), .val (.int (2 : Int32)), .val (.double d2), .second] []))) (fun t k => XS.dstore X5.here hx rfl (hb hby d1_22) rfl (l' := #[.val (.ref a1), .val (.double (Native.java_lang_Math.nans.pick64 true (Native.java_lang_Math.nans.pick64 true FP.dconst0 d0) d1)), .second, .val (.ref a1), .val (.int (3 : Int32)), .val (.int (2 : Int32)), .val (.double d2), .second]) rfl k) ?_
  refine OD.go (B := (T5.setTop (mkF m 25 #[.val (.ref a1), .val (.double (Native.java_lang_Math.nans.pick64 true (Native.java_lang_Math.nans.pick64 true FP.dconst0 d0) d1)), .second, .val (.ref a1), .val (.int (3 : Int32)), .val (.int (2 : Int32)), .val (.double d2), .second] [(.double (Native.java_lang_Math.nans.pick64 true (Native.java_lang_Math.nans.pick64 true FP.dconst0 d0) d1))]))) (fun t k => XS.dloadN X5.here hx rfl (hb hby d1_24) rfl k) ?_
  refine OD.go (B := (T5.setTop (mkF m 27 #[.val (.ref a1), .val (.double (Native.java_lang_Math.nans.pick64 true (Native.java_lang_Math.nans.pick64 true FP.dconst0 d0) d1)), .second, .val (.ref a1), .val (.int (3 : Int32)), .val (.int (2 : Int32)), .val (.double d2), .second] [(.double d2), (.double (Native.java_lang_Math.nans.pick64 true (Native.java_lang_Math.nans.pick64 true FP.dconst0 d0) d1))]))) (fun t k => XS.dload X5.here hx rfl (hb hby d1_25) rfl k) ?_
  obtain ⟨T7, X7, e7, st7⟩ := natS X5 hx hZ hown (Wd10 hw) (Wd11 hw) (Wd8 hw) (Wd12 hw) (by decide) e5 (W := 0) (fun hc => Fl.Abs.maxD_pays (W := 0) (Native.java_lang_Math.nans.pick64 true (Native.java_lang_Math.nans.pick64 true FP.dconst0 d0) d1) d2 hc (by decide) (by decide)) (g := (mkF m 27 #[.val (.ref a1), .val (.double (Native.java_lang_Math.nans.pick64 true (Native.java_lang_Math.nans.pick64 true FP.dconst0 d0) d1)), .second, .val (.ref a1), .val (.int (3 : Int32)), .val (.int (2 : Int32)), .val (.double d2), .second] [(.double d2), (.double (Native.java_lang_Math.nans.pick64 true (Native.java_lang_Math.nans.pick64 true FP.dconst0 d0) d1))])) rfl (by rw [hml]; rfl) (argsL := [(.double (Native.java_lang_Math.nans.pick64 true (Native.java_lang_Math.nans.pick64 true FP.dconst0 d0) d1)), (.double d2)]) (rest := []) (lenOf pd0 rfl) rfl (by show 2 * 0 + _ ≤ _; exact Nat.le_of_eq rfl) (hb hby d1_27) (by decide) (by decide) ⟨rfl, (Fl.pick64_noNaN (Fl.pick64_noNaN own_nn0 n0) n1), n2⟩ (val' := .double (Native.java_lang_Math.nans.pick64 true (Native.java_lang_Math.nans.pick64 true (Native.java_lang_Math.nans.pick64 true FP.dconst0 d0) d1) d2)) rfl
  refine OD.go (B := (T7.setTop (mkF m 30 #[.val (.ref a1), .val (.double (Native.java_lang_Math.nans.pick64 true (Native.java_lang_Math.nans.pick64 true FP.dconst0 d0) d1)), .second, .val (.ref a1), .val (.int (3 : Int32)), .val (.int (2 : Int32)), .val (.double d2), .second] [(.double (Native.java_lang_Math.nans.pick64 true (Native.java_lang_Math.nans.pick64 true (Native.java_lang_Math.nans.pick64 true FP.dconst0 d0) d1) d2))]))) st7 ?_
  refine OD.go (B := (T7.setTop (mkF m 31 #[.val (.ref a1), .val (.double (Native.java_lang_Math.nans.pick64 true (Native.java_lang_Math.nans.pick64 true (Native.java_lang_Math.nans.pick64 true FP.dconst0 d0) d1) d2)), .second, .val (.ref a1), .val (.int (3 : Int32)), .val (.int (2 : Int32)), .val (.double d2), .second] []))) (fun t k => XS.dstoreN X7.here hx rfl (hb hby d1_30) rfl (l' := #[.val (.ref a1), .val (.double (Native.java_lang_Math.nans.pick64 true (Native.java_lang_Math.nans.pick64 true (Native.java_lang_Math.nans.pick64 true FP.dconst0 d0) d1) d2)), .second, .val (.ref a1), .val (.int (3 : Int32)), .val (.int (2 : Int32)), .val (.double d2), .second]) rfl k) ?_
  refine OD.go (B := (T7.setTop (mkF m 34 #[.val (.ref a1), .val (.double (Native.java_lang_Math.nans.pick64 true (Native.java_lang_Math.nans.pick64 true (Native.java_lang_Math.nans.pick64 true FP.dconst0 d0) d1) d2)), .second, .val (.ref a1), .val (.int (3 : Int32)), .val (.int (3 : Int32)), .val (.double d2), .second] []))) (fun t k => XS.iinc X7.here hx rfl (hb hby d1_31) rfl (l' := #[.val (.ref a1), .val (.double (Native.java_lang_Math.nans.pick64 true (Native.java_lang_Math.nans.pick64 true (Native.java_lang_Math.nans.pick64 true FP.dconst0 d0) d1) d2)), .second, .val (.ref a1), .val (.int (3 : Int32)), .val (.int (3 : Int32)), .val (.double d2), .second]) rfl k) ?_
  refine OD.go (B := (T7.setTop (mkF m 11 #[.val (.ref a1), .val (.double (Native.java_lang_Math.nans.pick64 true (Native.java_lang_Math.nans.pick64 true (Native.java_lang_Math.nans.pick64 true FP.dconst0 d0) d1) d2)), .second, .val (.ref a1), .val (.int (3 : Int32)), .val (.int (3 : Int32)), .val (.double d2), .second] []))) (fun t k => XS.goto X7.here hx rfl (pc0 := 34) (pc' := 11) rfl (hb hby d1_34) (by decide) (by decide) k) ?_
  refine OD.go (B := (T7.setTop (mkF m 13 #[.val (.ref a1), .val (.double (Native.java_lang_Math.nans.pick64 true (Native.java_lang_Math.nans.pick64 true (Native.java_lang_Math.nans.pick64 true FP.dconst0 d0) d1) d2)), .second, .val (.ref a1), .val (.int (3 : Int32)), .val (.int (3 : Int32)), .val (.double d2), .second] [(.int (3 : Int32))]))) (fun t k => XS.iload X7.here hx rfl (hb hby d1_11) rfl k) ?_
  refine OD.go (B := (T7.setTop (mkF m 15 #[.val (.ref a1), .val (.double (Native.java_lang_Math.nans.pick64 true (Native.java_lang_Math.nans.pick64 true (Native.java_lang_Math.nans.pick64 true FP.dconst0 d0) d1) d2)), .second, .val (.ref a1), .val (.int (3 : Int32)), .val (.int (3 : Int32)), .val (.double d2), .second] [(.int (3 : Int32)), (.int (3 : Int32))]))) (fun t k => XS.iload X7.here hx rfl (hb hby d1_13) rfl k) ?_
  refine OD.go (B := (T7.setTop (mkF m 37 #[.val (.ref a1), .val (.double (Native.java_lang_Math.nans.pick64 true (Native.java_lang_Math.nans.pick64 true (Native.java_lang_Math.nans.pick64 true FP.dconst0 d0) d1) d2)), .second, .val (.ref a1), .val (.int (3 : Int32)), .val (.int (3 : Int32)), .val (.double d2), .second] []))) (fun t k => XS.icmpYes X7.here hx rfl (pc0 := 15) (pc' := 37) rfl (hb hby d1_15) rfl (flt (by decide : ¬ (3 : Int32) < (3 : Int32))).2.1 (by decide) (by decide) k) ?_
  refine OD.go (B := (T7.setTop (mkF m 38 #[.val (.ref a1), .val (.double (Native.java_lang_Math.nans.pick64 true (Native.java_lang_Math.nans.pick64 true (Native.java_lang_Math.nans.pick64 true FP.dconst0 d0) d1) d2)), .second, .val (.ref a1), .val (.int (3 : Int32)), .val (.int (3 : Int32)), .val (.double d2), .second] [(.double (Native.java_lang_Math.nans.pick64 true (Native.java_lang_Math.nans.pick64 true (Native.java_lang_Math.nans.pick64 true FP.dconst0 d0) d1) d2))]))) (fun t k => XS.dloadN X7.here hx rfl (hb hby d1_37) rfl k) ?_
  exact OD.ret X7 hx hlk (t := .double) Bd.returns rfl (Or.inr (Or.inr (Or.inl ⟨rfl, rfl, _, rfl⟩))) (hb hby d1_38) (Nat.le_of_ble_eq_true rfl) (Nat.le_of_ble_eq_true rfl) ⟨rfl, rfl, e7⟩
def Q_rmH4 (Z : State) (a1 : Addr) (h0 : Heap) (d0 : UInt64) (d1 : UInt64) (d2 : UInt64) (d3 : UInt64) (v : Option Value) (h : Heap) (L : List Loc) : Prop := v = some (.double (Native.java_lang_Math.nans.pick64 true (Native.java_lang_Math.nans.pick64 true (Native.java_lang_Math.nans.pick64 true (Native.java_lang_Math.nans.pick64 true FP.dconst0 d0) d1) d2) d3)) ∧ L = [] ∧ h = h0
set_option maxRecDepth 65536 in
set_option maxHeartbeats 40000000 in
theorem rmH4 (l : Launch) (Z : State) (a0 : Array Value) (hw : ∀ d ∈ tables_1, d.before a0 Z = true) (ws : List Jvm.Cond) (a1 : Addr) (h0 : Heap) (kA : ClassId) (d0 : UInt64) (d1 : UInt64) (d2 : UInt64) (d3 : UInt64) (n0 : Jvm.Free.Fl.NoNaN64 d0) (n1 : Jvm.Free.Fl.NoNaN64 d1) (n2 : Jvm.Free.Fl.NoNaN64 d2) (n3 : Jvm.Free.Fl.NoNaN64 d3) (V0 : Arv Z h0 a1 kA .double (4 : Int32) [(.double d0), (.double d1), (.double d2), (.double d3)] (.double (0 : UInt64))) :
    MetFree l (⟨"com/example/querent/querent/ScoreScale", "highest", "([D)D"⟩ : MethodName) (head1 (Jvm.Cond.code (⟨"com/example/querent/querent/ScoreScale", "highest", "([D)D"⟩ : MethodName) prog_8_method_2_code 8 (some .double) :: ws) ({ frames := 1, cells := 0, slots := 0, locals := 15 } : Room)) (fun a U => a = #[(.ref a1)] ∧ Z.Warmed39 U.vm ∧ U.heap = h0) (fun _ _ _ _ _ => True) (fun _ U o U' => ∃ v L, o = .returned v ∧ Q_rmH4 Z a1 h0 d0 d1 d2 d3 v U'.heap L ∧ FrameEnd U o U' L ({ frames := 1, cells := 0, slots := 0, locals := 15 } : Room).cells ({ frames := 1, cells := 0, slots := 0, locals := 15 } : Room).slots) := by
  refine MetFree.of_bodySF (plainFor_of_name pn0) hisR ?_
  intro p e s m args below meth c s₁ Bd hml0 hP hK
  obtain ⟨rfl, hZ, hh⟩ := hP
  have hx := Bd.exec
  have hby := Bd.bytes
  have hlk : meth.locks = false := Bd.notSynchronized
  have hml : c.maxLocals = 8 := hml0
  have hown : s.vm.findClass "com/example/querent/querent/ScoreScale" = some m.cls := findClass_of_methodNamed Bd.named
  have hnm := (name_of_methodNamed Bd.named Bd.method).1
  have X0 : Stand p l e ({ frames := 1, cells := 0, slots := 0, locals := 15 } : Room) s m #[(.ref a1)] below meth c s₁ [] 0 0 := Stand.of_body Bd
  have e0 : s₁.heap = h0 := by rw [← hh, Bd.state]; rfl
  suffices hgo : OD p e s below (Q_rmH4 Z a1 h0 d0 d1 d2 d3) ({ frames := 1, cells := 0, slots := 0, locals := 15 } : Room).cells ({ frames := 1, cells := 0, slots := 0, locals := 15 } : Room).slots (s₁.setTop (mkF m 0 #[.val (.ref a1), .unset, .unset, .unset, .unset, .unset, .unset, .unset] [])) by
    obtain ⟨s₂, o, q1, q2⟩ := hgo
    exact ⟨s₂, o, castTop (ef1 m a1) q1, q2⟩
  refine OD.go (B := (s₁.setTop (mkF m 1 #[.val (.ref a1), .unset, .unset, .unset, .unset, .unset, .unset, .unset] [(.double FP.dconst0)]))) (fun t k => XS.dconst0 X0.here hx rfl (hb hby d1_0) (v := FP.dconst0) rfl k) ?_
  refine OD.go (B := (s₁.setTop (mkF m 2 #[.val (.ref a1), .val (.double FP.dconst0), .second, .unset, .unset, .unset, .unset, .unset] []))) (fun t k => XS.dstoreN X0.here hx rfl (hb hby d1_1) rfl (l' := #[.val (.ref a1), .val (.double FP.dconst0), .second, .unset, .unset, .unset, .unset, .unset]) rfl k) ?_
  refine OD.go (B := (s₁.setTop (mkF m 3 #[.val (.ref a1), .val (.double FP.dconst0), .second, .unset, .unset, .unset, .unset, .unset] [(.ref a1)]))) (fun t k => XS.aloadN X0.here hx rfl (hb hby d1_2) rfl rfl k) ?_
  refine OD.go (B := (s₁.setTop (mkF m 4 #[.val (.ref a1), .val (.double FP.dconst0), .second, .val (.ref a1), .unset, .unset, .unset, .unset] []))) (fun t k => XS.astoreN X0.here hx rfl (hb hby d1_3) rfl rfl (l' := #[.val (.ref a1), .val (.double FP.dconst0), .second, .val (.ref a1), .unset, .unset, .unset, .unset]) rfl k) ?_
  refine OD.go (B := (s₁.setTop (mkF m 5 #[.val (.ref a1), .val (.double FP.dconst0), .second, .val (.ref a1), .unset, .unset, .unset, .unset] [(.ref a1)]))) (fun t k => XS.aloadN X0.here hx rfl (hb hby d1_4) rfl rfl k) ?_
  obtain ⟨cl1, Ar1, hl1⟩ := own_len V0
  refine OD.go (B := (s₁.setTop (mkF m 6 #[.val (.ref a1), .val (.double FP.dconst0), .second, .val (.ref a1), .unset, .unset, .unset, .unset] [(.int (4 : Int32))]))) (fun t k => X0.arraylength hx (by rw [e0]; exact Ar1.1) (State.isArrayOf_alike hZ.alike Ar1.2.1) (g := (mkF m 5 #[.val (.ref a1), .val (.double FP.dconst0), .second, .val (.ref a1), .unset, .unset, .unset, .unset] [(.ref a1)])) rfl rfl (hb hby d1_5) _ (by rw [hl1]; exact k)) ?_
  refine OD.go (B := (s₁.setTop (mkF m 8 #[.val (.ref a1), .val (.double FP.dconst0), .second, .val (.ref a1), .val (.int (4 : Int32)), .unset, .unset, .unset] []))) (fun t k => XS.istore X0.here hx rfl (hb hby d1_6) rfl (l' := #[.val (.ref a1), .val (.double FP.dconst0), .second, .val (.ref a1), .val (.int (4 : Int32)), .unset, .unset, .unset]) rfl k) ?_
  refine OD.go (B := (s₁.setTop (mkF m 9 #[.val (.ref a1), .val (.double FP.dconst0), .second, .val (.ref a1), .val (.int (4 : Int32)), .unset, .unset, .unset] [(.int (0 : Int32))]))) (fun t k => XS.iconst X0.here hx rfl (hb hby d1_8) k) ?_
  refine OD.go (B := (s₁.setTop (mkF m 11 #[.val (.ref a1), .val (.double FP.dconst0), .second, .val (.ref a1), .val (.int (4 : Int32)), .val (.int (0 : Int32)), .unset, .unset] []))) (fun t k => XS.istore X0.here hx rfl (hb hby d1_9) rfl (l' := #[.val (.ref a1), .val (.double FP.dconst0), .second, .val (.ref a1), .val (.int (4 : Int32)), .val (.int (0 : Int32)), .unset, .unset]) rfl k) ?_
  refine OD.go (B := (s₁.setTop (mkF m 13 #[.val (.ref a1), .val (.double FP.dconst0), .second, .val (.ref a1), .val (.int (4 : Int32)), .val (.int (0 : Int32)), .unset, .unset] [(.int (0 : Int32))]))) (fun t k => XS.iload X0.here hx rfl (hb hby d1_11) rfl k) ?_
  refine OD.go (B := (s₁.setTop (mkF m 15 #[.val (.ref a1), .val (.double FP.dconst0), .second, .val (.ref a1), .val (.int (4 : Int32)), .val (.int (0 : Int32)), .unset, .unset] [(.int (4 : Int32)), (.int (0 : Int32))]))) (fun t k => XS.iload X0.here hx rfl (hb hby d1_13) rfl k) ?_
  refine OD.go (B := (s₁.setTop (mkF m 18 #[.val (.ref a1), .val (.double FP.dconst0), .second, .val (.ref a1), .val (.int (4 : Int32)), .val (.int (0 : Int32)), .unset, .unset] []))) (fun t k => XS.icmpNo X0.here hx rfl (hb hby d1_15) rfl (tlt (by decide : (0 : Int32) < (4 : Int32))).2.1 k) ?_
  refine OD.go (B := (s₁.setTop (mkF m 19 #[.val (.ref a1), .val (.double FP.dconst0), .second, .val (.ref a1), .val (.int (4 : Int32)), .val (.int (0 : Int32)), .unset, .unset] [(.ref a1)]))) (fun t k => XS.aloadN X0.here hx rfl (hb hby d1_18) rfl rfl k) ?_
  refine OD.go (B := (s₁.setTop (mkF m 21 #[.val (.ref a1), .val (.double FP.dconst0), .second, .val (.ref a1), .val (.int (4 : Int32)), .val (.int (0 : Int32)), .unset, .unset] [(.int (0 : Int32)), (.ref a1)]))) (fun t k => XS.iload X0.here hx rfl (hb hby d1_19) rfl k) ?_
  obtain ⟨cl2, Ar2, hi2, ha2⟩ := own_at V0 (j := (0 : Int32)) (v := (.double d0)) ⟨by decide, by decide⟩ rfl
  refine OD.go (B := (s₁.setTop (mkF m 22 #[.val (.ref a1), .val (.double FP.dconst0), .second, .val (.ref a1), .val (.int (4 : Int32)), .val (.int (0 : Int32)), .unset, .unset] [(.double d0)]))) (fun t k => X0.daload hx (j := (0 : Int32)) (v := (.double d0)) (by rw [e0]; exact Ar2.1) (State.isArrayOf_alike hZ.alike Ar2.2.1) Ar2.2.2 hi2 ha2 (g := (mkF m 21 #[.val (.ref a1), .val (.double FP.dconst0), .second, .val (.ref a1), .val (.int (4 : Int32)), .val (.int (0 : Int32)), .unset, .unset] [(.int (0 : Int32)), (.ref a1)])) rfl rfl (hb hby d1_21) _ k) ?_
  refine OD.go (B := (s₁.setTop (mkF m 24 #[.val (.ref a1), .val (.double FP.dconst0), .second, .val (.ref a1), .val (.int (4 : Int32)), .val (.int (0 : Int32)), .val (.double d0), .second] []))) (fun t k => XS.dstore X0.here hx rfl (hb hby d1_22) rfl (l' := #[.val (.ref a1), .val (.double FP.dconst0), .second, .val (.ref a1), .val (.int (4 : Int32)), .val (.int (0 : Int32)), .val (.double d0), .second]) rfl k) ?_
  refine OD.go (B := (s₁.setTop (mkF m 25 #[.val (.ref a1), .val (.double FP.dconst0), .second, .val (.ref a1), .val (.int (4 : Int32)), .val (.int (0 : Int32)), .val (.double d0), .second] [(.double FP.dconst0)]))) (fun t k => XS.dloadN X0.here hx rfl (hb hby d1_24) rfl k) ?_
  refine OD.go (B := (s₁.setTop (mkF m 27 #[.val (.ref a1), .val (.double FP.dconst0), .second, .val (.ref a1), .val (.int (4 : Int32)), .val (.int (0 : Int32)), .val (.double d0), .second] [(.double d0), (.double FP.dconst0)]))) (fun t k => XS.dload X0.here hx rfl (hb hby d1_25) rfl k) ?_
  obtain ⟨T3, X3, e3, st3⟩ := natS X0 hx hZ hown (Wd10 hw) (Wd11 hw) (Wd8 hw) (Wd12 hw) (by decide) e0 (W := 0) (fun hc => Fl.Abs.maxD_pays (W := 0) FP.dconst0 d0 hc (by decide) (by decide)) (g := (mkF m 27 #[.val (.ref a1), .val (.double FP.dconst0), .second, .val (.ref a1), .val (.int (4 : Int32)), .val (.int (0 : Int32)), .val (.double d0), .second] [(.double d0), (.double FP.dconst0)])) rfl (by rw [hml]; rfl) (argsL := [(.double FP.dconst0), (.double d0)]) (rest := []) (lenOf pd0 rfl) rfl (by show 2 * 0 + _ ≤ _; exact Nat.le_of_eq rfl) (hb hby d1_27) (by decide) (by decide) ⟨rfl, own_nn0, n0⟩ (val' := .double (Native.java_lang_Math.nans.pick64 true FP.dconst0 d0)) rfl
  refine OD.go (B := (T3.setTop (mkF m 30 #[.val (.ref a1), .val (.double FP.dconst0), .second, .val (.ref a1), .val (.int (4 : Int32)), .val (.int (0 : Int32)), .val (.double d0), .second] [(.double (Native.java_lang_Math.nans.pick64 true FP.dconst0 d0))]))) st3 ?_
  refine OD.go (B := (T3.setTop (mkF m 31 #[.val (.ref a1), .val (.double (Native.java_lang_Math.nans.pick64 true FP.dconst0 d0)), .second, .val (.ref a1), .val (.int (4 : Int32)), .val (.int (0 : Int32)), .val (.double d0), .second] []))) (fun t k => XS.dstoreN X3.here hx rfl (hb hby d1_30) rfl (l' := #[.val (.ref a1), .val (.double (Native.java_lang_Math.nans.pick64 true FP.dconst0 d0)), .second, .val (.ref a1), .val (.int (4 : Int32)), .val (.int (0 : Int32)), .val (.double d0), .second]) rfl k) ?_
  refine OD.go (B := (T3.setTop (mkF m 34 #[.val (.ref a1), .val (.double (Native.java_lang_Math.nans.pick64 true FP.dconst0 d0)), .second, .val (.ref a1), .val (.int (4 : Int32)), .val (.int (1 : Int32)), .val (.double d0), .second] []))) (fun t k => XS.iinc X3.here hx rfl (hb hby d1_31) rfl (l' := #[.val (.ref a1), .val (.double (Native.java_lang_Math.nans.pick64 true FP.dconst0 d0)), .second, .val (.ref a1), .val (.int (4 : Int32)), .val (.int (1 : Int32)), .val (.double d0), .second]) rfl k) ?_
  refine OD.go (B := (T3.setTop (mkF m 11 #[.val (.ref a1), .val (.double (Native.java_lang_Math.nans.pick64 true FP.dconst0 d0)), .second, .val (.ref a1), .val (.int (4 : Int32)), .val (.int (1 : Int32)), .val (.double d0), .second] []))) (fun t k => XS.goto X3.here hx rfl (pc0 := 34) (pc' := 11) rfl (hb hby d1_34) (by decide) (by decide) k) ?_
  refine OD.go (B := (T3.setTop (mkF m 13 #[.val (.ref a1), .val (.double (Native.java_lang_Math.nans.pick64 true FP.dconst0 d0)), .second, .val (.ref a1), .val (.int (4 : Int32)), .val (.int (1 : Int32)), .val (.double d0), .second] [(.int (1 : Int32))]))) (fun t k => XS.iload X3.here hx rfl (hb hby d1_11) rfl k) ?_
  refine OD.go (B := (T3.setTop (mkF m 15 #[.val (.ref a1), .val (.double (Native.java_lang_Math.nans.pick64 true FP.dconst0 d0)), .second, .val (.ref a1), .val (.int (4 : Int32)), .val (.int (1 : Int32)), .val (.double d0), .second] [(.int (4 : Int32)), (.int (1 : Int32))]))) (fun t k => XS.iload X3.here hx rfl (hb hby d1_13) rfl k) ?_
  refine OD.go (B := (T3.setTop (mkF m 18 #[.val (.ref a1), .val (.double (Native.java_lang_Math.nans.pick64 true FP.dconst0 d0)), .second, .val (.ref a1), .val (.int (4 : Int32)), .val (.int (1 : Int32)), .val (.double d0), .second] []))) (fun t k => XS.icmpNo X3.here hx rfl (hb hby d1_15) rfl (tlt (by decide : (1 : Int32) < (4 : Int32))).2.1 k) ?_
  refine OD.go (B := (T3.setTop (mkF m 19 #[.val (.ref a1), .val (.double (Native.java_lang_Math.nans.pick64 true FP.dconst0 d0)), .second, .val (.ref a1), .val (.int (4 : Int32)), .val (.int (1 : Int32)), .val (.double d0), .second] [(.ref a1)]))) (fun t k => XS.aloadN X3.here hx rfl (hb hby d1_18) rfl rfl k) ?_
  refine OD.go (B := (T3.setTop (mkF m 21 #[.val (.ref a1), .val (.double (Native.java_lang_Math.nans.pick64 true FP.dconst0 d0)), .second, .val (.ref a1), .val (.int (4 : Int32)), .val (.int (1 : Int32)), .val (.double d0), .second] [(.int (1 : Int32)), (.ref a1)]))) (fun t k => XS.iload X3.here hx rfl (hb hby d1_19) rfl k) ?_
  obtain ⟨cl4, Ar4, hi4, ha4⟩ := own_at V0 (j := (1 : Int32)) (v := (.double d1)) ⟨by decide, by decide⟩ rfl
  refine OD.go (B := (T3.setTop (mkF m 22 #[.val (.ref a1), .val (.double (Native.java_lang_Math.nans.pick64 true FP.dconst0 d0)), .second, .val (.ref a1), .val (.int (4 : Int32)), .val (.int (1 : Int32)), .val (.double d0), .second] [(.double d1)]))) (fun t k => X3.daload hx (j := (1 : Int32)) (v := (.double d1)) (by rw [e3]; exact Ar4.1) (State.isArrayOf_alike hZ.alike Ar4.2.1) Ar4.2.2 hi4 ha4 (g := (mkF m 21 #[.val (.ref a1), .val (.double (Native.java_lang_Math.nans.pick64 true FP.dconst0 d0)), .second, .val (.ref a1), .val (.int (4 : Int32)), .val (.int (1 : Int32)), .val (.double d0), .second] [(.int (1 : Int32)), (.ref a1)])) rfl rfl (hb hby d1_21) _ k) ?_
  refine OD.go (B := (T3.setTop (mkF m 24 #[.val (.ref a1), .val (.double (Native.java_lang_Math.nans.pick64 true FP.dconst0 d0)), .second, .val (.ref a1), .val (.int (4 : Int32)), .val (.int (1 : Int32)), .val (.double d1), .second] []))) (fun t k => XS.dstore X3.here hx rfl (hb hby d1_22) rfl (l' := #[.val (.ref a1), .val (.double (Native.java_lang_Math.nans.pick64 true FP.dconst0 d0)), .second, .val (.ref a1), .val (.int (4 : Int32)), .val (.int (1 : Int32)), .val (.double d1), .second]) rfl k) ?_
  refine OD.go (B := (T3.setTop (mkF m 25 #[.val (.ref a1), .val (.double (Native.java_lang_Math.nans.pick64 true FP.dconst0 d0)), .second, .val (.ref a1), .val (.int (4 : Int32)), .val (.int (1 : Int32)), .val (.double d1), .second] [(.double (Native.java_lang_Math.nans.pick64 true FP.dconst0 d0))]))) (fun t k => XS.dloadN X3.here hx rfl (hb hby d1_24) rfl k) ?_
  refine OD.go (B := (T3.setTop (mkF m 27 #[.val (.ref a1), .val (.double (Native.java_lang_Math.nans.pick64 true FP.dconst0 d0)), .second, .val (.ref a1), .val (.int (4 : Int32)), .val (.int (1 : Int32)), .val (.double d1), .second] [(.double d1), (.double (Native.java_lang_Math.nans.pick64 true FP.dconst0 d0))]))) (fun t k => XS.dload X3.here hx rfl (hb hby d1_25) rfl k) ?_
  obtain ⟨T5, X5, e5, st5⟩ := natS X3 hx hZ hown (Wd10 hw) (Wd11 hw) (Wd8 hw) (Wd12 hw) (by decide) e3 (W := 0) (fun hc => Fl.Abs.maxD_pays (W := 0) (Native.java_lang_Math.nans.pick64 true FP.dconst0 d0) d1 hc (by decide) (by decide)) (g := (mkF m 27 #[.val (.ref a1), .val (.double (Native.java_lang_Math.nans.pick64 true FP.dconst0 d0)), .second, .val (.ref a1), .val (.int (4 : Int32)), .val (.int (1 : Int32)), .val (.double d1), .second] [(.double d1), (.double (Native.java_lang_Math.nans.pick64 true FP.dconst0 d0))])) rfl (by rw [hml]; rfl) (argsL := [(.double (Native.java_lang_Math.nans.pick64 true FP.dconst0 d0)), (.double d1)]) (rest := []) (lenOf pd0 rfl) rfl (by show 2 * 0 + _ ≤ _; exact Nat.le_of_eq rfl) (hb hby d1_27) (by decide) (by decide) ⟨rfl, (Fl.pick64_noNaN own_nn0 n0), n1⟩ (val' := .double (Native.java_lang_Math.nans.pick64 true (Native.java_lang_Math.nans.pick64 true FP.dconst0 d0) d1)) rfl
  refine OD.go (B := (T5.setTop (mkF m 30 #[.val (.ref a1), .val (.double (Native.java_lang_Math.nans.pick64 true FP.dconst0 d0)), .second, .val (.ref a1), .val (.int (4 : Int32)), .val (.int (1 : Int32)), .val (.double d1), .second] [(.double (Native.java_lang_Math.nans.pick64 true (Native.java_lang_Math.nans.pick64 true FP.dconst0 d0) d1))]))) st5 ?_
  refine OD.go (B := (T5.setTop (mkF m 31 #[.val (.ref a1), .val (.double (Native.java_lang_Math.nans.pick64 true (Native.java_lang_Math.nans.pick64 true FP.dconst0 d0) d1)), .second, .val (.ref a1), .val (.int (4 : Int32)), .val (.int (1 : Int32)), .val (.double d1), .second] []))) (fun t k => XS.dstoreN X5.here hx rfl (hb hby d1_30) rfl (l' := #[.val (.ref a1), .val (.double (Native.java_lang_Math.nans.pick64 true (Native.java_lang_Math.nans.pick64 true FP.dconst0 d0) d1)), .second, .val (.ref a1), .val (.int (4 : Int32)), .val (.int (1 : Int32)), .val (.double d1), .second]) rfl k) ?_
  refine OD.go (B := (T5.setTop (mkF m 34 #[.val (.ref a1), .val (.double (Native.java_lang_Math.nans.pick64 true (Native.java_lang_Math.nans.pick64 true FP.dconst0 d0) d1)), .second, .val (.ref a1), .val (.int (4 : Int32)), .val (.int (2 : Int32)), .val (.double d1), .second] []))) (fun t k => XS.iinc X5.here hx rfl (hb hby d1_31) rfl (l' := #[.val (.ref a1), .val (.double (Native.java_lang_Math.nans.pick64 true (Native.java_lang_Math.nans.pick64 true FP.dconst0 d0) d1)), .second, .val (.ref a1), .val (.int (4 : Int32)), .val (.int (2 : Int32)), .val (.double d1), .second]) rfl k) ?_
  refine OD.go (B := (T5.setTop (mkF m 11 #[.val (.ref a1), .val (.double (Native.java_lang_Math.nans.pick64 true (Native.java_lang_Math.nans.pick64 true FP.dconst0 d0) d1)), .second, .val (.ref a1), .val (.int (4 : Int32)), .val (.int (2 : Int32)), .val (.double d1), .second] []))) (fun t k => XS.goto X5.here hx rfl (pc0 := 34) (pc' := 11) rfl (hb hby d1_34) (by decide) (by decide) k) ?_
  refine OD.go (B := (T5.setTop (mkF m 13 #[.val (.ref a1), .val (.double (Native.java_lang_Math.nans.pick64 true (Native.java_lang_Math.nans.pick64 true FP.dconst0 d0) d1)), .second, .val (.ref a1), .val (.int (4 : Int32)), .val (.int (2 : Int32)), .val (.double d1), .second] [(.int (2 : Int32))]))) (fun t k => XS.iload X5.here hx rfl (hb hby d1_11) rfl k) ?_
  refine OD.go (B := (T5.setTop (mkF m 15 #[.val (.ref a1), .val (.double (Native.java_lang_Math.nans.pick64 true (Native.java_lang_Math.nans.pick64 true FP.dconst0 d0) d1)), .second, .val (.ref a1), .val (.int (4 : Int32)), .val (.int (2 : Int32)), .val (.double d1), .second] [(.int (4 : Int32)), (.int (2 : Int32))]))) (fun t k => XS.iload X5.here hx rfl (hb hby d1_13) rfl k) ?_
  refine OD.go (B := (T5.setTop (mkF m 18 #[.val (.ref a1), .val (.double (Native.java_lang_Math.nans.pick64 true (Native.java_lang_Math.nans.pick64 true FP.dconst0 d0) d1)), .second, .val (.ref a1), .val (.int (4 : Int32)), .val (.int (2 : Int32)), .val (.double d1), .second] []))) (fun t k => XS.icmpNo X5.here hx rfl (hb hby d1_15) rfl (tlt (by decide : (2 : Int32) < (4 : Int32))).2.1 k) ?_
  refine OD.go (B := (T5.setTop (mkF m 19 #[.val (.ref a1), .val (.double (Native.java_lang_Math.nans.pick64 true (Native.java_lang_Math.nans.pick64 true FP.dconst0 d0) d1)), .second, .val (.ref a1), .val (.int (4 : Int32)), .val (.int (2 : Int32)), .val (.double d1), .second] [(.ref a1)]))) (fun t k => XS.aloadN X5.here hx rfl (hb hby d1_18) rfl rfl k) ?_
  refine OD.go (B := (T5.setTop (mkF m 21 #[.val (.ref a1), .val (.double (Native.java_lang_Math.nans.pick64 true (Native.java_lang_Math.nans.pick64 true FP.dconst0 d0) d1)), .second, .val (.ref a1), .val (.int (4 : Int32)), .val (.int (2 : Int32)), .val (.double d1), .second] [(.int (2 : Int32)), (.ref a1)]))) (fun t k => XS.iload X5.here hx rfl (hb hby d1_19) rfl k) ?_
  obtain ⟨cl6, Ar6, hi6, ha6⟩ := own_at V0 (j := (2 : Int32)) (v := (.double d2)) ⟨by decide, by decide⟩ rfl
  refine OD.go (B := (T5.setTop (mkF m 22 #[.val (.ref a1), .val (.double (Native.java_lang_Math.nans.pick64 true (Native.java_lang_Math.nans.pick64 true FP.dconst0 d0) d1)), .second, .val (.ref a1), .val (.int (4 : Int32)), .val (.int (2 : Int32)), .val (.double d1), .second] [(.double d2)]))) (fun t k => X5.daload hx (j := (2 : Int32)) (v := (.double d2)) (by rw [e5]; exact Ar6.1) (State.isArrayOf_alike hZ.alike Ar6.2.1) Ar6.2.2 hi6 ha6 (g := (mkF m 21 #[.val (.ref a1), .val (.double (Native.java_lang_Math.nans.pick64 true (Native.java_lang_Math.nans.pick64 true FP.dconst0 d0) d1)), .second, .val (.ref a1), .val (.int (4 : Int32)), .val (.int (2 : Int32)), .val (.double d1), .second] [(.int (2 : Int32)), (.ref a1)])) rfl rfl (hb hby d1_21) _ k) ?_
  refine OD.go (B := (T5.setTop (mkF m 24 #[.val (.ref a1), .val (.double (Native.java_lang_Math.nans.pick64 true (Native.java_lang_Math.nans.pick64 true FP.dconst0 d0) d1)), .second, .val (.ref a1), .val (.int (4 : Int32)), .val (.int (2 : Int32)), .val (.double d2), .second] []))) (fun t k => XS.dstore X5.here hx rfl (hb hby d1_22) rfl (l' := #[.val (.ref a1), .val (.double (Native.java_lang_Math.nans.pick64 true (Native.java_lang_Math.nans.pick64 true FP.dconst0 d0) d1)), .second, .val (.ref a1), .val (.int (4 : Int32)), .val (.int (2 : Int32)), .val (.double d2), .second]) rfl k) ?_
  refine OD.go (B := (T5.setTop (mkF m 25 #[.val (.ref a1), .val (.double (Native.java_lang_Math.nans.pick64 true (Native.java_lang_Math.nans.pick64 true FP.dconst0 d0) d1)), .second, .val (.ref a1), .val (.int (4 : Int32)), .val (.int (2 : Int32)), .val (.double d2), .second] [(.double (Native.java_lang_Math.nans.pick64 true (Native.java_lang_Math.nans.pick64 true FP.dconst0 d0) d1))]))) (fun t k => XS.dloadN X5.here hx rfl (hb hby d1_24) rfl k) ?_
  refine OD.go (B := (T5.setTop (mkF m 27 #[.val (.ref a1), .val (.double (Native.java_lang_Math.nans.pick64 true (Native.java_lang_Math.nans.pick64 true FP.dconst0 d0) d1)), .second, .val (.ref a1), .val (.int (4 : Int32)), .val (.int (2 : Int32)), .val (.double d2), .second] [(.double d2), (.double (Native.java_lang_Math.nans.pick64 true (Native.java_lang_Math.nans.pick64 true FP.dconst0 d0) d1))]))) (fun t k => XS.dload X5.here hx rfl (hb hby d1_25) rfl k) ?_
  obtain ⟨T7, X7, e7, st7⟩ := natS X5 hx hZ hown (Wd10 hw) (Wd11 hw) (Wd8 hw) (Wd12 hw) (by decide) e5 (W := 0) (fun hc => Fl.Abs.maxD_pays (W := 0) (Native.java_lang_Math.nans.pick64 true (Native.java_lang_Math.nans.pick64 true FP.dconst0 d0) d1) d2 hc (by decide) (by decide)) (g := (mkF m 27 #[.val (.ref a1), .val (.double (Native.java_lang_Math.nans.pick64 true (Native.java_lang_Math.nans.pick64 true FP.dconst0 d0) d1)), .second, .val (.ref a1), .val (.int (4 : Int32)), .val (.int (2 : Int32)), .val (.double d2), .second] [(.double d2), (.double (Native.java_lang_Math.nans.pick64 true (Native.java_lang_Math.nans.pick64 true FP.dconst0 d0) d1))])) rfl (by rw [hml]; rfl) (argsL := [(.double (Native.java_lang_Math.nans.pick64 true (Native.java_lang_Math.nans.pick64 true FP.dconst0 d0) d1)), (.double d2)]) (rest := []) (lenOf pd0 rfl) rfl (by show 2 * 0 + _ ≤ _; exact Nat.le_of_eq rfl) (hb hby d1_27) (by decide) (by decide) ⟨rfl, (Fl.pick64_noNaN (Fl.pick64_noNaN own_nn0 n0) n1), n2⟩ (val' := .double (Native.java_lang_Math.nans.pick64 true (Native.java_lang_Math.nans.pick64 true (Native.java_lang_Math.nans.pick64 true FP.dconst0 d0) d1) d2)) rfl
  refine OD.go (B := (T7.setTop (mkF m 30 #[.val (.ref a1), .val (.double (Native.java_lang_Math.nans.pick64 true (Native.java_lang_Math.nans.pick64 true FP.dconst0 d0) d1)), .second, .val (.ref a1), .val (.int (4 : Int32)), .val (.int (2 : Int32)), .val (.double d2), .second] [(.double (Native.java_lang_Math.nans.pick64 true (Native.java_lang_Math.nans.pick64 true (Native.java_lang_Math.nans.pick64 true FP.dconst0 d0) d1) d2))]))) st7 ?_
  refine OD.go (B := (T7.setTop (mkF m 31 #[.val (.ref a1), .val (.double (Native.java_lang_Math.nans.pick64 true (Native.java_lang_Math.nans.pick64 true (Native.java_lang_Math.nans.pick64 true FP.dconst0 d0) d1) d2)), .second, .val (.ref a1), .val (.int (4 : Int32)), .val (.int (2 : Int32)), .val (.double d2), .second] []))) (fun t k => XS.dstoreN X7.here hx rfl (hb hby d1_30) rfl (l' := #[.val (.ref a1), .val (.double (Native.java_lang_Math.nans.pick64 true (Native.java_lang_Math.nans.pick64 true (Native.java_lang_Math.nans.pick64 true FP.dconst0 d0) d1) d2)), .second, .val (.ref a1), .val (.int (4 : Int32)), .val (.int (2 : Int32)), .val (.double d2), .second]) rfl k) ?_
  refine OD.go (B := (T7.setTop (mkF m 34 #[.val (.ref a1), .val (.double (Native.java_lang_Math.nans.pick64 true (Native.java_lang_Math.nans.pick64 true (Native.java_lang_Math.nans.pick64 true FP.dconst0 d0) d1) d2)), .second, .val (.ref a1), .val (.int (4 : Int32)), .val (.int (3 : Int32)), .val (.double d2), .second] []))) (fun t k => XS.iinc X7.here hx rfl (hb hby d1_31) rfl (l' := #[.val (.ref a1), .val (.double (Native.java_lang_Math.nans.pick64 true (Native.java_lang_Math.nans.pick64 true (Native.java_lang_Math.nans.pick64 true FP.dconst0 d0) d1) d2)), .second, .val (.ref a1), .val (.int (4 : Int32)), .val (.int (3 : Int32)), .val (.double d2), .second]) rfl k) ?_
  refine OD.go (B := (T7.setTop (mkF m 11 #[.val (.ref a1), .val (.double (Native.java_lang_Math.nans.pick64 true (Native.java_lang_Math.nans.pick64 true (Native.java_lang_Math.nans.pick64 true FP.dconst0 d0) d1) d2)), .second, .val (.ref a1), .val (.int (4 : Int32)), .val (.int (3 : Int32)), .val (.double d2), .second] []))) (fun t k => XS.goto X7.here hx rfl (pc0 := 34) (pc' := 11) rfl (hb hby d1_34) (by decide) (by decide) k) ?_
  refine OD.go (B := (T7.setTop (mkF m 13 #[.val (.ref a1), .val (.double (Native.java_lang_Math.nans.pick64 true (Native.java_lang_Math.nans.pick64 true (Native.java_lang_Math.nans.pick64 true FP.dconst0 d0) d1) d2)), .second, .val (.ref a1), .val (.int (4 : Int32)), .val (.int (3 : Int32)), .val (.double d2), .second] [(.int (3 : Int32))]))) (fun t k => XS.iload X7.here hx rfl (hb hby d1_11) rfl k) ?_
  refine OD.go (B := (T7.setTop (mkF m 15 #[.val (.ref a1), .val (.double (Native.java_lang_Math.nans.pick64 true (Native.java_lang_Math.nans.pick64 true (Native.java_lang_Math.nans.pick64 true FP.dconst0 d0) d1) d2)), .second, .val (.ref a1), .val (.int (4 : Int32)), .val (.int (3 : Int32)), .val (.double d2), .second] [(.int (4 : Int32)), (.int (3 : Int32))]))) (fun t k => XS.iload X7.here hx rfl (hb hby d1_13) rfl k) ?_
  refine OD.go (B := (T7.setTop (mkF m 18 #[.val (.ref a1), .val (.double (Native.java_lang_Math.nans.pick64 true (Native.java_lang_Math.nans.pick64 true (Native.java_lang_Math.nans.pick64 true FP.dconst0 d0) d1) d2)), .second, .val (.ref a1), .val (.int (4 : Int32)), .val (.int (3 : Int32)), .val (.double d2), .second] []))) (fun t k => XS.icmpNo X7.here hx rfl (hb hby d1_15) rfl (tlt (by decide : (3 : Int32) < (4 : Int32))).2.1 k) ?_
  refine OD.go (B := (T7.setTop (mkF m 19 #[.val (.ref a1), .val (.double (Native.java_lang_Math.nans.pick64 true (Native.java_lang_Math.nans.pick64 true (Native.java_lang_Math.nans.pick64 true FP.dconst0 d0) d1) d2)), .second, .val (.ref a1), .val (.int (4 : Int32)), .val (.int (3 : Int32)), .val (.double d2), .second] [(.ref a1)]))) (fun t k => XS.aloadN X7.here hx rfl (hb hby d1_18) rfl rfl k) ?_
  refine OD.go (B := (T7.setTop (mkF m 21 #[.val (.ref a1), .val (.double (Native.java_lang_Math.nans.pick64 true (Native.java_lang_Math.nans.pick64 true (Native.java_lang_Math.nans.pick64 true FP.dconst0 d0) d1) d2)), .second, .val (.ref a1), .val (.int (4 : Int32)), .val (.int (3 : Int32)), .val (.double d2), .second] [(.int (3 : Int32)), (.ref a1)]))) (fun t k => XS.iload X7.here hx rfl (hb hby d1_19) rfl k) ?_
  obtain ⟨cl8, Ar8, hi8, ha8⟩ := own_at V0 (j := (3 : Int32)) (v := (.double d3)) ⟨by decide, by decide⟩ rfl
  refine OD.go (B := (T7.setTop (mkF m 22 #[.val (.ref a1), .val (.double (Native.java_lang_Math.nans.pick64 true (Native.java_lang_Math.nans.pick64 true (Native.java_lang_Math.nans.pick64 true FP.dconst0 d0) d1) d2)), .second, .val (.ref a1), .val (.int (4 : Int32)), .val (.int (3 : Int32)), .val (.double d2), .second] [(.double d3)]))) (fun t k => X7.daload hx (j := (3 : Int32)) (v := (.double d3)) (by rw [e7]; exact Ar8.1) (State.isArrayOf_alike hZ.alike Ar8.2.1) Ar8.2.2 hi8 ha8 (g := (mkF m 21 #[.val (.ref a1), .val (.double (Native.java_lang_Math.nans.pick64 true (Native.java_lang_Math.nans.pick64 true (Native.java_lang_Math.nans.pick64 true FP.dconst0 d0) d1) d2)), .second, .val (.ref a1), .val (.int (4 : Int32)), .val (.int (3 : Int32)), .val (.double d2), .second] [(.int (3 : Int32)), (.ref a1)])) rfl rfl (hb hby d1_21) _ k) ?_
  refine OD.go (B := (T7.setTop (mkF m 24 #[.val (.ref a1), .val (.double (Native.java_lang_Math.nans.pick64 true (Native.java_lang_Math.nans.pick64 true (Native.java_lang_Math.nans.pick64 true FP.dconst0 d0) d1) d2)), .second, .val (.ref a1), .val (.int (4 : Int32)), .val (.int (3 : Int32)), .val (.double d3), .second] []))) (fun t k => XS.dstore X7.here hx rfl (hb hby d1_22) rfl (l' := #[.val (.ref a1), .val (.double (Native.java_lang_Math.nans.pick64 true (Native.java_lang_Math.nans.pick64 true (Native.java_lang_Math.nans.pick64 true FP.dconst0 d0) d1) d2)), .second, .val (.ref a1), .val (.int (4 : Int32)), .val (.int (3 : Int32)), .val (.double d3), .second]) rfl k) ?_
  refine OD.go (B := (T7.setTop (mkF m 25 #[.val (.ref a1), .val (.double (Native.java_lang_Math.nans.pick64 true (Native.java_lang_Math.nans.pick64 true (Native.java_lang_Math.nans.pick64 true FP.dconst0 d0) d1) d2)), .second, .val (.ref a1), .val (.int (4 : Int32)), .val (.int (3 : Int32)), .val (.double d3), .second] [(.double (Native.java_lang_Math.nans.pick64 true (Native.java_lang_Math.nans.pick64 true (Native.java_lang_Math.nans.pick64 true FP.dconst0 d0) d1) d2))]))) (fun t k => XS.dloadN X7.here hx rfl (hb hby d1_24) rfl k) ?_
  refine OD.go (B := (T7.setTop (mkF m 27 #[.val (.ref a1), .val (.double (Native.java_lang_Math.nans.pick64 true (Native.java_lang_Math.nans.pick64 true (Native.java_lang_Math.nans.pick64 true FP.dconst0 d0) d1) d2)), .second, .val (.ref a1), .val (.int (4 : Int32)), .val (.int (3 : Int32)), .val (.double d3), .second] [(.double d3), (.double (Native.java_lang_Math.nans.pick64 true (Native.java_lang_Math.nans.pick64 true (Native.java_lang_Math.nans.pick64 true FP.dconst0 d0) d1) d2))]))) (fun t k => XS.dload X7.here hx rfl (hb hby d1_25) rfl k) ?_
  obtain ⟨T9, X9, e9, st9⟩ := natS X7 hx hZ hown (Wd10 hw) (Wd11 hw) (Wd8 hw) (Wd12 hw) (by decide) e7 (W := 0) (fun hc => Fl.Abs.maxD_pays (W := 0) (Native.java_lang_Math.nans.pick64 true (Native.java_lang_Math.nans.pick64 true (Native.java_lang_Math.nans.pick64 true FP.dconst0 d0) d1) d2) d3 hc (by decide) (by decide)) (g := (mkF m 27 #[.val (.ref a1), .val (.double (Native.java_lang_Math.nans.pick64 true (Native.java_lang_Math.nans.pick64 true (Native.java_lang_Math.nans.pick64 true FP.dconst0 d0) d1) d2)), .second, .val (.ref a1), .val (.int (4 : Int32)), .val (.int (3 : Int32)), .val (.double d3), .second] [(.double d3), (.double (Native.java_lang_Math.nans.pick64 true (Native.java_lang_Math.nans.pick64 true (Native.java_lang_Math.nans.pick64 true FP.dconst0 d0) d1) d2))])) rfl (by rw [hml]; rfl) (argsL := [(.double (Native.java_lang_Math.nans.pick64 true (Native.java_lang_Math.nans.pick64 true (Native.java_lang_Math.nans.pick64 true FP.dconst0 d0) d1) d2)), (.double d3)]) (rest := []) (lenOf pd0 rfl) rfl (by show 2 * 0 + _ ≤ _; exact Nat.le_of_eq rfl) (hb hby d1_27) (by decide) (by decide) ⟨rfl, (Fl.pick64_noNaN (Fl.pick64_noNaN (Fl.pick64_noNaN own_nn0 n0) n1) n2), n3⟩ (val' := .double (Native.java_lang_Math.nans.pick64 true (Native.java_lang_Math.nans.pick64 true (Native.java_lang_Math.nans.pick64 true (Native.java_lang_Math.nans.pick64 true FP.dconst0 d0) d1) d2) d3)) rfl
  refine OD.go (B := (T9.setTop (mkF m 30 #[.val (.ref a1), .val (.double (Native.java_lang_Math.nans.pick64 true (Native.java_lang_Math.nans.pick64 true (Native.java_lang_Math.nans.pick64 true FP.dconst0 d0) d1) d2)), .second, .val (.ref a1), .val (.int (4 : Int32)), .val (.int (3 : Int32)), .val (.double d3), .second] [(.double (Native.java_lang_Math.nans.pick64 true (Native.java_lang_Math.nans.pick64 true (Native.java_lang_Math.nans.pick64 true (Native.java_lang_Math.nans.pick64 true FP.dconst0 d0) d1) d2) d3))]))) st9 ?_
  refine OD.go (B := (T9.setTop (mkF m 31 #[.val (.ref a1), .val (.double (Native.java_lang_Math.nans.pick64 true (Native.java_lang_Math.nans.pick64 true (Native.java_lang_Math.nans.pick64 true (Native.java_lang_Math.nans.pick64 true FP.dconst0 d0) d1) d2) d3)), .second, .val (.ref a1), .val (.int (4 : Int32)), .val (.int (3 : Int32)), .val (.double d3), .second] []))) (fun t k => XS.dstoreN X9.here hx rfl (hb hby d1_30) rfl (l' := #[.val (.ref a1), .val (.double (Native.java_lang_Math.nans.pick64 true (Native.java_lang_Math.nans.pick64 true (Native.java_lang_Math.nans.pick64 true (Native.java_lang_Math.nans.pick64 true FP.dconst0 d0) d1) d2) d3)), .second, .val (.ref a1), .val (.int (4 : Int32)), .val (.int (3 : Int32)), .val (.double d3), .second]) rfl k) ?_
  refine OD.go (B := (T9.setTop (mkF m 34 #[.val (.ref a1), .val (.double (Native.java_lang_Math.nans.pick64 true (Native.java_lang_Math.nans.pick64 true (Native.java_lang_Math.nans.pick64 true (Native.java_lang_Math.nans.pick64 true FP.dconst0 d0) d1) d2) d3)), .second, .val (.ref a1), .val (.int (4 : Int32)), .val (.int (4 : Int32)), .val (.double d3), .second] []))) (fun t k => XS.iinc X9.here hx rfl (hb hby d1_31) rfl (l' := #[.val (.ref a1), .val (.double (Native.java_lang_Math.nans.pick64 true (Native.java_lang_Math.nans.pick64 true (Native.java_lang_Math.nans.pick64 true (Native.java_lang_Math.nans.pick64 true FP.dconst0 d0) d1) d2) d3)), .second, .val (.ref a1), .val (.int (4 : Int32)), .val (.int (4 : Int32)), .val (.double d3), .second]) rfl k) ?_
  refine OD.go (B := (T9.setTop (mkF m 11 #[.val (.ref a1), .val (.double (Native.java_lang_Math.nans.pick64 true (Native.java_lang_Math.nans.pick64 true (Native.java_lang_Math.nans.pick64 true (Native.java_lang_Math.nans.pick64 true FP.dconst0 d0) d1) d2) d3)), .second, .val (.ref a1), .val (.int (4 : Int32)), .val (.int (4 : Int32)), .val (.double d3), .second] []))) (fun t k => XS.goto X9.here hx rfl (pc0 := 34) (pc' := 11) rfl (hb hby d1_34) (by decide) (by decide) k) ?_
  refine OD.go (B := (T9.setTop (mkF m 13 #[.val (.ref a1), .val (.double (Native.java_lang_Math.nans.pick64 true (Native.java_lang_Math.nans.pick64 true (Native.java_lang_Math.nans.pick64 true (Native.java_lang_Math.nans.pick64 true FP.dconst0 d0) d1) d2) d3)), .second, .val (.ref a1), .val (.int (4 : Int32)), .val (.int (4 : Int32)), .val (.double d3), .second] [(.int (4 : Int32))]))) (fun t k => XS.iload X9.here hx rfl (hb hby d1_11) rfl k) ?_
  refine OD.go (B := (T9.setTop (mkF m 15 #[.val (.ref a1), .val (.double (Native.java_lang_Math.nans.pick64 true (Native.java_lang_Math.nans.pick64 true (Native.java_lang_Math.nans.pick64 true (Native.java_lang_Math.nans.pick64 true FP.dconst0 d0) d1) d2) d3)), .second, .val (.ref a1), .val (.int (4 : Int32)), .val (.int (4 : Int32)), .val (.double d3), .second] [(.int (4 : Int32)), (.int (4 : Int32))]))) (fun t k => XS.iload X9.here hx rfl (hb hby d1_13) rfl k) ?_
  refine OD.go (B := (T9.setTop (mkF m 37 #[.val (.ref a1), .val (.double (Native.java_lang_Math.nans.pick64 true (Native.java_lang_Math.nans.pick64 true (Native.java_lang_Math.nans.pick64 true (Native.java_lang_Math.nans.pick64 true FP.dconst0 d0) d1) d2) d3)), .second, .val (.ref a1), .val (.int (4 : Int32)), .val (.int (4 : Int32)), .val (.double d3), .second] []))) (fun t k => XS.icmpYes X9.here hx rfl (pc0 := 15) (pc' := 37) rfl (hb hby d1_15) rfl (flt (by decide : ¬ (4 : Int32) < (4 : Int32))).2.1 (by decide) (by decide) k) ?_
  refine OD.go (B := (T9.setTop (mkF m 38 #[.val (.ref a1), .val (.double (Native.java_lang_Math.nans.pick64 true (Native.java_lang_Math.nans.pick64 true (Native.java_lang_Math.nans.pick64 true (Native.java_lang_Math.nans.pick64 true FP.dconst0 d0) d1) d2) d3)), .second, .val (.ref a1), .val (.int (4 : Int32)), .val (.int (4 : Int32)), .val (.double d3), .second] [(.double (Native.java_lang_Math.nans.pick64 true (Native.java_lang_Math.nans.pick64 true (Native.java_lang_Math.nans.pick64 true (Native.java_lang_Math.nans.pick64 true FP.dconst0 d0) d1) d2) d3))]))) (fun t k => XS.dloadN X9.here hx rfl (hb hby d1_37) rfl k) ?_
  exact OD.ret X9 hx hlk (t := .double) Bd.returns rfl (Or.inr (Or.inr (Or.inl ⟨rfl, rfl, _, rfl⟩))) (hb hby d1_38) (Nat.le_of_ble_eq_true rfl) (Nat.le_of_ble_eq_true rfl) ⟨rfl, rfl, e9⟩
def Q_rm0 (Z : State) (p0 : Int32) (p1 : Int32) (p2 : Int32) (p3 : Int32) (p4 : Int32) (h0 : Heap) (v : Option Value) (h : Heap) (L : List Loc) : Prop := v = some (.int 1) ∧ Fr h0.size L
set_option maxRecDepth 65536 in
set_option maxHeartbeats 40000000 in
theorem rm0 (l : Launch) (Z : State) (a0 : Array Value) (hw : ∀ d ∈ tables_1, d.before a0 Z = true) (ws : List Jvm.Cond) (p0 : Int32) (p1 : Int32) (p2 : Int32) (p3 : Int32) (p4 : Int32) (h0 : Heap)  :
    MetFree l x (head1 (Jvm.Cond.code x code maxLocals ret :: ws) room_1) (fun a U => a = #[(.int p0), (.int p1), (.int p2), (.int p3), (.int p4)] ∧ Z.Warmed39 U.vm ∧ U.heap = h0) (fun _ _ _ _ _ => True) (fun _ U o U' => ∃ v L, o = .returned v ∧ Q_rm0 Z p0 p1 p2 p3 p4 h0 v U'.heap L ∧ FrameEnd U o U' L 16 128) := by
  refine MetFree.of_bodySF (plainFor_of_name pn1) hisR ?_
  intro p e s m args below meth c s₁ Bd hml0 hP hK
  obtain ⟨rfl, hZ, hh⟩ := hP
  have hx := Bd.exec
  have hby := Bd.bytes
  have hlk : meth.locks = false := Bd.notSynchronized
  have hml : c.maxLocals = 10 := hml0
  have hown : s.vm.findClass "com/example/querent/querent/ScoreScaleHighestPinLaw" = some m.cls := findClass_of_methodNamed Bd.named
  have hnm := (name_of_methodNamed Bd.named Bd.method).1
  have X0 : Stand p l e room_1 s m #[(.int p0), (.int p1), (.int p2), (.int p3), (.int p4)] below meth c s₁ [] 0 0 := Stand.of_body Bd
  have e0 : s₁.heap = h0 := by rw [← hh, Bd.state]; rfl
  have N0 := Fr.nil h0.size
  suffices hgo : OD p e s below (Q_rm0 Z p0 p1 p2 p3 p4 h0) 16 128 (s₁.setTop (mkF m 0 #[.val (.int p0), .val (.int p1), .val (.int p2), .val (.int p3), .val (.int p4), .unset, .unset, .unset, .unset, .unset] [])) by
    obtain ⟨s₂, o, q1, q2⟩ := hgo
    exact ⟨s₂, o, castTop (ef2 m p0 p1 p2 p3 p4) q1, q2⟩
  refine OD.go (B := (s₁.setTop (mkF m 1 #[.val (.int p0), .val (.int p1), .val (.int p2), .val (.int p3), .val (.int p4), .unset, .unset, .unset, .unset, .unset] [(.int p0)]))) (fun t k => XS.iloadN X0.here hx rfl (hb hby at_0) rfl k) ?_
  refine OD.go (B := (s₁.setTop (mkF m 3 #[.val (.int p0), .val (.int p1), .val (.int p2), .val (.int p3), .val (.int p4), .unset, .unset, .unset, .unset, .unset] [(.int (2147483647 : Int32)), (.int p0)]))) (fun t k => X0.ldcInt hx hown (mv hZ (Wd0 hw)) (g := (mkF m 1 #[.val (.int p0), .val (.int p1), .val (.int p2), .val (.int p3), .val (.int p4), .unset, .unset, .unset, .unset, .unset] [(.int p0)])) rfl (hb hby at_1) _ k) ?_
  refine OD.go (B := (s₁.setTop (mkF m 4 #[.val (.int p0), .val (.int p1), .val (.int p2), .val (.int p3), .val (.int p4), .unset, .unset, .unset, .unset, .unset] [(.int (p0 &&& (2147483647 : Int32)))]))) (fun t k => XS.iand X0.here hx rfl (hb hby at_3) rfl k) ?_
  refine OD.go (B := (s₁.setTop (mkF m 5 #[.val (.int p0), .val (.int p1), .val (.int p2), .val (.int p3), .val (.int p4), .unset, .unset, .unset, .unset, .unset] [(.int (5 : Int32)), (.int (p0 &&& (2147483647 : Int32)))]))) (fun t k => XS.iconst X0.here hx rfl (hb hby at_4) k) ?_
  refine OD.go (B := (s₁.setTop (mkF m 6 #[.val (.int p0), .val (.int p1), .val (.int p2), .val (.int p3), .val (.int p4), .unset, .unset, .unset, .unset, .unset] [(.int ((p0 &&& (2147483647 : Int32)) % (5 : Int32)))]))) (fun t k => iremM X0 hx rfl (hb hby at_5) rfl (by decide) k) ?_
  refine OD.go (B := (s₁.setTop (mkF m 8 #[.val (.int p0), .val (.int p1), .val (.int p2), .val (.int p3), .val (.int p4), .val (.int ((p0 &&& (2147483647 : Int32)) % (5 : Int32))), .unset, .unset, .unset, .unset] []))) (fun t k => XS.istore X0.here hx rfl (hb hby at_6) rfl (l' := #[.val (.int p0), .val (.int p1), .val (.int p2), .val (.int p3), .val (.int p4), .val (.int ((p0 &&& (2147483647 : Int32)) % (5 : Int32))), .unset, .unset, .unset, .unset]) rfl k) ?_
  generalize hu6_1 : ((p0 &&& (2147483647 : Int32)) % (5 : Int32)) = u6_1
  have hcase := own_five (p0 &&& (2147483647 : Int32)) (own_mask p0) hu6_1
  rcases hcase with rfl | rfl | rfl | rfl | rfl
  · show OD _ _ _ _ _ _ _ (s₁.setTop (mkF m 8 #[.val (.int p0), .val (.int p1), .val (.int p2), .val (.int p3), .val (.int p4), .val (.int (0 : Int32)), .unset, .unset, .unset, .unset] []))
    refine OD.go (B := (s₁.setTop (mkF m 10 #[.val (.int p0), .val (.int p1), .val (.int p2), .val (.int p3), .val (.int p4), .val (.int (0 : Int32)), .unset, .unset, .unset, .unset] [(.int (0 : Int32))]))) (fun t k => XS.iload X0.here hx rfl (hb hby at_8) rfl k) ?_
    obtain ⟨T2, h2, k2, X2, e2, E2, A2, st2⟩ := newP X0 hx hZ (aty := .double) (Wd1 hw) e0 (g := (mkF m 10 #[.val (.int p0), .val (.int p1), .val (.int p2), .val (.int p3), .val (.int p4), .val (.int (0 : Int32)), .unset, .unset, .unset, .unset] [(.int (0 : Int32))])) rfl (hb hby at_10) rfl (by decide) (cap := 0) (by decide) (by decide) (Nat.le_of_ble_eq_true rfl) (Nat.le_of_ble_eq_true rfl)
    obtain ⟨b2, g2⟩ : ∃ z, z = h0.size := ⟨_, rfl⟩
    rw [← g2] at A2 st2
    have V2 : Arv Z h2 b2 k2 .double (0 : Int32) [] (.double (0 : UInt64)) := Arv.new A2 (by decide)
    refine OD.go (B := (T2.setTop (mkF m 12 #[.val (.int p0), .val (.int p1), .val (.int p2), .val (.int p3), .val (.int p4), .val (.int (0 : Int32)), .unset, .unset, .unset, .unset] [(.ref b2)]))) st2 ?_
    refine OD.go (B := (T2.setTop (mkF m 14 #[.val (.int p0), .val (.int p1), .val (.int p2), .val (.int p3), .val (.int p4), .val (.int (0 : Int32)), .val (.ref b2), .unset, .unset, .unset] []))) (fun t k => XS.astore X2.here hx rfl (hb hby at_12) rfl rfl (l' := #[.val (.int p0), .val (.int p1), .val (.int p2), .val (.int p3), .val (.int p4), .val (.int (0 : Int32)), .val (.ref b2), .unset, .unset, .unset]) rfl k) ?_
    refine OD.go (B := (T2.setTop (mkF m 15 #[.val (.int p0), .val (.int p1), .val (.int p2), .val (.int p3), .val (.int p4), .val (.int (0 : Int32)), .val (.ref b2), .unset, .unset, .unset] [(.int (0 : Int32))]))) (fun t k => XS.iconst X2.here hx rfl (hb hby at_14) k) ?_
    refine OD.go (B := (T2.setTop (mkF m 17 #[.val (.int p0), .val (.int p1), .val (.int p2), .val (.int p3), .val (.int p4), .val (.int (0 : Int32)), .val (.ref b2), .val (.int (0 : Int32)), .unset, .unset] []))) (fun t k => XS.istore X2.here hx rfl (hb hby at_15) rfl (l' := #[.val (.int p0), .val (.int p1), .val (.int p2), .val (.int p3), .val (.int p4), .val (.int (0 : Int32)), .val (.ref b2), .val (.int (0 : Int32)), .unset, .unset]) rfl k) ?_
    refine OD.go (B := (T2.setTop (mkF m 19 #[.val (.int p0), .val (.int p1), .val (.int p2), .val (.int p3), .val (.int p4), .val (.int (0 : Int32)), .val (.ref b2), .val (.int (0 : Int32)), .unset, .unset] [(.int (0 : Int32))]))) (fun t k => XS.iload X2.here hx rfl (hb hby at_17) rfl k) ?_
    refine OD.go (B := (T2.setTop (mkF m 36 #[.val (.int p0), .val (.int p1), .val (.int p2), .val (.int p3), .val (.int p4), .val (.int (0 : Int32)), .val (.ref b2), .val (.int (0 : Int32)), .unset, .unset] []))) (fun t k => XS.ifYes X2.here hx rfl (pc0 := 19) (pc' := 36) rfl (hb hby at_19) rfl (by rw [if0]; exact (flt (by decide : ¬ (0 : Int32) < (0 : Int32))).2.2.2) (by decide) (by decide) k) ?_
    refine OD.go (B := (T2.setTop (mkF m 38 #[.val (.int p0), .val (.int p1), .val (.int p2), .val (.int p3), .val (.int p4), .val (.int (0 : Int32)), .val (.ref b2), .val (.int (0 : Int32)), .unset, .unset] [(.int (0 : Int32))]))) (fun t k => XS.iload X2.here hx rfl (hb hby at_36) rfl k) ?_
    refine OD.go (B := (T2.setTop (mkF m 39 #[.val (.int p0), .val (.int p1), .val (.int p2), .val (.int p3), .val (.int p4), .val (.int (0 : Int32)), .val (.ref b2), .val (.int (0 : Int32)), .unset, .unset] [(.int (1 : Int32)), (.int (0 : Int32))]))) (fun t k => XS.iconst X2.here hx rfl (hb hby at_38) k) ?_
    refine OD.go (B := (T2.setTop (mkF m 56 #[.val (.int p0), .val (.int p1), .val (.int p2), .val (.int p3), .val (.int p4), .val (.int (0 : Int32)), .val (.ref b2), .val (.int (0 : Int32)), .unset, .unset] []))) (fun t k => XS.icmpYes X2.here hx rfl (pc0 := 39) (pc' := 56) rfl (hb hby at_39) rfl (flt (by decide : ¬ (1 : Int32) < (0 : Int32))).2.2.2 (by decide) (by decide) k) ?_
    refine OD.go (B := (T2.setTop (mkF m 58 #[.val (.int p0), .val (.int p1), .val (.int p2), .val (.int p3), .val (.int p4), .val (.int (0 : Int32)), .val (.ref b2), .val (.int (0 : Int32)), .unset, .unset] [(.int (0 : Int32))]))) (fun t k => XS.iload X2.here hx rfl (hb hby at_56) rfl k) ?_
    refine OD.go (B := (T2.setTop (mkF m 59 #[.val (.int p0), .val (.int p1), .val (.int p2), .val (.int p3), .val (.int p4), .val (.int (0 : Int32)), .val (.ref b2), .val (.int (0 : Int32)), .unset, .unset] [(.int (2 : Int32)), (.int (0 : Int32))]))) (fun t k => XS.iconst X2.here hx rfl (hb hby at_58) k) ?_
    refine OD.go (B := (T2.setTop (mkF m 76 #[.val (.int p0), .val (.int p1), .val (.int p2), .val (.int p3), .val (.int p4), .val (.int (0 : Int32)), .val (.ref b2), .val (.int (0 : Int32)), .unset, .unset] []))) (fun t k => XS.icmpYes X2.here hx rfl (pc0 := 59) (pc' := 76) rfl (hb hby at_59) rfl (flt (by decide : ¬ (2 : Int32) < (0 : Int32))).2.2.2 (by decide) (by decide) k) ?_
    refine OD.go (B := (T2.setTop (mkF m 78 #[.val (.int p0), .val (.int p1), .val (.int p2), .val (.int p3), .val (.int p4), .val (.int (0 : Int32)), .val (.ref b2), .val (.int (0 : Int32)), .unset, .unset] [(.int (0 : Int32))]))) (fun t k => XS.iload X2.here hx rfl (hb hby at_76) rfl k) ?_
    refine OD.go (B := (T2.setTop (mkF m 79 #[.val (.int p0), .val (.int p1), .val (.int p2), .val (.int p3), .val (.int p4), .val (.int (0 : Int32)), .val (.ref b2), .val (.int (0 : Int32)), .unset, .unset] [(.int (3 : Int32)), (.int (0 : Int32))]))) (fun t k => XS.iconst X2.here hx rfl (hb hby at_78) k) ?_
    refine OD.go (B := (T2.setTop (mkF m 98 #[.val (.int p0), .val (.int p1), .val (.int p2), .val (.int p3), .val (.int p4), .val (.int (0 : Int32)), .val (.ref b2), .val (.int (0 : Int32)), .unset, .unset] []))) (fun t k => XS.icmpYes X2.here hx rfl (pc0 := 79) (pc' := 98) rfl (hb hby at_79) rfl (flt (by decide : ¬ (3 : Int32) < (0 : Int32))).2.2.2 (by decide) (by decide) k) ?_
    refine OD.go (B := (T2.setTop (mkF m 100 #[.val (.int p0), .val (.int p1), .val (.int p2), .val (.int p3), .val (.int p4), .val (.int (0 : Int32)), .val (.ref b2), .val (.int (0 : Int32)), .unset, .unset] [(.ref b2)]))) (fun t k => XS.aload X2.here hx rfl (hb hby at_98) rfl rfl k) ?_
    obtain ⟨_, _, ⟨T3, L3, k3, n3⟩, -, X3, ⟨Lc3, hQ3, l3, y3, z3⟩, st3⟩ := Jvm.LawKit.callS X2 hx (y := (⟨"com/example/querent/querent/ScoreScale", "highest", "([D)D"⟩ : MethodName)) hown (mvT hZ (Wd2 hw)) (mvT hZ (Wd3 hw)) (mvT hZ (Wd4 hw)) (mvT hZ (Wd5 hw)) (by decide) (backOf (W := 0) (rmH0 l Z a0 hw [] b2 h2 k2   V2) hZ (Wd5 hw) (Wd4 hw) (by decide) (by decide)) (g := (mkF m 100 #[.val (.int p0), .val (.int p1), .val (.int p2), .val (.int p3), .val (.int p4), .val (.int (0 : Int32)), .val (.ref b2), .val (.int (0 : Int32)), .unset, .unset] [(.ref b2)])) rfl (by rw [hml]; rfl) (argsL := [(.ref b2)]) (rest := []) (lenOf pd1 rfl) rfl (by show 2 * 0 + _ ≤ _; exact Nat.le_of_eq rfl) (hb hby at_100) (fun _ _ => ⟨rfl, e2, (Nat.le_of_ble_eq_true rfl), (Nat.le_of_ble_eq_true rfl)⟩)
    dsimp only [Pt.U, Pt.locs, Pt.cells, Pt.slots] at X3 l3 y3 z3 st3 hQ3
    subst l3 y3 z3
    obtain ⟨rfl, rfl, e3⟩ := hQ3
    have N3 := Fr.app N0 (Fr.nil _)
    refine OD.go (B := (T3.setTop (mkF m 103 #[.val (.int p0), .val (.int p1), .val (.int p2), .val (.int p3), .val (.int p4), .val (.int (0 : Int32)), .val (.ref b2), .val (.int (0 : Int32)), .unset, .unset] [(.double FP.dconst0)]))) st3 ?_
    refine OD.go (B := (T3.setTop (mkF m 105 #[.val (.int p0), .val (.int p1), .val (.int p2), .val (.int p3), .val (.int p4), .val (.int (0 : Int32)), .val (.ref b2), .val (.int (0 : Int32)), .val (.double FP.dconst0), .second] []))) (fun t k => XS.dstore X3.here hx rfl (hb hby at_103) rfl (l' := #[.val (.int p0), .val (.int p1), .val (.int p2), .val (.int p3), .val (.int p4), .val (.int (0 : Int32)), .val (.ref b2), .val (.int (0 : Int32)), .val (.double FP.dconst0), .second]) rfl k) ?_
    generalize hu103_4 : FP.dconst0 = u103_4
    refine OD.go (B := (T3.setTop (mkF m 107 #[.val (.int p0), .val (.int p1), .val (.int p2), .val (.int p3), .val (.int p4), .val (.int (0 : Int32)), .val (.ref b2), .val (.int (0 : Int32)), .val (.double u103_4), .second] [(.double u103_4)]))) (fun t k => XS.dload X3.here hx rfl (hb hby at_105) rfl k) ?_
    refine OD.go (B := (T3.setTop (mkF m 109 #[.val (.int p0), .val (.int p1), .val (.int p2), .val (.int p3), .val (.int p4), .val (.int (0 : Int32)), .val (.ref b2), .val (.int (0 : Int32)), .val (.double u103_4), .second] [(.int (0 : Int32)), (.double u103_4)]))) (fun t k => XS.iload X3.here hx rfl (hb hby at_107) rfl k) ?_
    refine OD.go (B := (T3.setTop (mkF m 110 #[.val (.int p0), .val (.int p1), .val (.int p2), .val (.int p3), .val (.int p4), .val (.int (0 : Int32)), .val (.ref b2), .val (.int (0 : Int32)), .val (.double u103_4), .second] [(.double (FP.i2d (0 : Int32))), (.double u103_4)]))) (fun t k => XS.i2dS X3.here hx rfl (hb hby at_109) rfl (v := (FP.i2d (0 : Int32))) rfl k) ?_
    refine OD.go (B := (T3.setTop (mkF m 111 #[.val (.int p0), .val (.int p1), .val (.int p2), .val (.int p3), .val (.int p4), .val (.int (0 : Int32)), .val (.ref b2), .val (.int (0 : Int32)), .val (.double u103_4), .second] [(.int (cmpValue (FP.dcmp u103_4 (FP.i2d (0 : Int32))) .l))]))) (fun t k => XS.dcmpS X3.here hx rfl (hb hby at_110) rfl (v := (cmpValue (FP.dcmp u103_4 (FP.i2d (0 : Int32))) .l)) rfl k) ?_
    obtain ⟨v119_5, hv119_5⟩ : ∃ z : Int32, z = (if (cmpValue (FP.dcmp u103_4 (FP.i2d (0 : Int32))) .l) = (0 : Int32) then (1 : Int32) else (0 : Int32)) := ⟨_, rfl⟩
    refine OD.cut (B := (T3.setTop (mkF m 119 #[.val (.int p0), .val (.int p1), .val (.int p2), .val (.int p3), .val (.int p4), .val (.int (0 : Int32)), .val (.ref b2), .val (.int (0 : Int32)), .val (.double u103_4), .second] [(.int v119_5)]))) (fun J119_6 => ?_) ?_
    · skip
      by_cases c111_7 : (cmpValue (FP.dcmp u103_4 (FP.i2d (0 : Int32))) .l) = (0 : Int32)
      · refine OD.go (B := (T3.setTop (mkF m 114 #[.val (.int p0), .val (.int p1), .val (.int p2), .val (.int p3), .val (.int p4), .val (.int (0 : Int32)), .val (.ref b2), .val (.int (0 : Int32)), .val (.double u103_4), .second] []))) (fun t k => XS.ifNo X3.here hx rfl (hb hby at_111) rfl (by rw [if0]; exact (teq c111_7).2) k) ?_
        refine OD.go (B := (T3.setTop (mkF m 115 #[.val (.int p0), .val (.int p1), .val (.int p2), .val (.int p3), .val (.int p4), .val (.int (0 : Int32)), .val (.ref b2), .val (.int (0 : Int32)), .val (.double u103_4), .second] [(.int (1 : Int32))]))) (fun t k => XS.iconst X3.here hx rfl (hb hby at_114) k) ?_
        refine OD.go (B := (T3.setTop (mkF m 119 #[.val (.int p0), .val (.int p1), .val (.int p2), .val (.int p3), .val (.int p4), .val (.int (0 : Int32)), .val (.ref b2), .val (.int (0 : Int32)), .val (.double u103_4), .second] [(.int (1 : Int32))]))) (fun t k => XS.goto X3.here hx rfl (pc0 := 115) (pc' := 119) rfl (hb hby at_115) (by decide) (by decide) k) ?_
        rw [if_pos c111_7] at hv119_5
        rw [hv119_5] at J119_6
        exact J119_6
      · refine OD.go (B := (T3.setTop (mkF m 118 #[.val (.int p0), .val (.int p1), .val (.int p2), .val (.int p3), .val (.int p4), .val (.int (0 : Int32)), .val (.ref b2), .val (.int (0 : Int32)), .val (.double u103_4), .second] []))) (fun t k => XS.ifYes X3.here hx rfl (pc0 := 111) (pc' := 118) rfl (hb hby at_111) rfl (by rw [if0]; exact (feq c111_7).2) (by decide) (by decide) k) ?_
        refine OD.go (B := (T3.setTop (mkF m 119 #[.val (.int p0), .val (.int p1), .val (.int p2), .val (.int p3), .val (.int p4), .val (.int (0 : Int32)), .val (.ref b2), .val (.int (0 : Int32)), .val (.double u103_4), .second] [(.int (0 : Int32))]))) (fun t k => XS.iconst X3.here hx rfl (hb hby at_118) k) ?_
        rw [if_neg c111_7] at hv119_5
        rw [hv119_5] at J119_6
        exact J119_6
    have fin : v119_5 = 1 := by
      rw [hv119_5, if_pos]
      subst hu103_4
      rw [own_d0]
      try simp only [own_pick]
      exact dcmpV_self (Fl.i2d_fin _).noNaN _
    rw [fin]
    exact OD.ret X3 hx hlk (t := .boolean) Bd.returns rfl (Or.inl ⟨rfl, Or.inr (Or.inl rfl), _, rfl⟩) (hb hby at_119) (Nat.le_of_ble_eq_true rfl) (Nat.le_of_ble_eq_true rfl) ⟨rfl, N3⟩
  · show OD _ _ _ _ _ _ _ (s₁.setTop (mkF m 8 #[.val (.int p0), .val (.int p1), .val (.int p2), .val (.int p3), .val (.int p4), .val (.int (1 : Int32)), .unset, .unset, .unset, .unset] []))
    refine OD.go (B := (s₁.setTop (mkF m 10 #[.val (.int p0), .val (.int p1), .val (.int p2), .val (.int p3), .val (.int p4), .val (.int (1 : Int32)), .unset, .unset, .unset, .unset] [(.int (1 : Int32))]))) (fun t k => XS.iload X0.here hx rfl (hb hby at_8) rfl k) ?_
    obtain ⟨T8, h8, k8, X8, e8, E8, A8, st8⟩ := newP X0 hx hZ (aty := .double) (Wd1 hw) e0 (g := (mkF m 10 #[.val (.int p0), .val (.int p1), .val (.int p2), .val (.int p3), .val (.int p4), .val (.int (1 : Int32)), .unset, .unset, .unset, .unset] [(.int (1 : Int32))])) rfl (hb hby at_10) rfl (by decide) (cap := 1) (by decide) (by decide) (Nat.le_of_ble_eq_true rfl) (Nat.le_of_ble_eq_true rfl)
    obtain ⟨b8, g8⟩ : ∃ z, z = h0.size := ⟨_, rfl⟩
    rw [← g8] at A8 st8
    have V8 : Arv Z h8 b8 k8 .double (1 : Int32) [(.double (0 : UInt64))] (.double (0 : UInt64)) := (Arv.new A8 (by decide)).pad (pad_rep [] (.double (0 : UInt64)) 1)
    refine OD.go (B := (T8.setTop (mkF m 12 #[.val (.int p0), .val (.int p1), .val (.int p2), .val (.int p3), .val (.int p4), .val (.int (1 : Int32)), .unset, .unset, .unset, .unset] [(.ref b8)]))) st8 ?_
    refine OD.go (B := (T8.setTop (mkF m 14 #[.val (.int p0), .val (.int p1), .val (.int p2), .val (.int p3), .val (.int p4), .val (.int (1 : Int32)), .val (.ref b8), .unset, .unset, .unset] []))) (fun t k => XS.astore X8.here hx rfl (hb hby at_12) rfl rfl (l' := #[.val (.int p0), .val (.int p1), .val (.int p2), .val (.int p3), .val (.int p4), .val (.int (1 : Int32)), .val (.ref b8), .unset, .unset, .unset]) rfl k) ?_
    refine OD.go (B := (T8.setTop (mkF m 15 #[.val (.int p0), .val (.int p1), .val (.int p2), .val (.int p3), .val (.int p4), .val (.int (1 : Int32)), .val (.ref b8), .unset, .unset, .unset] [(.int (0 : Int32))]))) (fun t k => XS.iconst X8.here hx rfl (hb hby at_14) k) ?_
    refine OD.go (B := (T8.setTop (mkF m 17 #[.val (.int p0), .val (.int p1), .val (.int p2), .val (.int p3), .val (.int p4), .val (.int (1 : Int32)), .val (.ref b8), .val (.int (0 : Int32)), .unset, .unset] []))) (fun t k => XS.istore X8.here hx rfl (hb hby at_15) rfl (l' := #[.val (.int p0), .val (.int p1), .val (.int p2), .val (.int p3), .val (.int p4), .val (.int (1 : Int32)), .val (.ref b8), .val (.int (0 : Int32)), .unset, .unset]) rfl k) ?_
    refine OD.go (B := (T8.setTop (mkF m 19 #[.val (.int p0), .val (.int p1), .val (.int p2), .val (.int p3), .val (.int p4), .val (.int (1 : Int32)), .val (.ref b8), .val (.int (0 : Int32)), .unset, .unset] [(.int (1 : Int32))]))) (fun t k => XS.iload X8.here hx rfl (hb hby at_17) rfl k) ?_
    refine OD.go (B := (T8.setTop (mkF m 22 #[.val (.int p0), .val (.int p1), .val (.int p2), .val (.int p3), .val (.int p4), .val (.int (1 : Int32)), .val (.ref b8), .val (.int (0 : Int32)), .unset, .unset] []))) (fun t k => XS.ifNo X8.here hx rfl (hb hby at_19) rfl (by rw [if0]; exact (tlt (by decide : (0 : Int32) < (1 : Int32))).2.2.2) k) ?_
    refine OD.go (B := (T8.setTop (mkF m 24 #[.val (.int p0), .val (.int p1), .val (.int p2), .val (.int p3), .val (.int p4), .val (.int (1 : Int32)), .val (.ref b8), .val (.int (0 : Int32)), .unset, .unset] [(.ref b8)]))) (fun t k => XS.aload X8.here hx rfl (hb hby at_22) rfl rfl k) ?_
    refine OD.go (B := (T8.setTop (mkF m 25 #[.val (.int p0), .val (.int p1), .val (.int p2), .val (.int p3), .val (.int p4), .val (.int (1 : Int32)), .val (.ref b8), .val (.int (0 : Int32)), .unset, .unset] [(.int (0 : Int32)), (.ref b8)]))) (fun t k => XS.iconst X8.here hx rfl (hb hby at_24) k) ?_
    refine OD.go (B := (T8.setTop (mkF m 26 #[.val (.int p0), .val (.int p1), .val (.int p2), .val (.int p3), .val (.int p4), .val (.int (1 : Int32)), .val (.ref b8), .val (.int (0 : Int32)), .unset, .unset] [(.int p1), (.int (0 : Int32)), (.ref b8)]))) (fun t k => XS.iloadN X8.here hx rfl (hb hby at_25) rfl k) ?_
    refine OD.go (B := (T8.setTop (mkF m 27 #[.val (.int p0), .val (.int p1), .val (.int p2), .val (.int p3), .val (.int p4), .val (.int (1 : Int32)), .val (.ref b8), .val (.int (0 : Int32)), .unset, .unset] [(.double (FP.i2d p1)), (.int (0 : Int32)), (.ref b8)]))) (fun t k => XS.i2dS X8.here hx rfl (hb hby at_26) rfl (v := (FP.i2d p1)) rfl k) ?_
    obtain ⟨cl9, Ar9, q9, S9, M9, H9, G9⟩ := id V8
    obtain ⟨T9, h9, X9, e9, W9, st9⟩ := stD X8 hx hZ e8 Ar9 (j := (0 : Int32)) (inb_of S9 ⟨by decide, by decide⟩) (g := (mkF m 27 #[.val (.int p0), .val (.int p1), .val (.int p2), .val (.int p3), .val (.int p4), .val (.int (1 : Int32)), .val (.ref b8), .val (.int (0 : Int32)), .unset, .unset] [(.double (FP.i2d p1)), (.int (0 : Int32)), (.ref b8)])) rfl rfl (hb hby at_27)
    have V9 : Arv Z h9 b8 k8 .double (1 : Int32) [(.double (FP.i2d p1))] (.double (0 : UInt64)) := Arv.set Ar9 q9 S9 M9 H9 G9 rfl W9 0 rfl (Nat.le_of_ble_eq_true rfl)
    have N9 := Fr.snoc X9 N0 (Nat.le_trans (Nat.le_refl _) (Nat.le_of_eq g8.symm))
    refine OD.go (B := (T9.setTop (mkF m 28 #[.val (.int p0), .val (.int p1), .val (.int p2), .val (.int p3), .val (.int p4), .val (.int (1 : Int32)), .val (.ref b8), .val (.int (0 : Int32)), .unset, .unset] []))) st9 ?_
    refine OD.go (B := (T9.setTop (mkF m 30 #[.val (.int p0), .val (.int p1), .val (.int p2), .val (.int p3), .val (.int p4), .val (.int (1 : Int32)), .val (.ref b8), .val (.int (0 : Int32)), .unset, .unset] [(.int (0 : Int32))]))) (fun t k => XS.iload X9.here hx rfl (hb hby at_28) rfl k) ?_
    refine OD.go (B := (T9.setTop (mkF m 31 #[.val (.int p0), .val (.int p1), .val (.int p2), .val (.int p3), .val (.int p4), .val (.int (1 : Int32)), .val (.ref b8), .val (.int (0 : Int32)), .unset, .unset] [(.int p1), (.int (0 : Int32))]))) (fun t k => XS.iloadN X9.here hx rfl (hb hby at_30) rfl k) ?_
    obtain ⟨_, _, ⟨T10, L10, k10, n10⟩, -, X10, ⟨Lc10, hQ10, l10, y10, z10⟩, st10⟩ := Jvm.LawKit.callS X9 hx (y := (⟨"java/lang/Math", "max", "(II)I"⟩ : MethodName)) hown (mvT hZ (Wd6 hw)) (mvT hZ (Wd7 hw)) (mvT hZ (Wd8 hw)) (mvT hZ (Wd9 hw)) (by decide) (backOf (W := 0) (rmI l Z a0 hw [] (0 : Int32) p1 h9) hZ (Wd9 hw) (Wd8 hw) (by decide) (by decide)) (g := (mkF m 31 #[.val (.int p0), .val (.int p1), .val (.int p2), .val (.int p3), .val (.int p4), .val (.int (1 : Int32)), .val (.ref b8), .val (.int (0 : Int32)), .unset, .unset] [(.int p1), (.int (0 : Int32))])) rfl (by rw [hml]; rfl) (argsL := [(.int (0 : Int32)), (.int p1)]) (rest := []) (lenOf pd2 rfl) rfl (by show 2 * 0 + _ ≤ _; exact Nat.le_of_eq rfl) (hb hby at_31) (fun _ _ => ⟨rfl, e9, (Nat.le_of_ble_eq_true rfl), (Nat.le_of_ble_eq_true rfl)⟩)
    dsimp only [Pt.U, Pt.locs, Pt.cells, Pt.slots] at X10 l10 y10 z10 st10 hQ10
    subst l10 y10 z10
    obtain ⟨rfl, rfl, e10⟩ := hQ10
    have N10 := Fr.app N9 (Fr.nil _)
    refine OD.go (B := (T10.setTop (mkF m 34 #[.val (.int p0), .val (.int p1), .val (.int p2), .val (.int p3), .val (.int p4), .val (.int (1 : Int32)), .val (.ref b8), .val (.int (0 : Int32)), .unset, .unset] [(.int (own_imax (0 : Int32) p1))]))) st10 ?_
    refine OD.go (B := (T10.setTop (mkF m 36 #[.val (.int p0), .val (.int p1), .val (.int p2), .val (.int p3), .val (.int p4), .val (.int (1 : Int32)), .val (.ref b8), .val (.int (own_imax (0 : Int32) p1)), .unset, .unset] []))) (fun t k => XS.istore X10.here hx rfl (hb hby at_34) rfl (l' := #[.val (.int p0), .val (.int p1), .val (.int p2), .val (.int p3), .val (.int p4), .val (.int (1 : Int32)), .val (.ref b8), .val (.int (own_imax (0 : Int32) p1)), .unset, .unset]) rfl k) ?_
    generalize hu34_11 : (own_imax (0 : Int32) p1) = u34_11
    refine OD.go (B := (T10.setTop (mkF m 38 #[.val (.int p0), .val (.int p1), .val (.int p2), .val (.int p3), .val (.int p4), .val (.int (1 : Int32)), .val (.ref b8), .val (.int u34_11), .unset, .unset] [(.int (1 : Int32))]))) (fun t k => XS.iload X10.here hx rfl (hb hby at_36) rfl k) ?_
    refine OD.go (B := (T10.setTop (mkF m 39 #[.val (.int p0), .val (.int p1), .val (.int p2), .val (.int p3), .val (.int p4), .val (.int (1 : Int32)), .val (.ref b8), .val (.int u34_11), .unset, .unset] [(.int (1 : Int32)), (.int (1 : Int32))]))) (fun t k => XS.iconst X10.here hx rfl (hb hby at_38) k) ?_
    refine OD.go (B := (T10.setTop (mkF m 56 #[.val (.int p0), .val (.int p1), .val (.int p2), .val (.int p3), .val (.int p4), .val (.int (1 : Int32)), .val (.ref b8), .val (.int u34_11), .unset, .unset] []))) (fun t k => XS.icmpYes X10.here hx rfl (pc0 := 39) (pc' := 56) rfl (hb hby at_39) rfl (flt (by decide : ¬ (1 : Int32) < (1 : Int32))).2.2.2 (by decide) (by decide) k) ?_
    refine OD.go (B := (T10.setTop (mkF m 58 #[.val (.int p0), .val (.int p1), .val (.int p2), .val (.int p3), .val (.int p4), .val (.int (1 : Int32)), .val (.ref b8), .val (.int u34_11), .unset, .unset] [(.int (1 : Int32))]))) (fun t k => XS.iload X10.here hx rfl (hb hby at_56) rfl k) ?_
    refine OD.go (B := (T10.setTop (mkF m 59 #[.val (.int p0), .val (.int p1), .val (.int p2), .val (.int p3), .val (.int p4), .val (.int (1 : Int32)), .val (.ref b8), .val (.int u34_11), .unset, .unset] [(.int (2 : Int32)), (.int (1 : Int32))]))) (fun t k => XS.iconst X10.here hx rfl (hb hby at_58) k) ?_
    refine OD.go (B := (T10.setTop (mkF m 76 #[.val (.int p0), .val (.int p1), .val (.int p2), .val (.int p3), .val (.int p4), .val (.int (1 : Int32)), .val (.ref b8), .val (.int u34_11), .unset, .unset] []))) (fun t k => XS.icmpYes X10.here hx rfl (pc0 := 59) (pc' := 76) rfl (hb hby at_59) rfl (flt (by decide : ¬ (2 : Int32) < (1 : Int32))).2.2.2 (by decide) (by decide) k) ?_
    refine OD.go (B := (T10.setTop (mkF m 78 #[.val (.int p0), .val (.int p1), .val (.int p2), .val (.int p3), .val (.int p4), .val (.int (1 : Int32)), .val (.ref b8), .val (.int u34_11), .unset, .unset] [(.int (1 : Int32))]))) (fun t k => XS.iload X10.here hx rfl (hb hby at_76) rfl k) ?_
    refine OD.go (B := (T10.setTop (mkF m 79 #[.val (.int p0), .val (.int p1), .val (.int p2), .val (.int p3), .val (.int p4), .val (.int (1 : Int32)), .val (.ref b8), .val (.int u34_11), .unset, .unset] [(.int (3 : Int32)), (.int (1 : Int32))]))) (fun t k => XS.iconst X10.here hx rfl (hb hby at_78) k) ?_
    refine OD.go (B := (T10.setTop (mkF m 98 #[.val (.int p0), .val (.int p1), .val (.int p2), .val (.int p3), .val (.int p4), .val (.int (1 : Int32)), .val (.ref b8), .val (.int u34_11), .unset, .unset] []))) (fun t k => XS.icmpYes X10.here hx rfl (pc0 := 79) (pc' := 98) rfl (hb hby at_79) rfl (flt (by decide : ¬ (3 : Int32) < (1 : Int32))).2.2.2 (by decide) (by decide) k) ?_
    refine OD.go (B := (T10.setTop (mkF m 100 #[.val (.int p0), .val (.int p1), .val (.int p2), .val (.int p3), .val (.int p4), .val (.int (1 : Int32)), .val (.ref b8), .val (.int u34_11), .unset, .unset] [(.ref b8)]))) (fun t k => XS.aload X10.here hx rfl (hb hby at_98) rfl rfl k) ?_
    obtain ⟨_, _, ⟨T12, L12, k12, n12⟩, -, X12, ⟨Lc12, hQ12, l12, y12, z12⟩, st12⟩ := Jvm.LawKit.callS X10 hx (y := (⟨"com/example/querent/querent/ScoreScale", "highest", "([D)D"⟩ : MethodName)) hown (mvT hZ (Wd2 hw)) (mvT hZ (Wd3 hw)) (mvT hZ (Wd4 hw)) (mvT hZ (Wd5 hw)) (by decide) (backOf (W := 0) (rmH1 l Z a0 hw [] b8 h9 k8 (FP.i2d p1) (Fl.i2d_fin _).noNaN V9) hZ (Wd5 hw) (Wd4 hw) (by decide) (by decide)) (g := (mkF m 100 #[.val (.int p0), .val (.int p1), .val (.int p2), .val (.int p3), .val (.int p4), .val (.int (1 : Int32)), .val (.ref b8), .val (.int u34_11), .unset, .unset] [(.ref b8)])) rfl (by rw [hml]; rfl) (argsL := [(.ref b8)]) (rest := []) (lenOf pd1 rfl) rfl (by show 2 * 0 + _ ≤ _; exact Nat.le_of_eq rfl) (hb hby at_100) (fun _ _ => ⟨rfl, e10, (Nat.le_of_ble_eq_true rfl), (Nat.le_of_ble_eq_true rfl)⟩)
    dsimp only [Pt.U, Pt.locs, Pt.cells, Pt.slots] at X12 l12 y12 z12 st12 hQ12
    subst l12 y12 z12
    obtain ⟨rfl, rfl, e12⟩ := hQ12
    have N12 := Fr.app N10 (Fr.nil _)
    refine OD.go (B := (T12.setTop (mkF m 103 #[.val (.int p0), .val (.int p1), .val (.int p2), .val (.int p3), .val (.int p4), .val (.int (1 : Int32)), .val (.ref b8), .val (.int u34_11), .unset, .unset] [(.double (Native.java_lang_Math.nans.pick64 true FP.dconst0 (FP.i2d p1)))]))) st12 ?_
    refine OD.go (B := (T12.setTop (mkF m 105 #[.val (.int p0), .val (.int p1), .val (.int p2), .val (.int p3), .val (.int p4), .val (.int (1 : Int32)), .val (.ref b8), .val (.int u34_11), .val (.double (Native.java_lang_Math.nans.pick64 true FP.dconst0 (FP.i2d p1))), .second] []))) (fun t k => XS.dstore X12.here hx rfl (hb hby at_103) rfl (l' := #[.val (.int p0), .val (.int p1), .val (.int p2), .val (.int p3), .val (.int p4), .val (.int (1 : Int32)), .val (.ref b8), .val (.int u34_11), .val (.double (Native.java_lang_Math.nans.pick64 true FP.dconst0 (FP.i2d p1))), .second]) rfl k) ?_
    generalize hu103_13 : (Native.java_lang_Math.nans.pick64 true FP.dconst0 (FP.i2d p1)) = u103_13
    refine OD.go (B := (T12.setTop (mkF m 107 #[.val (.int p0), .val (.int p1), .val (.int p2), .val (.int p3), .val (.int p4), .val (.int (1 : Int32)), .val (.ref b8), .val (.int u34_11), .val (.double u103_13), .second] [(.double u103_13)]))) (fun t k => XS.dload X12.here hx rfl (hb hby at_105) rfl k) ?_
    refine OD.go (B := (T12.setTop (mkF m 109 #[.val (.int p0), .val (.int p1), .val (.int p2), .val (.int p3), .val (.int p4), .val (.int (1 : Int32)), .val (.ref b8), .val (.int u34_11), .val (.double u103_13), .second] [(.int u34_11), (.double u103_13)]))) (fun t k => XS.iload X12.here hx rfl (hb hby at_107) rfl k) ?_
    refine OD.go (B := (T12.setTop (mkF m 110 #[.val (.int p0), .val (.int p1), .val (.int p2), .val (.int p3), .val (.int p4), .val (.int (1 : Int32)), .val (.ref b8), .val (.int u34_11), .val (.double u103_13), .second] [(.double (FP.i2d u34_11)), (.double u103_13)]))) (fun t k => XS.i2dS X12.here hx rfl (hb hby at_109) rfl (v := (FP.i2d u34_11)) rfl k) ?_
    refine OD.go (B := (T12.setTop (mkF m 111 #[.val (.int p0), .val (.int p1), .val (.int p2), .val (.int p3), .val (.int p4), .val (.int (1 : Int32)), .val (.ref b8), .val (.int u34_11), .val (.double u103_13), .second] [(.int (cmpValue (FP.dcmp u103_13 (FP.i2d u34_11)) .l))]))) (fun t k => XS.dcmpS X12.here hx rfl (hb hby at_110) rfl (v := (cmpValue (FP.dcmp u103_13 (FP.i2d u34_11)) .l)) rfl k) ?_
    obtain ⟨v119_14, hv119_14⟩ : ∃ z : Int32, z = (if (cmpValue (FP.dcmp u103_13 (FP.i2d u34_11)) .l) = (0 : Int32) then (1 : Int32) else (0 : Int32)) := ⟨_, rfl⟩
    refine OD.cut (B := (T12.setTop (mkF m 119 #[.val (.int p0), .val (.int p1), .val (.int p2), .val (.int p3), .val (.int p4), .val (.int (1 : Int32)), .val (.ref b8), .val (.int u34_11), .val (.double u103_13), .second] [(.int v119_14)]))) (fun J119_15 => ?_) ?_
    · skip
      by_cases c111_16 : (cmpValue (FP.dcmp u103_13 (FP.i2d u34_11)) .l) = (0 : Int32)
      · refine OD.go (B := (T12.setTop (mkF m 114 #[.val (.int p0), .val (.int p1), .val (.int p2), .val (.int p3), .val (.int p4), .val (.int (1 : Int32)), .val (.ref b8), .val (.int u34_11), .val (.double u103_13), .second] []))) (fun t k => XS.ifNo X12.here hx rfl (hb hby at_111) rfl (by rw [if0]; exact (teq c111_16).2) k) ?_
        refine OD.go (B := (T12.setTop (mkF m 115 #[.val (.int p0), .val (.int p1), .val (.int p2), .val (.int p3), .val (.int p4), .val (.int (1 : Int32)), .val (.ref b8), .val (.int u34_11), .val (.double u103_13), .second] [(.int (1 : Int32))]))) (fun t k => XS.iconst X12.here hx rfl (hb hby at_114) k) ?_
        refine OD.go (B := (T12.setTop (mkF m 119 #[.val (.int p0), .val (.int p1), .val (.int p2), .val (.int p3), .val (.int p4), .val (.int (1 : Int32)), .val (.ref b8), .val (.int u34_11), .val (.double u103_13), .second] [(.int (1 : Int32))]))) (fun t k => XS.goto X12.here hx rfl (pc0 := 115) (pc' := 119) rfl (hb hby at_115) (by decide) (by decide) k) ?_
        rw [if_pos c111_16] at hv119_14
        rw [hv119_14] at J119_15
        exact J119_15
      · refine OD.go (B := (T12.setTop (mkF m 118 #[.val (.int p0), .val (.int p1), .val (.int p2), .val (.int p3), .val (.int p4), .val (.int (1 : Int32)), .val (.ref b8), .val (.int u34_11), .val (.double u103_13), .second] []))) (fun t k => XS.ifYes X12.here hx rfl (pc0 := 111) (pc' := 118) rfl (hb hby at_111) rfl (by rw [if0]; exact (feq c111_16).2) (by decide) (by decide) k) ?_
        refine OD.go (B := (T12.setTop (mkF m 119 #[.val (.int p0), .val (.int p1), .val (.int p2), .val (.int p3), .val (.int p4), .val (.int (1 : Int32)), .val (.ref b8), .val (.int u34_11), .val (.double u103_13), .second] [(.int (0 : Int32))]))) (fun t k => XS.iconst X12.here hx rfl (hb hby at_118) k) ?_
        rw [if_neg c111_16] at hv119_14
        rw [hv119_14] at J119_15
        exact J119_15
    have fin : v119_14 = 1 := by
      rw [hv119_14, if_pos]
      subst hu34_11
      subst hu103_13
      rw [own_d0]
      try simp only [own_pick]
      exact dcmpV_self (Fl.i2d_fin _).noNaN _
    rw [fin]
    exact OD.ret X12 hx hlk (t := .boolean) Bd.returns rfl (Or.inl ⟨rfl, Or.inr (Or.inl rfl), _, rfl⟩) (hb hby at_119) (Nat.le_of_ble_eq_true rfl) (Nat.le_of_ble_eq_true rfl) ⟨rfl, N12⟩
  · show OD _ _ _ _ _ _ _ (s₁.setTop (mkF m 8 #[.val (.int p0), .val (.int p1), .val (.int p2), .val (.int p3), .val (.int p4), .val (.int (2 : Int32)), .unset, .unset, .unset, .unset] []))
    refine OD.go (B := (s₁.setTop (mkF m 10 #[.val (.int p0), .val (.int p1), .val (.int p2), .val (.int p3), .val (.int p4), .val (.int (2 : Int32)), .unset, .unset, .unset, .unset] [(.int (2 : Int32))]))) (fun t k => XS.iload X0.here hx rfl (hb hby at_8) rfl k) ?_
    obtain ⟨T17, h17, k17, X17, e17, E17, A17, st17⟩ := newP X0 hx hZ (aty := .double) (Wd1 hw) e0 (g := (mkF m 10 #[.val (.int p0), .val (.int p1), .val (.int p2), .val (.int p3), .val (.int p4), .val (.int (2 : Int32)), .unset, .unset, .unset, .unset] [(.int (2 : Int32))])) rfl (hb hby at_10) rfl (by decide) (cap := 2) (by decide) (by decide) (Nat.le_of_ble_eq_true rfl) (Nat.le_of_ble_eq_true rfl)
    obtain ⟨b17, g17⟩ : ∃ z, z = h0.size := ⟨_, rfl⟩
    rw [← g17] at A17 st17
    have V17 : Arv Z h17 b17 k17 .double (2 : Int32) [(.double (0 : UInt64)), (.double (0 : UInt64))] (.double (0 : UInt64)) := (Arv.new A17 (by decide)).pad (pad_rep [] (.double (0 : UInt64)) 2)
    refine OD.go (B := (T17.setTop (mkF m 12 #[.val (.int p0), .val (.int p1), .val (.int p2), .val (.int p3), .val (.int p4), .val (.int (2 : Int32)), .unset, .unset, .unset, .unset] [(.ref b17)]))) st17 ?_
    refine OD.go (B := (T17.setTop (mkF m 14 #[.val (.int p0), .val (.int p1), .val (.int p2), .val (.int p3), .val (.int p4), .val (.int (2 : Int32)), .val (.ref b17), .unset, .unset, .unset] []))) (fun t k => XS.astore X17.here hx rfl (hb hby at_12) rfl rfl (l' := #[.val (.int p0), .val (.int p1), .val (.int p2), .val (.int p3), .val (.int p4), .val (.int (2 : Int32)), .val (.ref b17), .unset, .unset, .unset]) rfl k) ?_
    refine OD.go (B := (T17.setTop (mkF m 15 #[.val (.int p0), .val (.int p1), .val (.int p2), .val (.int p3), .val (.int p4), .val (.int (2 : Int32)), .val (.ref b17), .unset, .unset, .unset] [(.int (0 : Int32))]))) (fun t k => XS.iconst X17.here hx rfl (hb hby at_14) k) ?_
    refine OD.go (B := (T17.setTop (mkF m 17 #[.val (.int p0), .val (.int p1), .val (.int p2), .val (.int p3), .val (.int p4), .val (.int (2 : Int32)), .val (.ref b17), .val (.int (0 : Int32)), .unset, .unset] []))) (fun t k => XS.istore X17.here hx rfl (hb hby at_15) rfl (l' := #[.val (.int p0), .val (.int p1), .val (.int p2), .val (.int p3), .val (.int p4), .val (.int (2 : Int32)), .val (.ref b17), .val (.int (0 : Int32)), .unset, .unset]) rfl k) ?_
    refine OD.go (B := (T17.setTop (mkF m 19 #[.val (.int p0), .val (.int p1), .val (.int p2), .val (.int p3), .val (.int p4), .val (.int (2 : Int32)), .val (.ref b17), .val (.int (0 : Int32)), .unset, .unset] [(.int (2 : Int32))]))) (fun t k => XS.iload X17.here hx rfl (hb hby at_17) rfl k) ?_
    refine OD.go (B := (T17.setTop (mkF m 22 #[.val (.int p0), .val (.int p1), .val (.int p2), .val (.int p3), .val (.int p4), .val (.int (2 : Int32)), .val (.ref b17), .val (.int (0 : Int32)), .unset, .unset] []))) (fun t k => XS.ifNo X17.here hx rfl (hb hby at_19) rfl (by rw [if0]; exact (tlt (by decide : (0 : Int32) < (2 : Int32))).2.2.2) k) ?_
    refine OD.go (B := (T17.setTop (mkF m 24 #[.val (.int p0), .val (.int p1), .val (.int p2), .val (.int p3), .val (.int p4), .val (.int (2 : Int32)), .val (.ref b17), .val (.int (0 : Int32)), .unset, .unset] [(.ref b17)]))) (fun t k => XS.aload X17.here hx rfl (hb hby at_22) rfl rfl k) ?_
    refine OD.go (B := (T17.setTop (mkF m 25 #[.val (.int p0), .val (.int p1), .val (.int p2), .val (.int p3), .val (.int p4), .val (.int (2 : Int32)), .val (.ref b17), .val (.int (0 : Int32)), .unset, .unset] [(.int (0 : Int32)), (.ref b17)]))) (fun t k => XS.iconst X17.here hx rfl (hb hby at_24) k) ?_
    refine OD.go (B := (T17.setTop (mkF m 26 #[.val (.int p0), .val (.int p1), .val (.int p2), .val (.int p3), .val (.int p4), .val (.int (2 : Int32)), .val (.ref b17), .val (.int (0 : Int32)), .unset, .unset] [(.int p1), (.int (0 : Int32)), (.ref b17)]))) (fun t k => XS.iloadN X17.here hx rfl (hb hby at_25) rfl k) ?_
    refine OD.go (B := (T17.setTop (mkF m 27 #[.val (.int p0), .val (.int p1), .val (.int p2), .val (.int p3), .val (.int p4), .val (.int (2 : Int32)), .val (.ref b17), .val (.int (0 : Int32)), .unset, .unset] [(.double (FP.i2d p1)), (.int (0 : Int32)), (.ref b17)]))) (fun t k => XS.i2dS X17.here hx rfl (hb hby at_26) rfl (v := (FP.i2d p1)) rfl k) ?_
    obtain ⟨cl18, Ar18, q18, S18, M18, H18, G18⟩ := id V17
    obtain ⟨T18, h18, X18, e18, W18, st18⟩ := stD X17 hx hZ e17 Ar18 (j := (0 : Int32)) (inb_of S18 ⟨by decide, by decide⟩) (g := (mkF m 27 #[.val (.int p0), .val (.int p1), .val (.int p2), .val (.int p3), .val (.int p4), .val (.int (2 : Int32)), .val (.ref b17), .val (.int (0 : Int32)), .unset, .unset] [(.double (FP.i2d p1)), (.int (0 : Int32)), (.ref b17)])) rfl rfl (hb hby at_27)
    have V18 : Arv Z h18 b17 k17 .double (2 : Int32) [(.double (FP.i2d p1)), (.double (0 : UInt64))] (.double (0 : UInt64)) := Arv.set Ar18 q18 S18 M18 H18 G18 rfl W18 0 rfl (Nat.le_of_ble_eq_true rfl)
    have N18 := Fr.snoc X18 N0 (Nat.le_trans (Nat.le_refl _) (Nat.le_of_eq g17.symm))
    refine OD.go (B := (T18.setTop (mkF m 28 #[.val (.int p0), .val (.int p1), .val (.int p2), .val (.int p3), .val (.int p4), .val (.int (2 : Int32)), .val (.ref b17), .val (.int (0 : Int32)), .unset, .unset] []))) st18 ?_
    refine OD.go (B := (T18.setTop (mkF m 30 #[.val (.int p0), .val (.int p1), .val (.int p2), .val (.int p3), .val (.int p4), .val (.int (2 : Int32)), .val (.ref b17), .val (.int (0 : Int32)), .unset, .unset] [(.int (0 : Int32))]))) (fun t k => XS.iload X18.here hx rfl (hb hby at_28) rfl k) ?_
    refine OD.go (B := (T18.setTop (mkF m 31 #[.val (.int p0), .val (.int p1), .val (.int p2), .val (.int p3), .val (.int p4), .val (.int (2 : Int32)), .val (.ref b17), .val (.int (0 : Int32)), .unset, .unset] [(.int p1), (.int (0 : Int32))]))) (fun t k => XS.iloadN X18.here hx rfl (hb hby at_30) rfl k) ?_
    obtain ⟨_, _, ⟨T19, L19, k19, n19⟩, -, X19, ⟨Lc19, hQ19, l19, y19, z19⟩, st19⟩ := Jvm.LawKit.callS X18 hx (y := (⟨"java/lang/Math", "max", "(II)I"⟩ : MethodName)) hown (mvT hZ (Wd6 hw)) (mvT hZ (Wd7 hw)) (mvT hZ (Wd8 hw)) (mvT hZ (Wd9 hw)) (by decide) (backOf (W := 0) (rmI l Z a0 hw [] (0 : Int32) p1 h18) hZ (Wd9 hw) (Wd8 hw) (by decide) (by decide)) (g := (mkF m 31 #[.val (.int p0), .val (.int p1), .val (.int p2), .val (.int p3), .val (.int p4), .val (.int (2 : Int32)), .val (.ref b17), .val (.int (0 : Int32)), .unset, .unset] [(.int p1), (.int (0 : Int32))])) rfl (by rw [hml]; rfl) (argsL := [(.int (0 : Int32)), (.int p1)]) (rest := []) (lenOf pd2 rfl) rfl (by show 2 * 0 + _ ≤ _; exact Nat.le_of_eq rfl) (hb hby at_31) (fun _ _ => ⟨rfl, e18, (Nat.le_of_ble_eq_true rfl), (Nat.le_of_ble_eq_true rfl)⟩)
    dsimp only [Pt.U, Pt.locs, Pt.cells, Pt.slots] at X19 l19 y19 z19 st19 hQ19
    subst l19 y19 z19
    obtain ⟨rfl, rfl, e19⟩ := hQ19
    have N19 := Fr.app N18 (Fr.nil _)
    refine OD.go (B := (T19.setTop (mkF m 34 #[.val (.int p0), .val (.int p1), .val (.int p2), .val (.int p3), .val (.int p4), .val (.int (2 : Int32)), .val (.ref b17), .val (.int (0 : Int32)), .unset, .unset] [(.int (own_imax (0 : Int32) p1))]))) st19 ?_
    refine OD.go (B := (T19.setTop (mkF m 36 #[.val (.int p0), .val (.int p1), .val (.int p2), .val (.int p3), .val (.int p4), .val (.int (2 : Int32)), .val (.ref b17), .val (.int (own_imax (0 : Int32) p1)), .unset, .unset] []))) (fun t k => XS.istore X19.here hx rfl (hb hby at_34) rfl (l' := #[.val (.int p0), .val (.int p1), .val (.int p2), .val (.int p3), .val (.int p4), .val (.int (2 : Int32)), .val (.ref b17), .val (.int (own_imax (0 : Int32) p1)), .unset, .unset]) rfl k) ?_
    generalize hu34_20 : (own_imax (0 : Int32) p1) = u34_20
    refine OD.go (B := (T19.setTop (mkF m 38 #[.val (.int p0), .val (.int p1), .val (.int p2), .val (.int p3), .val (.int p4), .val (.int (2 : Int32)), .val (.ref b17), .val (.int u34_20), .unset, .unset] [(.int (2 : Int32))]))) (fun t k => XS.iload X19.here hx rfl (hb hby at_36) rfl k) ?_
    refine OD.go (B := (T19.setTop (mkF m 39 #[.val (.int p0), .val (.int p1), .val (.int p2), .val (.int p3), .val (.int p4), .val (.int (2 : Int32)), .val (.ref b17), .val (.int u34_20), .unset, .unset] [(.int (1 : Int32)), (.int (2 : Int32))]))) (fun t k => XS.iconst X19.here hx rfl (hb hby at_38) k) ?_
    refine OD.go (B := (T19.setTop (mkF m 42 #[.val (.int p0), .val (.int p1), .val (.int p2), .val (.int p3), .val (.int p4), .val (.int (2 : Int32)), .val (.ref b17), .val (.int u34_20), .unset, .unset] []))) (fun t k => XS.icmpNo X19.here hx rfl (hb hby at_39) rfl (tlt (by decide : (1 : Int32) < (2 : Int32))).2.2.2 k) ?_
    refine OD.go (B := (T19.setTop (mkF m 44 #[.val (.int p0), .val (.int p1), .val (.int p2), .val (.int p3), .val (.int p4), .val (.int (2 : Int32)), .val (.ref b17), .val (.int u34_20), .unset, .unset] [(.ref b17)]))) (fun t k => XS.aload X19.here hx rfl (hb hby at_42) rfl rfl k) ?_
    refine OD.go (B := (T19.setTop (mkF m 45 #[.val (.int p0), .val (.int p1), .val (.int p2), .val (.int p3), .val (.int p4), .val (.int (2 : Int32)), .val (.ref b17), .val (.int u34_20), .unset, .unset] [(.int (1 : Int32)), (.ref b17)]))) (fun t k => XS.iconst X19.here hx rfl (hb hby at_44) k) ?_
    refine OD.go (B := (T19.setTop (mkF m 46 #[.val (.int p0), .val (.int p1), .val (.int p2), .val (.int p3), .val (.int p4), .val (.int (2 : Int32)), .val (.ref b17), .val (.int u34_20), .unset, .unset] [(.int p2), (.int (1 : Int32)), (.ref b17)]))) (fun t k => XS.iloadN X19.here hx rfl (hb hby at_45) rfl k) ?_
    refine OD.go (B := (T19.setTop (mkF m 47 #[.val (.int p0), .val (.int p1), .val (.int p2), .val (.int p3), .val (.int p4), .val (.int (2 : Int32)), .val (.ref b17), .val (.int u34_20), .unset, .unset] [(.double (FP.i2d p2)), (.int (1 : Int32)), (.ref b17)]))) (fun t k => XS.i2dS X19.here hx rfl (hb hby at_46) rfl (v := (FP.i2d p2)) rfl k) ?_
    obtain ⟨cl21, Ar21, q21, S21, M21, H21, G21⟩ := id V18
    obtain ⟨T21, h21, X21, e21, W21, st21⟩ := stD X19 hx hZ e19 Ar21 (j := (1 : Int32)) (inb_of S21 ⟨by decide, by decide⟩) (g := (mkF m 47 #[.val (.int p0), .val (.int p1), .val (.int p2), .val (.int p3), .val (.int p4), .val (.int (2 : Int32)), .val (.ref b17), .val (.int u34_20), .unset, .unset] [(.double (FP.i2d p2)), (.int (1 : Int32)), (.ref b17)])) rfl rfl (hb hby at_47)
    have V21 : Arv Z h21 b17 k17 .double (2 : Int32) [(.double (FP.i2d p1)), (.double (FP.i2d p2))] (.double (0 : UInt64)) := Arv.set Ar21 q21 S21 M21 H21 G21 rfl W21 1 rfl (Nat.le_of_ble_eq_true rfl)
    have N21 := Fr.snoc X21 N19 (Nat.le_trans (Nat.le_refl _) (Nat.le_of_eq g17.symm))
    refine OD.go (B := (T21.setTop (mkF m 48 #[.val (.int p0), .val (.int p1), .val (.int p2), .val (.int p3), .val (.int p4), .val (.int (2 : Int32)), .val (.ref b17), .val (.int u34_20), .unset, .unset] []))) st21 ?_
    refine OD.go (B := (T21.setTop (mkF m 50 #[.val (.int p0), .val (.int p1), .val (.int p2), .val (.int p3), .val (.int p4), .val (.int (2 : Int32)), .val (.ref b17), .val (.int u34_20), .unset, .unset] [(.int u34_20)]))) (fun t k => XS.iload X21.here hx rfl (hb hby at_48) rfl k) ?_
    refine OD.go (B := (T21.setTop (mkF m 51 #[.val (.int p0), .val (.int p1), .val (.int p2), .val (.int p3), .val (.int p4), .val (.int (2 : Int32)), .val (.ref b17), .val (.int u34_20), .unset, .unset] [(.int p2), (.int u34_20)]))) (fun t k => XS.iloadN X21.here hx rfl (hb hby at_50) rfl k) ?_
    obtain ⟨_, _, ⟨T22, L22, k22, n22⟩, -, X22, ⟨Lc22, hQ22, l22, y22, z22⟩, st22⟩ := Jvm.LawKit.callS X21 hx (y := (⟨"java/lang/Math", "max", "(II)I"⟩ : MethodName)) hown (mvT hZ (Wd6 hw)) (mvT hZ (Wd7 hw)) (mvT hZ (Wd8 hw)) (mvT hZ (Wd9 hw)) (by decide) (backOf (W := 0) (rmI l Z a0 hw [] u34_20 p2 h21) hZ (Wd9 hw) (Wd8 hw) (by decide) (by decide)) (g := (mkF m 51 #[.val (.int p0), .val (.int p1), .val (.int p2), .val (.int p3), .val (.int p4), .val (.int (2 : Int32)), .val (.ref b17), .val (.int u34_20), .unset, .unset] [(.int p2), (.int u34_20)])) rfl (by rw [hml]; rfl) (argsL := [(.int u34_20), (.int p2)]) (rest := []) (lenOf pd2 rfl) rfl (by show 2 * 0 + _ ≤ _; exact Nat.le_of_eq rfl) (hb hby at_51) (fun _ _ => ⟨rfl, e21, (Nat.le_of_ble_eq_true rfl), (Nat.le_of_ble_eq_true rfl)⟩)
    dsimp only [Pt.U, Pt.locs, Pt.cells, Pt.slots] at X22 l22 y22 z22 st22 hQ22
    subst l22 y22 z22
    obtain ⟨rfl, rfl, e22⟩ := hQ22
    have N22 := Fr.app N21 (Fr.nil _)
    refine OD.go (B := (T22.setTop (mkF m 54 #[.val (.int p0), .val (.int p1), .val (.int p2), .val (.int p3), .val (.int p4), .val (.int (2 : Int32)), .val (.ref b17), .val (.int u34_20), .unset, .unset] [(.int (own_imax u34_20 p2))]))) st22 ?_
    refine OD.go (B := (T22.setTop (mkF m 56 #[.val (.int p0), .val (.int p1), .val (.int p2), .val (.int p3), .val (.int p4), .val (.int (2 : Int32)), .val (.ref b17), .val (.int (own_imax u34_20 p2)), .unset, .unset] []))) (fun t k => XS.istore X22.here hx rfl (hb hby at_54) rfl (l' := #[.val (.int p0), .val (.int p1), .val (.int p2), .val (.int p3), .val (.int p4), .val (.int (2 : Int32)), .val (.ref b17), .val (.int (own_imax u34_20 p2)), .unset, .unset]) rfl k) ?_
    generalize hu54_23 : (own_imax u34_20 p2) = u54_23
    refine OD.go (B := (T22.setTop (mkF m 58 #[.val (.int p0), .val (.int p1), .val (.int p2), .val (.int p3), .val (.int p4), .val (.int (2 : Int32)), .val (.ref b17), .val (.int u54_23), .unset, .unset] [(.int (2 : Int32))]))) (fun t k => XS.iload X22.here hx rfl (hb hby at_56) rfl k) ?_
    refine OD.go (B := (T22.setTop (mkF m 59 #[.val (.int p0), .val (.int p1), .val (.int p2), .val (.int p3), .val (.int p4), .val (.int (2 : Int32)), .val (.ref b17), .val (.int u54_23), .unset, .unset] [(.int (2 : Int32)), (.int (2 : Int32))]))) (fun t k => XS.iconst X22.here hx rfl (hb hby at_58) k) ?_
    refine OD.go (B := (T22.setTop (mkF m 76 #[.val (.int p0), .val (.int p1), .val (.int p2), .val (.int p3), .val (.int p4), .val (.int (2 : Int32)), .val (.ref b17), .val (.int u54_23), .unset, .unset] []))) (fun t k => XS.icmpYes X22.here hx rfl (pc0 := 59) (pc' := 76) rfl (hb hby at_59) rfl (flt (by decide : ¬ (2 : Int32) < (2 : Int32))).2.2.2 (by decide) (by decide) k) ?_
    refine OD.go (B := (T22.setTop (mkF m 78 #[.val (.int p0), .val (.int p1), .val (.int p2), .val (.int p3), .val (.int p4), .val (.int (2 : Int32)), .val (.ref b17), .val (.int u54_23), .unset, .unset] [(.int (2 : Int32))]))) (fun t k => XS.iload X22.here hx rfl (hb hby at_76) rfl k) ?_
    refine OD.go (B := (T22.setTop (mkF m 79 #[.val (.int p0), .val (.int p1), .val (.int p2), .val (.int p3), .val (.int p4), .val (.int (2 : Int32)), .val (.ref b17), .val (.int u54_23), .unset, .unset] [(.int (3 : Int32)), (.int (2 : Int32))]))) (fun t k => XS.iconst X22.here hx rfl (hb hby at_78) k) ?_
    refine OD.go (B := (T22.setTop (mkF m 98 #[.val (.int p0), .val (.int p1), .val (.int p2), .val (.int p3), .val (.int p4), .val (.int (2 : Int32)), .val (.ref b17), .val (.int u54_23), .unset, .unset] []))) (fun t k => XS.icmpYes X22.here hx rfl (pc0 := 79) (pc' := 98) rfl (hb hby at_79) rfl (flt (by decide : ¬ (3 : Int32) < (2 : Int32))).2.2.2 (by decide) (by decide) k) ?_
    refine OD.go (B := (T22.setTop (mkF m 100 #[.val (.int p0), .val (.int p1), .val (.int p2), .val (.int p3), .val (.int p4), .val (.int (2 : Int32)), .val (.ref b17), .val (.int u54_23), .unset, .unset] [(.ref b17)]))) (fun t k => XS.aload X22.here hx rfl (hb hby at_98) rfl rfl k) ?_
    obtain ⟨_, _, ⟨T24, L24, k24, n24⟩, -, X24, ⟨Lc24, hQ24, l24, y24, z24⟩, st24⟩ := Jvm.LawKit.callS X22 hx (y := (⟨"com/example/querent/querent/ScoreScale", "highest", "([D)D"⟩ : MethodName)) hown (mvT hZ (Wd2 hw)) (mvT hZ (Wd3 hw)) (mvT hZ (Wd4 hw)) (mvT hZ (Wd5 hw)) (by decide) (backOf (W := 0) (rmH2 l Z a0 hw [] b17 h21 k17 (FP.i2d p1) (FP.i2d p2) (Fl.i2d_fin _).noNaN (Fl.i2d_fin _).noNaN V21) hZ (Wd5 hw) (Wd4 hw) (by decide) (by decide)) (g := (mkF m 100 #[.val (.int p0), .val (.int p1), .val (.int p2), .val (.int p3), .val (.int p4), .val (.int (2 : Int32)), .val (.ref b17), .val (.int u54_23), .unset, .unset] [(.ref b17)])) rfl (by rw [hml]; rfl) (argsL := [(.ref b17)]) (rest := []) (lenOf pd1 rfl) rfl (by show 2 * 0 + _ ≤ _; exact Nat.le_of_eq rfl) (hb hby at_100) (fun _ _ => ⟨rfl, e22, (Nat.le_of_ble_eq_true rfl), (Nat.le_of_ble_eq_true rfl)⟩)
    dsimp only [Pt.U, Pt.locs, Pt.cells, Pt.slots] at X24 l24 y24 z24 st24 hQ24
    subst l24 y24 z24
    obtain ⟨rfl, rfl, e24⟩ := hQ24
    have N24 := Fr.app N22 (Fr.nil _)
    refine OD.go (B := (T24.setTop (mkF m 103 #[.val (.int p0), .val (.int p1), .val (.int p2), .val (.int p3), .val (.int p4), .val (.int (2 : Int32)), .val (.ref b17), .val (.int u54_23), .unset, .unset] [(.double (Native.java_lang_Math.nans.pick64 true (Native.java_lang_Math.nans.pick64 true FP.dconst0 (FP.i2d p1)) (FP.i2d p2)))]))) st24 ?_
    refine OD.go (B := (T24.setTop (mkF m 105 #[.val (.int p0), .val (.int p1), .val (.int p2), .val (.int p3), .val (.int p4), .val (.int (2 : Int32)), .val (.ref b17), .val (.int u54_23), .val (.double (Native.java_lang_Math.nans.pick64 true (Native.java_lang_Math.nans.pick64 true FP.dconst0 (FP.i2d p1)) (FP.i2d p2))), .second] []))) (fun t k => XS.dstore X24.here hx rfl (hb hby at_103) rfl (l' := #[.val (.int p0), .val (.int p1), .val (.int p2), .val (.int p3), .val (.int p4), .val (.int (2 : Int32)), .val (.ref b17), .val (.int u54_23), .val (.double (Native.java_lang_Math.nans.pick64 true (Native.java_lang_Math.nans.pick64 true FP.dconst0 (FP.i2d p1)) (FP.i2d p2))), .second]) rfl k) ?_
    generalize hu103_25 : (Native.java_lang_Math.nans.pick64 true (Native.java_lang_Math.nans.pick64 true FP.dconst0 (FP.i2d p1)) (FP.i2d p2)) = u103_25
    refine OD.go (B := (T24.setTop (mkF m 107 #[.val (.int p0), .val (.int p1), .val (.int p2), .val (.int p3), .val (.int p4), .val (.int (2 : Int32)), .val (.ref b17), .val (.int u54_23), .val (.double u103_25), .second] [(.double u103_25)]))) (fun t k => XS.dload X24.here hx rfl (hb hby at_105) rfl k) ?_
    refine OD.go (B := (T24.setTop (mkF m 109 #[.val (.int p0), .val (.int p1), .val (.int p2), .val (.int p3), .val (.int p4), .val (.int (2 : Int32)), .val (.ref b17), .val (.int u54_23), .val (.double u103_25), .second] [(.int u54_23), (.double u103_25)]))) (fun t k => XS.iload X24.here hx rfl (hb hby at_107) rfl k) ?_
    refine OD.go (B := (T24.setTop (mkF m 110 #[.val (.int p0), .val (.int p1), .val (.int p2), .val (.int p3), .val (.int p4), .val (.int (2 : Int32)), .val (.ref b17), .val (.int u54_23), .val (.double u103_25), .second] [(.double (FP.i2d u54_23)), (.double u103_25)]))) (fun t k => XS.i2dS X24.here hx rfl (hb hby at_109) rfl (v := (FP.i2d u54_23)) rfl k) ?_
    refine OD.go (B := (T24.setTop (mkF m 111 #[.val (.int p0), .val (.int p1), .val (.int p2), .val (.int p3), .val (.int p4), .val (.int (2 : Int32)), .val (.ref b17), .val (.int u54_23), .val (.double u103_25), .second] [(.int (cmpValue (FP.dcmp u103_25 (FP.i2d u54_23)) .l))]))) (fun t k => XS.dcmpS X24.here hx rfl (hb hby at_110) rfl (v := (cmpValue (FP.dcmp u103_25 (FP.i2d u54_23)) .l)) rfl k) ?_
    obtain ⟨v119_26, hv119_26⟩ : ∃ z : Int32, z = (if (cmpValue (FP.dcmp u103_25 (FP.i2d u54_23)) .l) = (0 : Int32) then (1 : Int32) else (0 : Int32)) := ⟨_, rfl⟩
    refine OD.cut (B := (T24.setTop (mkF m 119 #[.val (.int p0), .val (.int p1), .val (.int p2), .val (.int p3), .val (.int p4), .val (.int (2 : Int32)), .val (.ref b17), .val (.int u54_23), .val (.double u103_25), .second] [(.int v119_26)]))) (fun J119_27 => ?_) ?_
    · skip
      by_cases c111_28 : (cmpValue (FP.dcmp u103_25 (FP.i2d u54_23)) .l) = (0 : Int32)
      · refine OD.go (B := (T24.setTop (mkF m 114 #[.val (.int p0), .val (.int p1), .val (.int p2), .val (.int p3), .val (.int p4), .val (.int (2 : Int32)), .val (.ref b17), .val (.int u54_23), .val (.double u103_25), .second] []))) (fun t k => XS.ifNo X24.here hx rfl (hb hby at_111) rfl (by rw [if0]; exact (teq c111_28).2) k) ?_
        refine OD.go (B := (T24.setTop (mkF m 115 #[.val (.int p0), .val (.int p1), .val (.int p2), .val (.int p3), .val (.int p4), .val (.int (2 : Int32)), .val (.ref b17), .val (.int u54_23), .val (.double u103_25), .second] [(.int (1 : Int32))]))) (fun t k => XS.iconst X24.here hx rfl (hb hby at_114) k) ?_
        refine OD.go (B := (T24.setTop (mkF m 119 #[.val (.int p0), .val (.int p1), .val (.int p2), .val (.int p3), .val (.int p4), .val (.int (2 : Int32)), .val (.ref b17), .val (.int u54_23), .val (.double u103_25), .second] [(.int (1 : Int32))]))) (fun t k => XS.goto X24.here hx rfl (pc0 := 115) (pc' := 119) rfl (hb hby at_115) (by decide) (by decide) k) ?_
        rw [if_pos c111_28] at hv119_26
        rw [hv119_26] at J119_27
        exact J119_27
      · refine OD.go (B := (T24.setTop (mkF m 118 #[.val (.int p0), .val (.int p1), .val (.int p2), .val (.int p3), .val (.int p4), .val (.int (2 : Int32)), .val (.ref b17), .val (.int u54_23), .val (.double u103_25), .second] []))) (fun t k => XS.ifYes X24.here hx rfl (pc0 := 111) (pc' := 118) rfl (hb hby at_111) rfl (by rw [if0]; exact (feq c111_28).2) (by decide) (by decide) k) ?_
        refine OD.go (B := (T24.setTop (mkF m 119 #[.val (.int p0), .val (.int p1), .val (.int p2), .val (.int p3), .val (.int p4), .val (.int (2 : Int32)), .val (.ref b17), .val (.int u54_23), .val (.double u103_25), .second] [(.int (0 : Int32))]))) (fun t k => XS.iconst X24.here hx rfl (hb hby at_118) k) ?_
        rw [if_neg c111_28] at hv119_26
        rw [hv119_26] at J119_27
        exact J119_27
    have fin : v119_26 = 1 := by
      rw [hv119_26, if_pos]
      subst hu34_20
      subst hu54_23
      subst hu103_25
      rw [own_d0]
      try simp only [own_pick]
      exact dcmpV_self (Fl.i2d_fin _).noNaN _
    rw [fin]
    exact OD.ret X24 hx hlk (t := .boolean) Bd.returns rfl (Or.inl ⟨rfl, Or.inr (Or.inl rfl), _, rfl⟩) (hb hby at_119) (Nat.le_of_ble_eq_true rfl) (Nat.le_of_ble_eq_true rfl) ⟨rfl, N24⟩
  · show OD _ _ _ _ _ _ _ (s₁.setTop (mkF m 8 #[.val (.int p0), .val (.int p1), .val (.int p2), .val (.int p3), .val (.int p4), .val (.int (3 : Int32)), .unset, .unset, .unset, .unset] []))
    refine OD.go (B := (s₁.setTop (mkF m 10 #[.val (.int p0), .val (.int p1), .val (.int p2), .val (.int p3), .val (.int p4), .val (.int (3 : Int32)), .unset, .unset, .unset, .unset] [(.int (3 : Int32))]))) (fun t k => XS.iload X0.here hx rfl (hb hby at_8) rfl k) ?_
    obtain ⟨T29, h29, k29, X29, e29, E29, A29, st29⟩ := newP X0 hx hZ (aty := .double) (Wd1 hw) e0 (g := (mkF m 10 #[.val (.int p0), .val (.int p1), .val (.int p2), .val (.int p3), .val (.int p4), .val (.int (3 : Int32)), .unset, .unset, .unset, .unset] [(.int (3 : Int32))])) rfl (hb hby at_10) rfl (by decide) (cap := 3) (by decide) (by decide) (Nat.le_of_ble_eq_true rfl) (Nat.le_of_ble_eq_true rfl)
    obtain ⟨b29, g29⟩ : ∃ z, z = h0.size := ⟨_, rfl⟩
    rw [← g29] at A29 st29
    have V29 : Arv Z h29 b29 k29 .double (3 : Int32) [(.double (0 : UInt64)), (.double (0 : UInt64)), (.double (0 : UInt64))] (.double (0 : UInt64)) := (Arv.new A29 (by decide)).pad (pad_rep [] (.double (0 : UInt64)) 3)
    refine OD.go (B := (T29.setTop (mkF m 12 #[.val (.int p0), .val (.int p1), .val (.int p2), .val (.int p3), .val (.int p4), .val (.int (3 : Int32)), .unset, .unset, .unset, .unset] [(.ref b29)]))) st29 ?_
    refine OD.go (B := (T29.setTop (mkF m 14 #[.val (.int p0), .val (.int p1), .val (.int p2), .val (.int p3), .val (.int p4), .val (.int (3 : Int32)), .val (.ref b29), .unset, .unset, .unset] []))) (fun t k => XS.astore X29.here hx rfl (hb hby at_12) rfl rfl (l' := #[.val (.int p0), .val (.int p1), .val (.int p2), .val (.int p3), .val (.int p4), .val (.int (3 : Int32)), .val (.ref b29), .unset, .unset, .unset]) rfl k) ?_
    refine OD.go (B := (T29.setTop (mkF m 15 #[.val (.int p0), .val (.int p1), .val (.int p2), .val (.int p3), .val (.int p4), .val (.int (3 : Int32)), .val (.ref b29), .unset, .unset, .unset] [(.int (0 : Int32))]))) (fun t k => XS.iconst X29.here hx rfl (hb hby at_14) k) ?_
    refine OD.go (B := (T29.setTop (mkF m 17 #[.val (.int p0), .val (.int p1), .val (.int p2), .val (.int p3), .val (.int p4), .val (.int (3 : Int32)), .val (.ref b29), .val (.int (0 : Int32)), .unset, .unset] []))) (fun t k => XS.istore X29.here hx rfl (hb hby at_15) rfl (l' := #[.val (.int p0), .val (.int p1), .val (.int p2), .val (.int p3), .val (.int p4), .val (.int (3 : Int32)), .val (.ref b29), .val (.int (0 : Int32)), .unset, .unset]) rfl k) ?_
    refine OD.go (B := (T29.setTop (mkF m 19 #[.val (.int p0), .val (.int p1), .val (.int p2), .val (.int p3), .val (.int p4), .val (.int (3 : Int32)), .val (.ref b29), .val (.int (0 : Int32)), .unset, .unset] [(.int (3 : Int32))]))) (fun t k => XS.iload X29.here hx rfl (hb hby at_17) rfl k) ?_
    refine OD.go (B := (T29.setTop (mkF m 22 #[.val (.int p0), .val (.int p1), .val (.int p2), .val (.int p3), .val (.int p4), .val (.int (3 : Int32)), .val (.ref b29), .val (.int (0 : Int32)), .unset, .unset] []))) (fun t k => XS.ifNo X29.here hx rfl (hb hby at_19) rfl (by rw [if0]; exact (tlt (by decide : (0 : Int32) < (3 : Int32))).2.2.2) k) ?_
    refine OD.go (B := (T29.setTop (mkF m 24 #[.val (.int p0), .val (.int p1), .val (.int p2), .val (.int p3), .val (.int p4), .val (.int (3 : Int32)), .val (.ref b29), .val (.int (0 : Int32)), .unset, .unset] [(.ref b29)]))) (fun t k => XS.aload X29.here hx rfl (hb hby at_22) rfl rfl k) ?_
    refine OD.go (B := (T29.setTop (mkF m 25 #[.val (.int p0), .val (.int p1), .val (.int p2), .val (.int p3), .val (.int p4), .val (.int (3 : Int32)), .val (.ref b29), .val (.int (0 : Int32)), .unset, .unset] [(.int (0 : Int32)), (.ref b29)]))) (fun t k => XS.iconst X29.here hx rfl (hb hby at_24) k) ?_
    refine OD.go (B := (T29.setTop (mkF m 26 #[.val (.int p0), .val (.int p1), .val (.int p2), .val (.int p3), .val (.int p4), .val (.int (3 : Int32)), .val (.ref b29), .val (.int (0 : Int32)), .unset, .unset] [(.int p1), (.int (0 : Int32)), (.ref b29)]))) (fun t k => XS.iloadN X29.here hx rfl (hb hby at_25) rfl k) ?_
    refine OD.go (B := (T29.setTop (mkF m 27 #[.val (.int p0), .val (.int p1), .val (.int p2), .val (.int p3), .val (.int p4), .val (.int (3 : Int32)), .val (.ref b29), .val (.int (0 : Int32)), .unset, .unset] [(.double (FP.i2d p1)), (.int (0 : Int32)), (.ref b29)]))) (fun t k => XS.i2dS X29.here hx rfl (hb hby at_26) rfl (v := (FP.i2d p1)) rfl k) ?_
    obtain ⟨cl30, Ar30, q30, S30, M30, H30, G30⟩ := id V29
    obtain ⟨T30, h30, X30, e30, W30, st30⟩ := stD X29 hx hZ e29 Ar30 (j := (0 : Int32)) (inb_of S30 ⟨by decide, by decide⟩) (g := (mkF m 27 #[.val (.int p0), .val (.int p1), .val (.int p2), .val (.int p3), .val (.int p4), .val (.int (3 : Int32)), .val (.ref b29), .val (.int (0 : Int32)), .unset, .unset] [(.double (FP.i2d p1)), (.int (0 : Int32)), (.ref b29)])) rfl rfl (hb hby at_27)
    have V30 : Arv Z h30 b29 k29 .double (3 : Int32) [(.double (FP.i2d p1)), (.double (0 : UInt64)), (.double (0 : UInt64))] (.double (0 : UInt64)) := Arv.set Ar30 q30 S30 M30 H30 G30 rfl W30 0 rfl (Nat.le_of_ble_eq_true rfl)
    have N30 := Fr.snoc X30 N0 (Nat.le_trans (Nat.le_refl _) (Nat.le_of_eq g29.symm))
    refine OD.go (B := (T30.setTop (mkF m 28 #[.val (.int p0), .val (.int p1), .val (.int p2), .val (.int p3), .val (.int p4), .val (.int (3 : Int32)), .val (.ref b29), .val (.int (0 : Int32)), .unset, .unset] []))) st30 ?_
    refine OD.go (B := (T30.setTop (mkF m 30 #[.val (.int p0), .val (.int p1), .val (.int p2), .val (.int p3), .val (.int p4), .val (.int (3 : Int32)), .val (.ref b29), .val (.int (0 : Int32)), .unset, .unset] [(.int (0 : Int32))]))) (fun t k => XS.iload X30.here hx rfl (hb hby at_28) rfl k) ?_
    refine OD.go (B := (T30.setTop (mkF m 31 #[.val (.int p0), .val (.int p1), .val (.int p2), .val (.int p3), .val (.int p4), .val (.int (3 : Int32)), .val (.ref b29), .val (.int (0 : Int32)), .unset, .unset] [(.int p1), (.int (0 : Int32))]))) (fun t k => XS.iloadN X30.here hx rfl (hb hby at_30) rfl k) ?_
    obtain ⟨_, _, ⟨T31, L31, k31, n31⟩, -, X31, ⟨Lc31, hQ31, l31, y31, z31⟩, st31⟩ := Jvm.LawKit.callS X30 hx (y := (⟨"java/lang/Math", "max", "(II)I"⟩ : MethodName)) hown (mvT hZ (Wd6 hw)) (mvT hZ (Wd7 hw)) (mvT hZ (Wd8 hw)) (mvT hZ (Wd9 hw)) (by decide) (backOf (W := 0) (rmI l Z a0 hw [] (0 : Int32) p1 h30) hZ (Wd9 hw) (Wd8 hw) (by decide) (by decide)) (g := (mkF m 31 #[.val (.int p0), .val (.int p1), .val (.int p2), .val (.int p3), .val (.int p4), .val (.int (3 : Int32)), .val (.ref b29), .val (.int (0 : Int32)), .unset, .unset] [(.int p1), (.int (0 : Int32))])) rfl (by rw [hml]; rfl) (argsL := [(.int (0 : Int32)), (.int p1)]) (rest := []) (lenOf pd2 rfl) rfl (by show 2 * 0 + _ ≤ _; exact Nat.le_of_eq rfl) (hb hby at_31) (fun _ _ => ⟨rfl, e30, (Nat.le_of_ble_eq_true rfl), (Nat.le_of_ble_eq_true rfl)⟩)
    dsimp only [Pt.U, Pt.locs, Pt.cells, Pt.slots] at X31 l31 y31 z31 st31 hQ31
    subst l31 y31 z31
    obtain ⟨rfl, rfl, e31⟩ := hQ31
    have N31 := Fr.app N30 (Fr.nil _)
    refine OD.go (B := (T31.setTop (mkF m 34 #[.val (.int p0), .val (.int p1), .val (.int p2), .val (.int p3), .val (.int p4), .val (.int (3 : Int32)), .val (.ref b29), .val (.int (0 : Int32)), .unset, .unset] [(.int (own_imax (0 : Int32) p1))]))) st31 ?_
    refine OD.go (B := (T31.setTop (mkF m 36 #[.val (.int p0), .val (.int p1), .val (.int p2), .val (.int p3), .val (.int p4), .val (.int (3 : Int32)), .val (.ref b29), .val (.int (own_imax (0 : Int32) p1)), .unset, .unset] []))) (fun t k => XS.istore X31.here hx rfl (hb hby at_34) rfl (l' := #[.val (.int p0), .val (.int p1), .val (.int p2), .val (.int p3), .val (.int p4), .val (.int (3 : Int32)), .val (.ref b29), .val (.int (own_imax (0 : Int32) p1)), .unset, .unset]) rfl k) ?_
    generalize hu34_32 : (own_imax (0 : Int32) p1) = u34_32
    refine OD.go (B := (T31.setTop (mkF m 38 #[.val (.int p0), .val (.int p1), .val (.int p2), .val (.int p3), .val (.int p4), .val (.int (3 : Int32)), .val (.ref b29), .val (.int u34_32), .unset, .unset] [(.int (3 : Int32))]))) (fun t k => XS.iload X31.here hx rfl (hb hby at_36) rfl k) ?_
    refine OD.go (B := (T31.setTop (mkF m 39 #[.val (.int p0), .val (.int p1), .val (.int p2), .val (.int p3), .val (.int p4), .val (.int (3 : Int32)), .val (.ref b29), .val (.int u34_32), .unset, .unset] [(.int (1 : Int32)), (.int (3 : Int32))]))) (fun t k => XS.iconst X31.here hx rfl (hb hby at_38) k) ?_
    refine OD.go (B := (T31.setTop (mkF m 42 #[.val (.int p0), .val (.int p1), .val (.int p2), .val (.int p3), .val (.int p4), .val (.int (3 : Int32)), .val (.ref b29), .val (.int u34_32), .unset, .unset] []))) (fun t k => XS.icmpNo X31.here hx rfl (hb hby at_39) rfl (tlt (by decide : (1 : Int32) < (3 : Int32))).2.2.2 k) ?_
    refine OD.go (B := (T31.setTop (mkF m 44 #[.val (.int p0), .val (.int p1), .val (.int p2), .val (.int p3), .val (.int p4), .val (.int (3 : Int32)), .val (.ref b29), .val (.int u34_32), .unset, .unset] [(.ref b29)]))) (fun t k => XS.aload X31.here hx rfl (hb hby at_42) rfl rfl k) ?_
    refine OD.go (B := (T31.setTop (mkF m 45 #[.val (.int p0), .val (.int p1), .val (.int p2), .val (.int p3), .val (.int p4), .val (.int (3 : Int32)), .val (.ref b29), .val (.int u34_32), .unset, .unset] [(.int (1 : Int32)), (.ref b29)]))) (fun t k => XS.iconst X31.here hx rfl (hb hby at_44) k) ?_
    refine OD.go (B := (T31.setTop (mkF m 46 #[.val (.int p0), .val (.int p1), .val (.int p2), .val (.int p3), .val (.int p4), .val (.int (3 : Int32)), .val (.ref b29), .val (.int u34_32), .unset, .unset] [(.int p2), (.int (1 : Int32)), (.ref b29)]))) (fun t k => XS.iloadN X31.here hx rfl (hb hby at_45) rfl k) ?_
    refine OD.go (B := (T31.setTop (mkF m 47 #[.val (.int p0), .val (.int p1), .val (.int p2), .val (.int p3), .val (.int p4), .val (.int (3 : Int32)), .val (.ref b29), .val (.int u34_32), .unset, .unset] [(.double (FP.i2d p2)), (.int (1 : Int32)), (.ref b29)]))) (fun t k => XS.i2dS X31.here hx rfl (hb hby at_46) rfl (v := (FP.i2d p2)) rfl k) ?_
    obtain ⟨cl33, Ar33, q33, S33, M33, H33, G33⟩ := id V30
    obtain ⟨T33, h33, X33, e33, W33, st33⟩ := stD X31 hx hZ e31 Ar33 (j := (1 : Int32)) (inb_of S33 ⟨by decide, by decide⟩) (g := (mkF m 47 #[.val (.int p0), .val (.int p1), .val (.int p2), .val (.int p3), .val (.int p4), .val (.int (3 : Int32)), .val (.ref b29), .val (.int u34_32), .unset, .unset] [(.double (FP.i2d p2)), (.int (1 : Int32)), (.ref b29)])) rfl rfl (hb hby at_47)
    have V33 : Arv Z h33 b29 k29 .double (3 : Int32) [(.double (FP.i2d p1)), (.double (FP.i2d p2)), (.double (0 : UInt64))] (.double (0 : UInt64)) := Arv.set Ar33 q33 S33 M33 H33 G33 rfl W33 1 rfl (Nat.le_of_ble_eq_true rfl)
    have N33 := Fr.snoc X33 N31 (Nat.le_trans (Nat.le_refl _) (Nat.le_of_eq g29.symm))
    refine OD.go (B := (T33.setTop (mkF m 48 #[.val (.int p0), .val (.int p1), .val (.int p2), .val (.int p3), .val (.int p4), .val (.int (3 : Int32)), .val (.ref b29), .val (.int u34_32), .unset, .unset] []))) st33 ?_
    refine OD.go (B := (T33.setTop (mkF m 50 #[.val (.int p0), .val (.int p1), .val (.int p2), .val (.int p3), .val (.int p4), .val (.int (3 : Int32)), .val (.ref b29), .val (.int u34_32), .unset, .unset] [(.int u34_32)]))) (fun t k => XS.iload X33.here hx rfl (hb hby at_48) rfl k) ?_
    refine OD.go (B := (T33.setTop (mkF m 51 #[.val (.int p0), .val (.int p1), .val (.int p2), .val (.int p3), .val (.int p4), .val (.int (3 : Int32)), .val (.ref b29), .val (.int u34_32), .unset, .unset] [(.int p2), (.int u34_32)]))) (fun t k => XS.iloadN X33.here hx rfl (hb hby at_50) rfl k) ?_
    obtain ⟨_, _, ⟨T34, L34, k34, n34⟩, -, X34, ⟨Lc34, hQ34, l34, y34, z34⟩, st34⟩ := Jvm.LawKit.callS X33 hx (y := (⟨"java/lang/Math", "max", "(II)I"⟩ : MethodName)) hown (mvT hZ (Wd6 hw)) (mvT hZ (Wd7 hw)) (mvT hZ (Wd8 hw)) (mvT hZ (Wd9 hw)) (by decide) (backOf (W := 0) (rmI l Z a0 hw [] u34_32 p2 h33) hZ (Wd9 hw) (Wd8 hw) (by decide) (by decide)) (g := (mkF m 51 #[.val (.int p0), .val (.int p1), .val (.int p2), .val (.int p3), .val (.int p4), .val (.int (3 : Int32)), .val (.ref b29), .val (.int u34_32), .unset, .unset] [(.int p2), (.int u34_32)])) rfl (by rw [hml]; rfl) (argsL := [(.int u34_32), (.int p2)]) (rest := []) (lenOf pd2 rfl) rfl (by show 2 * 0 + _ ≤ _; exact Nat.le_of_eq rfl) (hb hby at_51) (fun _ _ => ⟨rfl, e33, (Nat.le_of_ble_eq_true rfl), (Nat.le_of_ble_eq_true rfl)⟩)
    dsimp only [Pt.U, Pt.locs, Pt.cells, Pt.slots] at X34 l34 y34 z34 st34 hQ34
    subst l34 y34 z34
    obtain ⟨rfl, rfl, e34⟩ := hQ34
    have N34 := Fr.app N33 (Fr.nil _)
    refine OD.go (B := (T34.setTop (mkF m 54 #[.val (.int p0), .val (.int p1), .val (.int p2), .val (.int p3), .val (.int p4), .val (.int (3 : Int32)), .val (.ref b29), .val (.int u34_32), .unset, .unset] [(.int (own_imax u34_32 p2))]))) st34 ?_
    refine OD.go (B := (T34.setTop (mkF m 56 #[.val (.int p0), .val (.int p1), .val (.int p2), .val (.int p3), .val (.int p4), .val (.int (3 : Int32)), .val (.ref b29), .val (.int (own_imax u34_32 p2)), .unset, .unset] []))) (fun t k => XS.istore X34.here hx rfl (hb hby at_54) rfl (l' := #[.val (.int p0), .val (.int p1), .val (.int p2), .val (.int p3), .val (.int p4), .val (.int (3 : Int32)), .val (.ref b29), .val (.int (own_imax u34_32 p2)), .unset, .unset]) rfl k) ?_
    generalize hu54_35 : (own_imax u34_32 p2) = u54_35
    refine OD.go (B := (T34.setTop (mkF m 58 #[.val (.int p0), .val (.int p1), .val (.int p2), .val (.int p3), .val (.int p4), .val (.int (3 : Int32)), .val (.ref b29), .val (.int u54_35), .unset, .unset] [(.int (3 : Int32))]))) (fun t k => XS.iload X34.here hx rfl (hb hby at_56) rfl k) ?_
    refine OD.go (B := (T34.setTop (mkF m 59 #[.val (.int p0), .val (.int p1), .val (.int p2), .val (.int p3), .val (.int p4), .val (.int (3 : Int32)), .val (.ref b29), .val (.int u54_35), .unset, .unset] [(.int (2 : Int32)), (.int (3 : Int32))]))) (fun t k => XS.iconst X34.here hx rfl (hb hby at_58) k) ?_
    refine OD.go (B := (T34.setTop (mkF m 62 #[.val (.int p0), .val (.int p1), .val (.int p2), .val (.int p3), .val (.int p4), .val (.int (3 : Int32)), .val (.ref b29), .val (.int u54_35), .unset, .unset] []))) (fun t k => XS.icmpNo X34.here hx rfl (hb hby at_59) rfl (tlt (by decide : (2 : Int32) < (3 : Int32))).2.2.2 k) ?_
    refine OD.go (B := (T34.setTop (mkF m 64 #[.val (.int p0), .val (.int p1), .val (.int p2), .val (.int p3), .val (.int p4), .val (.int (3 : Int32)), .val (.ref b29), .val (.int u54_35), .unset, .unset] [(.ref b29)]))) (fun t k => XS.aload X34.here hx rfl (hb hby at_62) rfl rfl k) ?_
    refine OD.go (B := (T34.setTop (mkF m 65 #[.val (.int p0), .val (.int p1), .val (.int p2), .val (.int p3), .val (.int p4), .val (.int (3 : Int32)), .val (.ref b29), .val (.int u54_35), .unset, .unset] [(.int (2 : Int32)), (.ref b29)]))) (fun t k => XS.iconst X34.here hx rfl (hb hby at_64) k) ?_
    refine OD.go (B := (T34.setTop (mkF m 66 #[.val (.int p0), .val (.int p1), .val (.int p2), .val (.int p3), .val (.int p4), .val (.int (3 : Int32)), .val (.ref b29), .val (.int u54_35), .unset, .unset] [(.int p3), (.int (2 : Int32)), (.ref b29)]))) (fun t k => XS.iloadN X34.here hx rfl (hb hby at_65) rfl k) ?_
    refine OD.go (B := (T34.setTop (mkF m 67 #[.val (.int p0), .val (.int p1), .val (.int p2), .val (.int p3), .val (.int p4), .val (.int (3 : Int32)), .val (.ref b29), .val (.int u54_35), .unset, .unset] [(.double (FP.i2d p3)), (.int (2 : Int32)), (.ref b29)]))) (fun t k => XS.i2dS X34.here hx rfl (hb hby at_66) rfl (v := (FP.i2d p3)) rfl k) ?_
    obtain ⟨cl36, Ar36, q36, S36, M36, H36, G36⟩ := id V33
    obtain ⟨T36, h36, X36, e36, W36, st36⟩ := stD X34 hx hZ e34 Ar36 (j := (2 : Int32)) (inb_of S36 ⟨by decide, by decide⟩) (g := (mkF m 67 #[.val (.int p0), .val (.int p1), .val (.int p2), .val (.int p3), .val (.int p4), .val (.int (3 : Int32)), .val (.ref b29), .val (.int u54_35), .unset, .unset] [(.double (FP.i2d p3)), (.int (2 : Int32)), (.ref b29)])) rfl rfl (hb hby at_67)
    have V36 : Arv Z h36 b29 k29 .double (3 : Int32) [(.double (FP.i2d p1)), (.double (FP.i2d p2)), (.double (FP.i2d p3))] (.double (0 : UInt64)) := Arv.set Ar36 q36 S36 M36 H36 G36 rfl W36 2 rfl (Nat.le_of_ble_eq_true rfl)
    have N36 := Fr.snoc X36 N34 (Nat.le_trans (Nat.le_refl _) (Nat.le_of_eq g29.symm))
    refine OD.go (B := (T36.setTop (mkF m 68 #[.val (.int p0), .val (.int p1), .val (.int p2), .val (.int p3), .val (.int p4), .val (.int (3 : Int32)), .val (.ref b29), .val (.int u54_35), .unset, .unset] []))) st36 ?_
    refine OD.go (B := (T36.setTop (mkF m 70 #[.val (.int p0), .val (.int p1), .val (.int p2), .val (.int p3), .val (.int p4), .val (.int (3 : Int32)), .val (.ref b29), .val (.int u54_35), .unset, .unset] [(.int u54_35)]))) (fun t k => XS.iload X36.here hx rfl (hb hby at_68) rfl k) ?_
    refine OD.go (B := (T36.setTop (mkF m 71 #[.val (.int p0), .val (.int p1), .val (.int p2), .val (.int p3), .val (.int p4), .val (.int (3 : Int32)), .val (.ref b29), .val (.int u54_35), .unset, .unset] [(.int p3), (.int u54_35)]))) (fun t k => XS.iloadN X36.here hx rfl (hb hby at_70) rfl k) ?_
    obtain ⟨_, _, ⟨T37, L37, k37, n37⟩, -, X37, ⟨Lc37, hQ37, l37, y37, z37⟩, st37⟩ := Jvm.LawKit.callS X36 hx (y := (⟨"java/lang/Math", "max", "(II)I"⟩ : MethodName)) hown (mvT hZ (Wd6 hw)) (mvT hZ (Wd7 hw)) (mvT hZ (Wd8 hw)) (mvT hZ (Wd9 hw)) (by decide) (backOf (W := 0) (rmI l Z a0 hw [] u54_35 p3 h36) hZ (Wd9 hw) (Wd8 hw) (by decide) (by decide)) (g := (mkF m 71 #[.val (.int p0), .val (.int p1), .val (.int p2), .val (.int p3), .val (.int p4), .val (.int (3 : Int32)), .val (.ref b29), .val (.int u54_35), .unset, .unset] [(.int p3), (.int u54_35)])) rfl (by rw [hml]; rfl) (argsL := [(.int u54_35), (.int p3)]) (rest := []) (lenOf pd2 rfl) rfl (by show 2 * 0 + _ ≤ _; exact Nat.le_of_eq rfl) (hb hby at_71) (fun _ _ => ⟨rfl, e36, (Nat.le_of_ble_eq_true rfl), (Nat.le_of_ble_eq_true rfl)⟩)
    dsimp only [Pt.U, Pt.locs, Pt.cells, Pt.slots] at X37 l37 y37 z37 st37 hQ37
    subst l37 y37 z37
    obtain ⟨rfl, rfl, e37⟩ := hQ37
    have N37 := Fr.app N36 (Fr.nil _)
    refine OD.go (B := (T37.setTop (mkF m 74 #[.val (.int p0), .val (.int p1), .val (.int p2), .val (.int p3), .val (.int p4), .val (.int (3 : Int32)), .val (.ref b29), .val (.int u54_35), .unset, .unset] [(.int (own_imax u54_35 p3))]))) st37 ?_
    refine OD.go (B := (T37.setTop (mkF m 76 #[.val (.int p0), .val (.int p1), .val (.int p2), .val (.int p3), .val (.int p4), .val (.int (3 : Int32)), .val (.ref b29), .val (.int (own_imax u54_35 p3)), .unset, .unset] []))) (fun t k => XS.istore X37.here hx rfl (hb hby at_74) rfl (l' := #[.val (.int p0), .val (.int p1), .val (.int p2), .val (.int p3), .val (.int p4), .val (.int (3 : Int32)), .val (.ref b29), .val (.int (own_imax u54_35 p3)), .unset, .unset]) rfl k) ?_
    generalize hu74_38 : (own_imax u54_35 p3) = u74_38
    refine OD.go (B := (T37.setTop (mkF m 78 #[.val (.int p0), .val (.int p1), .val (.int p2), .val (.int p3), .val (.int p4), .val (.int (3 : Int32)), .val (.ref b29), .val (.int u74_38), .unset, .unset] [(.int (3 : Int32))]))) (fun t k => XS.iload X37.here hx rfl (hb hby at_76) rfl k) ?_
    refine OD.go (B := (T37.setTop (mkF m 79 #[.val (.int p0), .val (.int p1), .val (.int p2), .val (.int p3), .val (.int p4), .val (.int (3 : Int32)), .val (.ref b29), .val (.int u74_38), .unset, .unset] [(.int (3 : Int32)), (.int (3 : Int32))]))) (fun t k => XS.iconst X37.here hx rfl (hb hby at_78) k) ?_
    refine OD.go (B := (T37.setTop (mkF m 98 #[.val (.int p0), .val (.int p1), .val (.int p2), .val (.int p3), .val (.int p4), .val (.int (3 : Int32)), .val (.ref b29), .val (.int u74_38), .unset, .unset] []))) (fun t k => XS.icmpYes X37.here hx rfl (pc0 := 79) (pc' := 98) rfl (hb hby at_79) rfl (flt (by decide : ¬ (3 : Int32) < (3 : Int32))).2.2.2 (by decide) (by decide) k) ?_
    refine OD.go (B := (T37.setTop (mkF m 100 #[.val (.int p0), .val (.int p1), .val (.int p2), .val (.int p3), .val (.int p4), .val (.int (3 : Int32)), .val (.ref b29), .val (.int u74_38), .unset, .unset] [(.ref b29)]))) (fun t k => XS.aload X37.here hx rfl (hb hby at_98) rfl rfl k) ?_
    obtain ⟨_, _, ⟨T39, L39, k39, n39⟩, -, X39, ⟨Lc39, hQ39, l39, y39, z39⟩, st39⟩ := Jvm.LawKit.callS X37 hx (y := (⟨"com/example/querent/querent/ScoreScale", "highest", "([D)D"⟩ : MethodName)) hown (mvT hZ (Wd2 hw)) (mvT hZ (Wd3 hw)) (mvT hZ (Wd4 hw)) (mvT hZ (Wd5 hw)) (by decide) (backOf (W := 0) (rmH3 l Z a0 hw [] b29 h36 k29 (FP.i2d p1) (FP.i2d p2) (FP.i2d p3) (Fl.i2d_fin _).noNaN (Fl.i2d_fin _).noNaN (Fl.i2d_fin _).noNaN V36) hZ (Wd5 hw) (Wd4 hw) (by decide) (by decide)) (g := (mkF m 100 #[.val (.int p0), .val (.int p1), .val (.int p2), .val (.int p3), .val (.int p4), .val (.int (3 : Int32)), .val (.ref b29), .val (.int u74_38), .unset, .unset] [(.ref b29)])) rfl (by rw [hml]; rfl) (argsL := [(.ref b29)]) (rest := []) (lenOf pd1 rfl) rfl (by show 2 * 0 + _ ≤ _; exact Nat.le_of_eq rfl) (hb hby at_100) (fun _ _ => ⟨rfl, e37, (Nat.le_of_ble_eq_true rfl), (Nat.le_of_ble_eq_true rfl)⟩)
    dsimp only [Pt.U, Pt.locs, Pt.cells, Pt.slots] at X39 l39 y39 z39 st39 hQ39
    subst l39 y39 z39
    obtain ⟨rfl, rfl, e39⟩ := hQ39
    have N39 := Fr.app N37 (Fr.nil _)
    refine OD.go (B := (T39.setTop (mkF m 103 #[.val (.int p0), .val (.int p1), .val (.int p2), .val (.int p3), .val (.int p4), .val (.int (3 : Int32)), .val (.ref b29), .val (.int u74_38), .unset, .unset] [(.double (Native.java_lang_Math.nans.pick64 true (Native.java_lang_Math.nans.pick64 true (Native.java_lang_Math.nans.pick64 true FP.dconst0 (FP.i2d p1)) (FP.i2d p2)) (FP.i2d p3)))]))) st39 ?_
    refine OD.go (B := (T39.setTop (mkF m 105 #[.val (.int p0), .val (.int p1), .val (.int p2), .val (.int p3), .val (.int p4), .val (.int (3 : Int32)), .val (.ref b29), .val (.int u74_38), .val (.double (Native.java_lang_Math.nans.pick64 true (Native.java_lang_Math.nans.pick64 true (Native.java_lang_Math.nans.pick64 true FP.dconst0 (FP.i2d p1)) (FP.i2d p2)) (FP.i2d p3))), .second] []))) (fun t k => XS.dstore X39.here hx rfl (hb hby at_103) rfl (l' := #[.val (.int p0), .val (.int p1), .val (.int p2), .val (.int p3), .val (.int p4), .val (.int (3 : Int32)), .val (.ref b29), .val (.int u74_38), .val (.double (Native.java_lang_Math.nans.pick64 true (Native.java_lang_Math.nans.pick64 true (Native.java_lang_Math.nans.pick64 true FP.dconst0 (FP.i2d p1)) (FP.i2d p2)) (FP.i2d p3))), .second]) rfl k) ?_
    generalize hu103_40 : (Native.java_lang_Math.nans.pick64 true (Native.java_lang_Math.nans.pick64 true (Native.java_lang_Math.nans.pick64 true FP.dconst0 (FP.i2d p1)) (FP.i2d p2)) (FP.i2d p3)) = u103_40
    refine OD.go (B := (T39.setTop (mkF m 107 #[.val (.int p0), .val (.int p1), .val (.int p2), .val (.int p3), .val (.int p4), .val (.int (3 : Int32)), .val (.ref b29), .val (.int u74_38), .val (.double u103_40), .second] [(.double u103_40)]))) (fun t k => XS.dload X39.here hx rfl (hb hby at_105) rfl k) ?_
    refine OD.go (B := (T39.setTop (mkF m 109 #[.val (.int p0), .val (.int p1), .val (.int p2), .val (.int p3), .val (.int p4), .val (.int (3 : Int32)), .val (.ref b29), .val (.int u74_38), .val (.double u103_40), .second] [(.int u74_38), (.double u103_40)]))) (fun t k => XS.iload X39.here hx rfl (hb hby at_107) rfl k) ?_
    refine OD.go (B := (T39.setTop (mkF m 110 #[.val (.int p0), .val (.int p1), .val (.int p2), .val (.int p3), .val (.int p4), .val (.int (3 : Int32)), .val (.ref b29), .val (.int u74_38), .val (.double u103_40), .second] [(.double (FP.i2d u74_38)), (.double u103_40)]))) (fun t k => XS.i2dS X39.here hx rfl (hb hby at_109) rfl (v := (FP.i2d u74_38)) rfl k) ?_
    refine OD.go (B := (T39.setTop (mkF m 111 #[.val (.int p0), .val (.int p1), .val (.int p2), .val (.int p3), .val (.int p4), .val (.int (3 : Int32)), .val (.ref b29), .val (.int u74_38), .val (.double u103_40), .second] [(.int (cmpValue (FP.dcmp u103_40 (FP.i2d u74_38)) .l))]))) (fun t k => XS.dcmpS X39.here hx rfl (hb hby at_110) rfl (v := (cmpValue (FP.dcmp u103_40 (FP.i2d u74_38)) .l)) rfl k) ?_
    obtain ⟨v119_41, hv119_41⟩ : ∃ z : Int32, z = (if (cmpValue (FP.dcmp u103_40 (FP.i2d u74_38)) .l) = (0 : Int32) then (1 : Int32) else (0 : Int32)) := ⟨_, rfl⟩
    refine OD.cut (B := (T39.setTop (mkF m 119 #[.val (.int p0), .val (.int p1), .val (.int p2), .val (.int p3), .val (.int p4), .val (.int (3 : Int32)), .val (.ref b29), .val (.int u74_38), .val (.double u103_40), .second] [(.int v119_41)]))) (fun J119_42 => ?_) ?_
    · skip
      by_cases c111_43 : (cmpValue (FP.dcmp u103_40 (FP.i2d u74_38)) .l) = (0 : Int32)
      · refine OD.go (B := (T39.setTop (mkF m 114 #[.val (.int p0), .val (.int p1), .val (.int p2), .val (.int p3), .val (.int p4), .val (.int (3 : Int32)), .val (.ref b29), .val (.int u74_38), .val (.double u103_40), .second] []))) (fun t k => XS.ifNo X39.here hx rfl (hb hby at_111) rfl (by rw [if0]; exact (teq c111_43).2) k) ?_
        refine OD.go (B := (T39.setTop (mkF m 115 #[.val (.int p0), .val (.int p1), .val (.int p2), .val (.int p3), .val (.int p4), .val (.int (3 : Int32)), .val (.ref b29), .val (.int u74_38), .val (.double u103_40), .second] [(.int (1 : Int32))]))) (fun t k => XS.iconst X39.here hx rfl (hb hby at_114) k) ?_
        refine OD.go (B := (T39.setTop (mkF m 119 #[.val (.int p0), .val (.int p1), .val (.int p2), .val (.int p3), .val (.int p4), .val (.int (3 : Int32)), .val (.ref b29), .val (.int u74_38), .val (.double u103_40), .second] [(.int (1 : Int32))]))) (fun t k => XS.goto X39.here hx rfl (pc0 := 115) (pc' := 119) rfl (hb hby at_115) (by decide) (by decide) k) ?_
        rw [if_pos c111_43] at hv119_41
        rw [hv119_41] at J119_42
        exact J119_42
      · refine OD.go (B := (T39.setTop (mkF m 118 #[.val (.int p0), .val (.int p1), .val (.int p2), .val (.int p3), .val (.int p4), .val (.int (3 : Int32)), .val (.ref b29), .val (.int u74_38), .val (.double u103_40), .second] []))) (fun t k => XS.ifYes X39.here hx rfl (pc0 := 111) (pc' := 118) rfl (hb hby at_111) rfl (by rw [if0]; exact (feq c111_43).2) (by decide) (by decide) k) ?_
        refine OD.go (B := (T39.setTop (mkF m 119 #[.val (.int p0), .val (.int p1), .val (.int p2), .val (.int p3), .val (.int p4), .val (.int (3 : Int32)), .val (.ref b29), .val (.int u74_38), .val (.double u103_40), .second] [(.int (0 : Int32))]))) (fun t k => XS.iconst X39.here hx rfl (hb hby at_118) k) ?_
        rw [if_neg c111_43] at hv119_41
        rw [hv119_41] at J119_42
        exact J119_42
    have fin : v119_41 = 1 := by
      rw [hv119_41, if_pos]
      subst hu34_32
      subst hu54_35
      subst hu74_38
      subst hu103_40
      rw [own_d0]
      try simp only [own_pick]
      exact dcmpV_self (Fl.i2d_fin _).noNaN _
    rw [fin]
    exact OD.ret X39 hx hlk (t := .boolean) Bd.returns rfl (Or.inl ⟨rfl, Or.inr (Or.inl rfl), _, rfl⟩) (hb hby at_119) (Nat.le_of_ble_eq_true rfl) (Nat.le_of_ble_eq_true rfl) ⟨rfl, N39⟩
  · show OD _ _ _ _ _ _ _ (s₁.setTop (mkF m 8 #[.val (.int p0), .val (.int p1), .val (.int p2), .val (.int p3), .val (.int p4), .val (.int (4 : Int32)), .unset, .unset, .unset, .unset] []))
    refine OD.go (B := (s₁.setTop (mkF m 10 #[.val (.int p0), .val (.int p1), .val (.int p2), .val (.int p3), .val (.int p4), .val (.int (4 : Int32)), .unset, .unset, .unset, .unset] [(.int (4 : Int32))]))) (fun t k => XS.iload X0.here hx rfl (hb hby at_8) rfl k) ?_
    obtain ⟨T44, h44, k44, X44, e44, E44, A44, st44⟩ := newP X0 hx hZ (aty := .double) (Wd1 hw) e0 (g := (mkF m 10 #[.val (.int p0), .val (.int p1), .val (.int p2), .val (.int p3), .val (.int p4), .val (.int (4 : Int32)), .unset, .unset, .unset, .unset] [(.int (4 : Int32))])) rfl (hb hby at_10) rfl (by decide) (cap := 4) (by decide) (by decide) (Nat.le_of_ble_eq_true rfl) (Nat.le_of_ble_eq_true rfl)
    obtain ⟨b44, g44⟩ : ∃ z, z = h0.size := ⟨_, rfl⟩
    rw [← g44] at A44 st44
    have V44 : Arv Z h44 b44 k44 .double (4 : Int32) [(.double (0 : UInt64)), (.double (0 : UInt64)), (.double (0 : UInt64)), (.double (0 : UInt64))] (.double (0 : UInt64)) := (Arv.new A44 (by decide)).pad (pad_rep [] (.double (0 : UInt64)) 4)
    refine OD.go (B := (T44.setTop (mkF m 12 #[.val (.int p0), .val (.int p1), .val (.int p2), .val (.int p3), .val (.int p4), .val (.int (4 : Int32)), .unset, .unset, .unset, .unset] [(.ref b44)]))) st44 ?_
    refine OD.go (B := (T44.setTop (mkF m 14 #[.val (.int p0), .val (.int p1), .val (.int p2), .val (.int p3), .val (.int p4), .val (.int (4 : Int32)), .val (.ref b44), .unset, .unset, .unset] []))) (fun t k => XS.astore X44.here hx rfl (hb hby at_12) rfl rfl (l' := #[.val (.int p0), .val (.int p1), .val (.int p2), .val (.int p3), .val (.int p4), .val (.int (4 : Int32)), .val (.ref b44), .unset, .unset, .unset]) rfl k) ?_
    refine OD.go (B := (T44.setTop (mkF m 15 #[.val (.int p0), .val (.int p1), .val (.int p2), .val (.int p3), .val (.int p4), .val (.int (4 : Int32)), .val (.ref b44), .unset, .unset, .unset] [(.int (0 : Int32))]))) (fun t k => XS.iconst X44.here hx rfl (hb hby at_14) k) ?_
    refine OD.go (B := (T44.setTop (mkF m 17 #[.val (.int p0), .val (.int p1), .val (.int p2), .val (.int p3), .val (.int p4), .val (.int (4 : Int32)), .val (.ref b44), .val (.int (0 : Int32)), .unset, .unset] []))) (fun t k => XS.istore X44.here hx rfl (hb hby at_15) rfl (l' := #[.val (.int p0), .val (.int p1), .val (.int p2), .val (.int p3), .val (.int p4), .val (.int (4 : Int32)), .val (.ref b44), .val (.int (0 : Int32)), .unset, .unset]) rfl k) ?_
    refine OD.go (B := (T44.setTop (mkF m 19 #[.val (.int p0), .val (.int p1), .val (.int p2), .val (.int p3), .val (.int p4), .val (.int (4 : Int32)), .val (.ref b44), .val (.int (0 : Int32)), .unset, .unset] [(.int (4 : Int32))]))) (fun t k => XS.iload X44.here hx rfl (hb hby at_17) rfl k) ?_
    refine OD.go (B := (T44.setTop (mkF m 22 #[.val (.int p0), .val (.int p1), .val (.int p2), .val (.int p3), .val (.int p4), .val (.int (4 : Int32)), .val (.ref b44), .val (.int (0 : Int32)), .unset, .unset] []))) (fun t k => XS.ifNo X44.here hx rfl (hb hby at_19) rfl (by rw [if0]; exact (tlt (by decide : (0 : Int32) < (4 : Int32))).2.2.2) k) ?_
    refine OD.go (B := (T44.setTop (mkF m 24 #[.val (.int p0), .val (.int p1), .val (.int p2), .val (.int p3), .val (.int p4), .val (.int (4 : Int32)), .val (.ref b44), .val (.int (0 : Int32)), .unset, .unset] [(.ref b44)]))) (fun t k => XS.aload X44.here hx rfl (hb hby at_22) rfl rfl k) ?_
    refine OD.go (B := (T44.setTop (mkF m 25 #[.val (.int p0), .val (.int p1), .val (.int p2), .val (.int p3), .val (.int p4), .val (.int (4 : Int32)), .val (.ref b44), .val (.int (0 : Int32)), .unset, .unset] [(.int (0 : Int32)), (.ref b44)]))) (fun t k => XS.iconst X44.here hx rfl (hb hby at_24) k) ?_
    refine OD.go (B := (T44.setTop (mkF m 26 #[.val (.int p0), .val (.int p1), .val (.int p2), .val (.int p3), .val (.int p4), .val (.int (4 : Int32)), .val (.ref b44), .val (.int (0 : Int32)), .unset, .unset] [(.int p1), (.int (0 : Int32)), (.ref b44)]))) (fun t k => XS.iloadN X44.here hx rfl (hb hby at_25) rfl k) ?_
    refine OD.go (B := (T44.setTop (mkF m 27 #[.val (.int p0), .val (.int p1), .val (.int p2), .val (.int p3), .val (.int p4), .val (.int (4 : Int32)), .val (.ref b44), .val (.int (0 : Int32)), .unset, .unset] [(.double (FP.i2d p1)), (.int (0 : Int32)), (.ref b44)]))) (fun t k => XS.i2dS X44.here hx rfl (hb hby at_26) rfl (v := (FP.i2d p1)) rfl k) ?_
    obtain ⟨cl45, Ar45, q45, S45, M45, H45, G45⟩ := id V44
    obtain ⟨T45, h45, X45, e45, W45, st45⟩ := stD X44 hx hZ e44 Ar45 (j := (0 : Int32)) (inb_of S45 ⟨by decide, by decide⟩) (g := (mkF m 27 #[.val (.int p0), .val (.int p1), .val (.int p2), .val (.int p3), .val (.int p4), .val (.int (4 : Int32)), .val (.ref b44), .val (.int (0 : Int32)), .unset, .unset] [(.double (FP.i2d p1)), (.int (0 : Int32)), (.ref b44)])) rfl rfl (hb hby at_27)
    have V45 : Arv Z h45 b44 k44 .double (4 : Int32) [(.double (FP.i2d p1)), (.double (0 : UInt64)), (.double (0 : UInt64)), (.double (0 : UInt64))] (.double (0 : UInt64)) := Arv.set Ar45 q45 S45 M45 H45 G45 rfl W45 0 rfl (Nat.le_of_ble_eq_true rfl)
    have N45 := Fr.snoc X45 N0 (Nat.le_trans (Nat.le_refl _) (Nat.le_of_eq g44.symm))
    refine OD.go (B := (T45.setTop (mkF m 28 #[.val (.int p0), .val (.int p1), .val (.int p2), .val (.int p3), .val (.int p4), .val (.int (4 : Int32)), .val (.ref b44), .val (.int (0 : Int32)), .unset, .unset] []))) st45 ?_
    refine OD.go (B := (T45.setTop (mkF m 30 #[.val (.int p0), .val (.int p1), .val (.int p2), .val (.int p3), .val (.int p4), .val (.int (4 : Int32)), .val (.ref b44), .val (.int (0 : Int32)), .unset, .unset] [(.int (0 : Int32))]))) (fun t k => XS.iload X45.here hx rfl (hb hby at_28) rfl k) ?_
    refine OD.go (B := (T45.setTop (mkF m 31 #[.val (.int p0), .val (.int p1), .val (.int p2), .val (.int p3), .val (.int p4), .val (.int (4 : Int32)), .val (.ref b44), .val (.int (0 : Int32)), .unset, .unset] [(.int p1), (.int (0 : Int32))]))) (fun t k => XS.iloadN X45.here hx rfl (hb hby at_30) rfl k) ?_
    obtain ⟨_, _, ⟨T46, L46, k46, n46⟩, -, X46, ⟨Lc46, hQ46, l46, y46, z46⟩, st46⟩ := Jvm.LawKit.callS X45 hx (y := (⟨"java/lang/Math", "max", "(II)I"⟩ : MethodName)) hown (mvT hZ (Wd6 hw)) (mvT hZ (Wd7 hw)) (mvT hZ (Wd8 hw)) (mvT hZ (Wd9 hw)) (by decide) (backOf (W := 0) (rmI l Z a0 hw [] (0 : Int32) p1 h45) hZ (Wd9 hw) (Wd8 hw) (by decide) (by decide)) (g := (mkF m 31 #[.val (.int p0), .val (.int p1), .val (.int p2), .val (.int p3), .val (.int p4), .val (.int (4 : Int32)), .val (.ref b44), .val (.int (0 : Int32)), .unset, .unset] [(.int p1), (.int (0 : Int32))])) rfl (by rw [hml]; rfl) (argsL := [(.int (0 : Int32)), (.int p1)]) (rest := []) (lenOf pd2 rfl) rfl (by show 2 * 0 + _ ≤ _; exact Nat.le_of_eq rfl) (hb hby at_31) (fun _ _ => ⟨rfl, e45, (Nat.le_of_ble_eq_true rfl), (Nat.le_of_ble_eq_true rfl)⟩)
    dsimp only [Pt.U, Pt.locs, Pt.cells, Pt.slots] at X46 l46 y46 z46 st46 hQ46
    subst l46 y46 z46
    obtain ⟨rfl, rfl, e46⟩ := hQ46
    have N46 := Fr.app N45 (Fr.nil _)
    refine OD.go (B := (T46.setTop (mkF m 34 #[.val (.int p0), .val (.int p1), .val (.int p2), .val (.int p3), .val (.int p4), .val (.int (4 : Int32)), .val (.ref b44), .val (.int (0 : Int32)), .unset, .unset] [(.int (own_imax (0 : Int32) p1))]))) st46 ?_
    refine OD.go (B := (T46.setTop (mkF m 36 #[.val (.int p0), .val (.int p1), .val (.int p2), .val (.int p3), .val (.int p4), .val (.int (4 : Int32)), .val (.ref b44), .val (.int (own_imax (0 : Int32) p1)), .unset, .unset] []))) (fun t k => XS.istore X46.here hx rfl (hb hby at_34) rfl (l' := #[.val (.int p0), .val (.int p1), .val (.int p2), .val (.int p3), .val (.int p4), .val (.int (4 : Int32)), .val (.ref b44), .val (.int (own_imax (0 : Int32) p1)), .unset, .unset]) rfl k) ?_
    generalize hu34_47 : (own_imax (0 : Int32) p1) = u34_47
    refine OD.go (B := (T46.setTop (mkF m 38 #[.val (.int p0), .val (.int p1), .val (.int p2), .val (.int p3), .val (.int p4), .val (.int (4 : Int32)), .val (.ref b44), .val (.int u34_47), .unset, .unset] [(.int (4 : Int32))]))) (fun t k => XS.iload X46.here hx rfl (hb hby at_36) rfl k) ?_
    refine OD.go (B := (T46.setTop (mkF m 39 #[.val (.int p0), .val (.int p1), .val (.int p2), .val (.int p3), .val (.int p4), .val (.int (4 : Int32)), .val (.ref b44), .val (.int u34_47), .unset, .unset] [(.int (1 : Int32)), (.int (4 : Int32))]))) (fun t k => XS.iconst X46.here hx rfl (hb hby at_38) k) ?_
    refine OD.go (B := (T46.setTop (mkF m 42 #[.val (.int p0), .val (.int p1), .val (.int p2), .val (.int p3), .val (.int p4), .val (.int (4 : Int32)), .val (.ref b44), .val (.int u34_47), .unset, .unset] []))) (fun t k => XS.icmpNo X46.here hx rfl (hb hby at_39) rfl (tlt (by decide : (1 : Int32) < (4 : Int32))).2.2.2 k) ?_
    refine OD.go (B := (T46.setTop (mkF m 44 #[.val (.int p0), .val (.int p1), .val (.int p2), .val (.int p3), .val (.int p4), .val (.int (4 : Int32)), .val (.ref b44), .val (.int u34_47), .unset, .unset] [(.ref b44)]))) (fun t k => XS.aload X46.here hx rfl (hb hby at_42) rfl rfl k) ?_
    refine OD.go (B := (T46.setTop (mkF m 45 #[.val (.int p0), .val (.int p1), .val (.int p2), .val (.int p3), .val (.int p4), .val (.int (4 : Int32)), .val (.ref b44), .val (.int u34_47), .unset, .unset] [(.int (1 : Int32)), (.ref b44)]))) (fun t k => XS.iconst X46.here hx rfl (hb hby at_44) k) ?_
    refine OD.go (B := (T46.setTop (mkF m 46 #[.val (.int p0), .val (.int p1), .val (.int p2), .val (.int p3), .val (.int p4), .val (.int (4 : Int32)), .val (.ref b44), .val (.int u34_47), .unset, .unset] [(.int p2), (.int (1 : Int32)), (.ref b44)]))) (fun t k => XS.iloadN X46.here hx rfl (hb hby at_45) rfl k) ?_
    refine OD.go (B := (T46.setTop (mkF m 47 #[.val (.int p0), .val (.int p1), .val (.int p2), .val (.int p3), .val (.int p4), .val (.int (4 : Int32)), .val (.ref b44), .val (.int u34_47), .unset, .unset] [(.double (FP.i2d p2)), (.int (1 : Int32)), (.ref b44)]))) (fun t k => XS.i2dS X46.here hx rfl (hb hby at_46) rfl (v := (FP.i2d p2)) rfl k) ?_
    obtain ⟨cl48, Ar48, q48, S48, M48, H48, G48⟩ := id V45
    obtain ⟨T48, h48, X48, e48, W48, st48⟩ := stD X46 hx hZ e46 Ar48 (j := (1 : Int32)) (inb_of S48 ⟨by decide, by decide⟩) (g := (mkF m 47 #[.val (.int p0), .val (.int p1), .val (.int p2), .val (.int p3), .val (.int p4), .val (.int (4 : Int32)), .val (.ref b44), .val (.int u34_47), .unset, .unset] [(.double (FP.i2d p2)), (.int (1 : Int32)), (.ref b44)])) rfl rfl (hb hby at_47)
    have V48 : Arv Z h48 b44 k44 .double (4 : Int32) [(.double (FP.i2d p1)), (.double (FP.i2d p2)), (.double (0 : UInt64)), (.double (0 : UInt64))] (.double (0 : UInt64)) := Arv.set Ar48 q48 S48 M48 H48 G48 rfl W48 1 rfl (Nat.le_of_ble_eq_true rfl)
    have N48 := Fr.snoc X48 N46 (Nat.le_trans (Nat.le_refl _) (Nat.le_of_eq g44.symm))
    refine OD.go (B := (T48.setTop (mkF m 48 #[.val (.int p0), .val (.int p1), .val (.int p2), .val (.int p3), .val (.int p4), .val (.int (4 : Int32)), .val (.ref b44), .val (.int u34_47), .unset, .unset] []))) st48 ?_
    refine OD.go (B := (T48.setTop (mkF m 50 #[.val (.int p0), .val (.int p1), .val (.int p2), .val (.int p3), .val (.int p4), .val (.int (4 : Int32)), .val (.ref b44), .val (.int u34_47), .unset, .unset] [(.int u34_47)]))) (fun t k => XS.iload X48.here hx rfl (hb hby at_48) rfl k) ?_
    refine OD.go (B := (T48.setTop (mkF m 51 #[.val (.int p0), .val (.int p1), .val (.int p2), .val (.int p3), .val (.int p4), .val (.int (4 : Int32)), .val (.ref b44), .val (.int u34_47), .unset, .unset] [(.int p2), (.int u34_47)]))) (fun t k => XS.iloadN X48.here hx rfl (hb hby at_50) rfl k) ?_
    obtain ⟨_, _, ⟨T49, L49, k49, n49⟩, -, X49, ⟨Lc49, hQ49, l49, y49, z49⟩, st49⟩ := Jvm.LawKit.callS X48 hx (y := (⟨"java/lang/Math", "max", "(II)I"⟩ : MethodName)) hown (mvT hZ (Wd6 hw)) (mvT hZ (Wd7 hw)) (mvT hZ (Wd8 hw)) (mvT hZ (Wd9 hw)) (by decide) (backOf (W := 0) (rmI l Z a0 hw [] u34_47 p2 h48) hZ (Wd9 hw) (Wd8 hw) (by decide) (by decide)) (g := (mkF m 51 #[.val (.int p0), .val (.int p1), .val (.int p2), .val (.int p3), .val (.int p4), .val (.int (4 : Int32)), .val (.ref b44), .val (.int u34_47), .unset, .unset] [(.int p2), (.int u34_47)])) rfl (by rw [hml]; rfl) (argsL := [(.int u34_47), (.int p2)]) (rest := []) (lenOf pd2 rfl) rfl (by show 2 * 0 + _ ≤ _; exact Nat.le_of_eq rfl) (hb hby at_51) (fun _ _ => ⟨rfl, e48, (Nat.le_of_ble_eq_true rfl), (Nat.le_of_ble_eq_true rfl)⟩)
    dsimp only [Pt.U, Pt.locs, Pt.cells, Pt.slots] at X49 l49 y49 z49 st49 hQ49
    subst l49 y49 z49
    obtain ⟨rfl, rfl, e49⟩ := hQ49
    have N49 := Fr.app N48 (Fr.nil _)
    refine OD.go (B := (T49.setTop (mkF m 54 #[.val (.int p0), .val (.int p1), .val (.int p2), .val (.int p3), .val (.int p4), .val (.int (4 : Int32)), .val (.ref b44), .val (.int u34_47), .unset, .unset] [(.int (own_imax u34_47 p2))]))) st49 ?_
    refine OD.go (B := (T49.setTop (mkF m 56 #[.val (.int p0), .val (.int p1), .val (.int p2), .val (.int p3), .val (.int p4), .val (.int (4 : Int32)), .val (.ref b44), .val (.int (own_imax u34_47 p2)), .unset, .unset] []))) (fun t k => XS.istore X49.here hx rfl (hb hby at_54) rfl (l' := #[.val (.int p0), .val (.int p1), .val (.int p2), .val (.int p3), .val (.int p4), .val (.int (4 : Int32)), .val (.ref b44), .val (.int (own_imax u34_47 p2)), .unset, .unset]) rfl k) ?_
    generalize hu54_50 : (own_imax u34_47 p2) = u54_50
    refine OD.go (B := (T49.setTop (mkF m 58 #[.val (.int p0), .val (.int p1), .val (.int p2), .val (.int p3), .val (.int p4), .val (.int (4 : Int32)), .val (.ref b44), .val (.int u54_50), .unset, .unset] [(.int (4 : Int32))]))) (fun t k => XS.iload X49.here hx rfl (hb hby at_56) rfl k) ?_
    refine OD.go (B := (T49.setTop (mkF m 59 #[.val (.int p0), .val (.int p1), .val (.int p2), .val (.int p3), .val (.int p4), .val (.int (4 : Int32)), .val (.ref b44), .val (.int u54_50), .unset, .unset] [(.int (2 : Int32)), (.int (4 : Int32))]))) (fun t k => XS.iconst X49.here hx rfl (hb hby at_58) k) ?_
    refine OD.go (B := (T49.setTop (mkF m 62 #[.val (.int p0), .val (.int p1), .val (.int p2), .val (.int p3), .val (.int p4), .val (.int (4 : Int32)), .val (.ref b44), .val (.int u54_50), .unset, .unset] []))) (fun t k => XS.icmpNo X49.here hx rfl (hb hby at_59) rfl (tlt (by decide : (2 : Int32) < (4 : Int32))).2.2.2 k) ?_
    refine OD.go (B := (T49.setTop (mkF m 64 #[.val (.int p0), .val (.int p1), .val (.int p2), .val (.int p3), .val (.int p4), .val (.int (4 : Int32)), .val (.ref b44), .val (.int u54_50), .unset, .unset] [(.ref b44)]))) (fun t k => XS.aload X49.here hx rfl (hb hby at_62) rfl rfl k) ?_
    refine OD.go (B := (T49.setTop (mkF m 65 #[.val (.int p0), .val (.int p1), .val (.int p2), .val (.int p3), .val (.int p4), .val (.int (4 : Int32)), .val (.ref b44), .val (.int u54_50), .unset, .unset] [(.int (2 : Int32)), (.ref b44)]))) (fun t k => XS.iconst X49.here hx rfl (hb hby at_64) k) ?_
    refine OD.go (B := (T49.setTop (mkF m 66 #[.val (.int p0), .val (.int p1), .val (.int p2), .val (.int p3), .val (.int p4), .val (.int (4 : Int32)), .val (.ref b44), .val (.int u54_50), .unset, .unset] [(.int p3), (.int (2 : Int32)), (.ref b44)]))) (fun t k => XS.iloadN X49.here hx rfl (hb hby at_65) rfl k) ?_
    refine OD.go (B := (T49.setTop (mkF m 67 #[.val (.int p0), .val (.int p1), .val (.int p2), .val (.int p3), .val (.int p4), .val (.int (4 : Int32)), .val (.ref b44), .val (.int u54_50), .unset, .unset] [(.double (FP.i2d p3)), (.int (2 : Int32)), (.ref b44)]))) (fun t k => XS.i2dS X49.here hx rfl (hb hby at_66) rfl (v := (FP.i2d p3)) rfl k) ?_
    obtain ⟨cl51, Ar51, q51, S51, M51, H51, G51⟩ := id V48
    obtain ⟨T51, h51, X51, e51, W51, st51⟩ := stD X49 hx hZ e49 Ar51 (j := (2 : Int32)) (inb_of S51 ⟨by decide, by decide⟩) (g := (mkF m 67 #[.val (.int p0), .val (.int p1), .val (.int p2), .val (.int p3), .val (.int p4), .val (.int (4 : Int32)), .val (.ref b44), .val (.int u54_50), .unset, .unset] [(.double (FP.i2d p3)), (.int (2 : Int32)), (.ref b44)])) rfl rfl (hb hby at_67)
    have V51 : Arv Z h51 b44 k44 .double (4 : Int32) [(.double (FP.i2d p1)), (.double (FP.i2d p2)), (.double (FP.i2d p3)), (.double (0 : UInt64))] (.double (0 : UInt64)) := Arv.set Ar51 q51 S51 M51 H51 G51 rfl W51 2 rfl (Nat.le_of_ble_eq_true rfl)
    have N51 := Fr.snoc X51 N49 (Nat.le_trans (Nat.le_refl _) (Nat.le_of_eq g44.symm))
    refine OD.go (B := (T51.setTop (mkF m 68 #[.val (.int p0), .val (.int p1), .val (.int p2), .val (.int p3), .val (.int p4), .val (.int (4 : Int32)), .val (.ref b44), .val (.int u54_50), .unset, .unset] []))) st51 ?_
    refine OD.go (B := (T51.setTop (mkF m 70 #[.val (.int p0), .val (.int p1), .val (.int p2), .val (.int p3), .val (.int p4), .val (.int (4 : Int32)), .val (.ref b44), .val (.int u54_50), .unset, .unset] [(.int u54_50)]))) (fun t k => XS.iload X51.here hx rfl (hb hby at_68) rfl k) ?_
    refine OD.go (B := (T51.setTop (mkF m 71 #[.val (.int p0), .val (.int p1), .val (.int p2), .val (.int p3), .val (.int p4), .val (.int (4 : Int32)), .val (.ref b44), .val (.int u54_50), .unset, .unset] [(.int p3), (.int u54_50)]))) (fun t k => XS.iloadN X51.here hx rfl (hb hby at_70) rfl k) ?_
    obtain ⟨_, _, ⟨T52, L52, k52, n52⟩, -, X52, ⟨Lc52, hQ52, l52, y52, z52⟩, st52⟩ := Jvm.LawKit.callS X51 hx (y := (⟨"java/lang/Math", "max", "(II)I"⟩ : MethodName)) hown (mvT hZ (Wd6 hw)) (mvT hZ (Wd7 hw)) (mvT hZ (Wd8 hw)) (mvT hZ (Wd9 hw)) (by decide) (backOf (W := 0) (rmI l Z a0 hw [] u54_50 p3 h51) hZ (Wd9 hw) (Wd8 hw) (by decide) (by decide)) (g := (mkF m 71 #[.val (.int p0), .val (.int p1), .val (.int p2), .val (.int p3), .val (.int p4), .val (.int (4 : Int32)), .val (.ref b44), .val (.int u54_50), .unset, .unset] [(.int p3), (.int u54_50)])) rfl (by rw [hml]; rfl) (argsL := [(.int u54_50), (.int p3)]) (rest := []) (lenOf pd2 rfl) rfl (by show 2 * 0 + _ ≤ _; exact Nat.le_of_eq rfl) (hb hby at_71) (fun _ _ => ⟨rfl, e51, (Nat.le_of_ble_eq_true rfl), (Nat.le_of_ble_eq_true rfl)⟩)
    dsimp only [Pt.U, Pt.locs, Pt.cells, Pt.slots] at X52 l52 y52 z52 st52 hQ52
    subst l52 y52 z52
    obtain ⟨rfl, rfl, e52⟩ := hQ52
    have N52 := Fr.app N51 (Fr.nil _)
    refine OD.go (B := (T52.setTop (mkF m 74 #[.val (.int p0), .val (.int p1), .val (.int p2), .val (.int p3), .val (.int p4), .val (.int (4 : Int32)), .val (.ref b44), .val (.int u54_50), .unset, .unset] [(.int (own_imax u54_50 p3))]))) st52 ?_
    refine OD.go (B := (T52.setTop (mkF m 76 #[.val (.int p0), .val (.int p1), .val (.int p2), .val (.int p3), .val (.int p4), .val (.int (4 : Int32)), .val (.ref b44), .val (.int (own_imax u54_50 p3)), .unset, .unset] []))) (fun t k => XS.istore X52.here hx rfl (hb hby at_74) rfl (l' := #[.val (.int p0), .val (.int p1), .val (.int p2), .val (.int p3), .val (.int p4), .val (.int (4 : Int32)), .val (.ref b44), .val (.int (own_imax u54_50 p3)), .unset, .unset]) rfl k) ?_
    generalize hu74_53 : (own_imax u54_50 p3) = u74_53
    refine OD.go (B := (T52.setTop (mkF m 78 #[.val (.int p0), .val (.int p1), .val (.int p2), .val (.int p3), .val (.int p4), .val (.int (4 : Int32)), .val (.ref b44), .val (.int u74_53), .unset, .unset] [(.int (4 : Int32))]))) (fun t k => XS.iload X52.here hx rfl (hb hby at_76) rfl k) ?_
    refine OD.go (B := (T52.setTop (mkF m 79 #[.val (.int p0), .val (.int p1), .val (.int p2), .val (.int p3), .val (.int p4), .val (.int (4 : Int32)), .val (.ref b44), .val (.int u74_53), .unset, .unset] [(.int (3 : Int32)), (.int (4 : Int32))]))) (fun t k => XS.iconst X52.here hx rfl (hb hby at_78) k) ?_
    refine OD.go (B := (T52.setTop (mkF m 82 #[.val (.int p0), .val (.int p1), .val (.int p2), .val (.int p3), .val (.int p4), .val (.int (4 : Int32)), .val (.ref b44), .val (.int u74_53), .unset, .unset] []))) (fun t k => XS.icmpNo X52.here hx rfl (hb hby at_79) rfl (tlt (by decide : (3 : Int32) < (4 : Int32))).2.2.2 k) ?_
    refine OD.go (B := (T52.setTop (mkF m 84 #[.val (.int p0), .val (.int p1), .val (.int p2), .val (.int p3), .val (.int p4), .val (.int (4 : Int32)), .val (.ref b44), .val (.int u74_53), .unset, .unset] [(.ref b44)]))) (fun t k => XS.aload X52.here hx rfl (hb hby at_82) rfl rfl k) ?_
    refine OD.go (B := (T52.setTop (mkF m 85 #[.val (.int p0), .val (.int p1), .val (.int p2), .val (.int p3), .val (.int p4), .val (.int (4 : Int32)), .val (.ref b44), .val (.int u74_53), .unset, .unset] [(.int (3 : Int32)), (.ref b44)]))) (fun t k => XS.iconst X52.here hx rfl (hb hby at_84) k) ?_
    refine OD.go (B := (T52.setTop (mkF m 87 #[.val (.int p0), .val (.int p1), .val (.int p2), .val (.int p3), .val (.int p4), .val (.int (4 : Int32)), .val (.ref b44), .val (.int u74_53), .unset, .unset] [(.int p4), (.int (3 : Int32)), (.ref b44)]))) (fun t k => XS.iload X52.here hx rfl (hb hby at_85) rfl k) ?_
    refine OD.go (B := (T52.setTop (mkF m 88 #[.val (.int p0), .val (.int p1), .val (.int p2), .val (.int p3), .val (.int p4), .val (.int (4 : Int32)), .val (.ref b44), .val (.int u74_53), .unset, .unset] [(.double (FP.i2d p4)), (.int (3 : Int32)), (.ref b44)]))) (fun t k => XS.i2dS X52.here hx rfl (hb hby at_87) rfl (v := (FP.i2d p4)) rfl k) ?_
    obtain ⟨cl54, Ar54, q54, S54, M54, H54, G54⟩ := id V51
    obtain ⟨T54, h54, X54, e54, W54, st54⟩ := stD X52 hx hZ e52 Ar54 (j := (3 : Int32)) (inb_of S54 ⟨by decide, by decide⟩) (g := (mkF m 88 #[.val (.int p0), .val (.int p1), .val (.int p2), .val (.int p3), .val (.int p4), .val (.int (4 : Int32)), .val (.ref b44), .val (.int u74_53), .unset, .unset] [(.double (FP.i2d p4)), (.int (3 : Int32)), (.ref b44)])) rfl rfl (hb hby at_88)
    have V54 : Arv Z h54 b44 k44 .double (4 : Int32) [(.double (FP.i2d p1)), (.double (FP.i2d p2)), (.double (FP.i2d p3)), (.double (FP.i2d p4))] (.double (0 : UInt64)) := Arv.set Ar54 q54 S54 M54 H54 G54 rfl W54 3 rfl (Nat.le_of_ble_eq_true rfl)
    have N54 := Fr.snoc X54 N52 (Nat.le_trans (Nat.le_refl _) (Nat.le_of_eq g44.symm))
    refine OD.go (B := (T54.setTop (mkF m 89 #[.val (.int p0), .val (.int p1), .val (.int p2), .val (.int p3), .val (.int p4), .val (.int (4 : Int32)), .val (.ref b44), .val (.int u74_53), .unset, .unset] []))) st54 ?_
    refine OD.go (B := (T54.setTop (mkF m 91 #[.val (.int p0), .val (.int p1), .val (.int p2), .val (.int p3), .val (.int p4), .val (.int (4 : Int32)), .val (.ref b44), .val (.int u74_53), .unset, .unset] [(.int u74_53)]))) (fun t k => XS.iload X54.here hx rfl (hb hby at_89) rfl k) ?_
    refine OD.go (B := (T54.setTop (mkF m 93 #[.val (.int p0), .val (.int p1), .val (.int p2), .val (.int p3), .val (.int p4), .val (.int (4 : Int32)), .val (.ref b44), .val (.int u74_53), .unset, .unset] [(.int p4), (.int u74_53)]))) (fun t k => XS.iload X54.here hx rfl (hb hby at_91) rfl k) ?_
    obtain ⟨_, _, ⟨T55, L55, k55, n55⟩, -, X55, ⟨Lc55, hQ55, l55, y55, z55⟩, st55⟩ := Jvm.LawKit.callS X54 hx (y := (⟨"java/lang/Math", "max", "(II)I"⟩ : MethodName)) hown (mvT hZ (Wd6 hw)) (mvT hZ (Wd7 hw)) (mvT hZ (Wd8 hw)) (mvT hZ (Wd9 hw)) (by decide) (backOf (W := 0) (rmI l Z a0 hw [] u74_53 p4 h54) hZ (Wd9 hw) (Wd8 hw) (by decide) (by decide)) (g := (mkF m 93 #[.val (.int p0), .val (.int p1), .val (.int p2), .val (.int p3), .val (.int p4), .val (.int (4 : Int32)), .val (.ref b44), .val (.int u74_53), .unset, .unset] [(.int p4), (.int u74_53)])) rfl (by rw [hml]; rfl) (argsL := [(.int u74_53), (.int p4)]) (rest := []) (lenOf pd2 rfl) rfl (by show 2 * 0 + _ ≤ _; exact Nat.le_of_eq rfl) (hb hby at_93) (fun _ _ => ⟨rfl, e54, (Nat.le_of_ble_eq_true rfl), (Nat.le_of_ble_eq_true rfl)⟩)
    dsimp only [Pt.U, Pt.locs, Pt.cells, Pt.slots] at X55 l55 y55 z55 st55 hQ55
    subst l55 y55 z55
    obtain ⟨rfl, rfl, e55⟩ := hQ55
    have N55 := Fr.app N54 (Fr.nil _)
    refine OD.go (B := (T55.setTop (mkF m 96 #[.val (.int p0), .val (.int p1), .val (.int p2), .val (.int p3), .val (.int p4), .val (.int (4 : Int32)), .val (.ref b44), .val (.int u74_53), .unset, .unset] [(.int (own_imax u74_53 p4))]))) st55 ?_
    refine OD.go (B := (T55.setTop (mkF m 98 #[.val (.int p0), .val (.int p1), .val (.int p2), .val (.int p3), .val (.int p4), .val (.int (4 : Int32)), .val (.ref b44), .val (.int (own_imax u74_53 p4)), .unset, .unset] []))) (fun t k => XS.istore X55.here hx rfl (hb hby at_96) rfl (l' := #[.val (.int p0), .val (.int p1), .val (.int p2), .val (.int p3), .val (.int p4), .val (.int (4 : Int32)), .val (.ref b44), .val (.int (own_imax u74_53 p4)), .unset, .unset]) rfl k) ?_
    generalize hu96_56 : (own_imax u74_53 p4) = u96_56
    refine OD.go (B := (T55.setTop (mkF m 100 #[.val (.int p0), .val (.int p1), .val (.int p2), .val (.int p3), .val (.int p4), .val (.int (4 : Int32)), .val (.ref b44), .val (.int u96_56), .unset, .unset] [(.ref b44)]))) (fun t k => XS.aload X55.here hx rfl (hb hby at_98) rfl rfl k) ?_
    obtain ⟨_, _, ⟨T57, L57, k57, n57⟩, -, X57, ⟨Lc57, hQ57, l57, y57, z57⟩, st57⟩ := Jvm.LawKit.callS X55 hx (y := (⟨"com/example/querent/querent/ScoreScale", "highest", "([D)D"⟩ : MethodName)) hown (mvT hZ (Wd2 hw)) (mvT hZ (Wd3 hw)) (mvT hZ (Wd4 hw)) (mvT hZ (Wd5 hw)) (by decide) (backOf (W := 0) (rmH4 l Z a0 hw [] b44 h54 k44 (FP.i2d p1) (FP.i2d p2) (FP.i2d p3) (FP.i2d p4) (Fl.i2d_fin _).noNaN (Fl.i2d_fin _).noNaN (Fl.i2d_fin _).noNaN (Fl.i2d_fin _).noNaN V54) hZ (Wd5 hw) (Wd4 hw) (by decide) (by decide)) (g := (mkF m 100 #[.val (.int p0), .val (.int p1), .val (.int p2), .val (.int p3), .val (.int p4), .val (.int (4 : Int32)), .val (.ref b44), .val (.int u96_56), .unset, .unset] [(.ref b44)])) rfl (by rw [hml]; rfl) (argsL := [(.ref b44)]) (rest := []) (lenOf pd1 rfl) rfl (by show 2 * 0 + _ ≤ _; exact Nat.le_of_eq rfl) (hb hby at_100) (fun _ _ => ⟨rfl, e55, (Nat.le_of_ble_eq_true rfl), (Nat.le_of_ble_eq_true rfl)⟩)
    dsimp only [Pt.U, Pt.locs, Pt.cells, Pt.slots] at X57 l57 y57 z57 st57 hQ57
    subst l57 y57 z57
    obtain ⟨rfl, rfl, e57⟩ := hQ57
    have N57 := Fr.app N55 (Fr.nil _)
    refine OD.go (B := (T57.setTop (mkF m 103 #[.val (.int p0), .val (.int p1), .val (.int p2), .val (.int p3), .val (.int p4), .val (.int (4 : Int32)), .val (.ref b44), .val (.int u96_56), .unset, .unset] [(.double (Native.java_lang_Math.nans.pick64 true (Native.java_lang_Math.nans.pick64 true (Native.java_lang_Math.nans.pick64 true (Native.java_lang_Math.nans.pick64 true FP.dconst0 (FP.i2d p1)) (FP.i2d p2)) (FP.i2d p3)) (FP.i2d p4)))]))) st57 ?_
    refine OD.go (B := (T57.setTop (mkF m 105 #[.val (.int p0), .val (.int p1), .val (.int p2), .val (.int p3), .val (.int p4), .val (.int (4 : Int32)), .val (.ref b44), .val (.int u96_56), .val (.double (Native.java_lang_Math.nans.pick64 true (Native.java_lang_Math.nans.pick64 true (Native.java_lang_Math.nans.pick64 true (Native.java_lang_Math.nans.pick64 true FP.dconst0 (FP.i2d p1)) (FP.i2d p2)) (FP.i2d p3)) (FP.i2d p4))), .second] []))) (fun t k => XS.dstore X57.here hx rfl (hb hby at_103) rfl (l' := #[.val (.int p0), .val (.int p1), .val (.int p2), .val (.int p3), .val (.int p4), .val (.int (4 : Int32)), .val (.ref b44), .val (.int u96_56), .val (.double (Native.java_lang_Math.nans.pick64 true (Native.java_lang_Math.nans.pick64 true (Native.java_lang_Math.nans.pick64 true (Native.java_lang_Math.nans.pick64 true FP.dconst0 (FP.i2d p1)) (FP.i2d p2)) (FP.i2d p3)) (FP.i2d p4))), .second]) rfl k) ?_
    generalize hu103_58 : (Native.java_lang_Math.nans.pick64 true (Native.java_lang_Math.nans.pick64 true (Native.java_lang_Math.nans.pick64 true (Native.java_lang_Math.nans.pick64 true FP.dconst0 (FP.i2d p1)) (FP.i2d p2)) (FP.i2d p3)) (FP.i2d p4)) = u103_58
    refine OD.go (B := (T57.setTop (mkF m 107 #[.val (.int p0), .val (.int p1), .val (.int p2), .val (.int p3), .val (.int p4), .val (.int (4 : Int32)), .val (.ref b44), .val (.int u96_56), .val (.double u103_58), .second] [(.double u103_58)]))) (fun t k => XS.dload X57.here hx rfl (hb hby at_105) rfl k) ?_
    refine OD.go (B := (T57.setTop (mkF m 109 #[.val (.int p0), .val (.int p1), .val (.int p2), .val (.int p3), .val (.int p4), .val (.int (4 : Int32)), .val (.ref b44), .val (.int u96_56), .val (.double u103_58), .second] [(.int u96_56), (.double u103_58)]))) (fun t k => XS.iload X57.here hx rfl (hb hby at_107) rfl k) ?_
    refine OD.go (B := (T57.setTop (mkF m 110 #[.val (.int p0), .val (.int p1), .val (.int p2), .val (.int p3), .val (.int p4), .val (.int (4 : Int32)), .val (.ref b44), .val (.int u96_56), .val (.double u103_58), .second] [(.double (FP.i2d u96_56)), (.double u103_58)]))) (fun t k => XS.i2dS X57.here hx rfl (hb hby at_109) rfl (v := (FP.i2d u96_56)) rfl k) ?_
    refine OD.go (B := (T57.setTop (mkF m 111 #[.val (.int p0), .val (.int p1), .val (.int p2), .val (.int p3), .val (.int p4), .val (.int (4 : Int32)), .val (.ref b44), .val (.int u96_56), .val (.double u103_58), .second] [(.int (cmpValue (FP.dcmp u103_58 (FP.i2d u96_56)) .l))]))) (fun t k => XS.dcmpS X57.here hx rfl (hb hby at_110) rfl (v := (cmpValue (FP.dcmp u103_58 (FP.i2d u96_56)) .l)) rfl k) ?_
    obtain ⟨v119_59, hv119_59⟩ : ∃ z : Int32, z = (if (cmpValue (FP.dcmp u103_58 (FP.i2d u96_56)) .l) = (0 : Int32) then (1 : Int32) else (0 : Int32)) := ⟨_, rfl⟩
    refine OD.cut (B := (T57.setTop (mkF m 119 #[.val (.int p0), .val (.int p1), .val (.int p2), .val (.int p3), .val (.int p4), .val (.int (4 : Int32)), .val (.ref b44), .val (.int u96_56), .val (.double u103_58), .second] [(.int v119_59)]))) (fun J119_60 => ?_) ?_
    · skip
      by_cases c111_61 : (cmpValue (FP.dcmp u103_58 (FP.i2d u96_56)) .l) = (0 : Int32)
      · refine OD.go (B := (T57.setTop (mkF m 114 #[.val (.int p0), .val (.int p1), .val (.int p2), .val (.int p3), .val (.int p4), .val (.int (4 : Int32)), .val (.ref b44), .val (.int u96_56), .val (.double u103_58), .second] []))) (fun t k => XS.ifNo X57.here hx rfl (hb hby at_111) rfl (by rw [if0]; exact (teq c111_61).2) k) ?_
        refine OD.go (B := (T57.setTop (mkF m 115 #[.val (.int p0), .val (.int p1), .val (.int p2), .val (.int p3), .val (.int p4), .val (.int (4 : Int32)), .val (.ref b44), .val (.int u96_56), .val (.double u103_58), .second] [(.int (1 : Int32))]))) (fun t k => XS.iconst X57.here hx rfl (hb hby at_114) k) ?_
        refine OD.go (B := (T57.setTop (mkF m 119 #[.val (.int p0), .val (.int p1), .val (.int p2), .val (.int p3), .val (.int p4), .val (.int (4 : Int32)), .val (.ref b44), .val (.int u96_56), .val (.double u103_58), .second] [(.int (1 : Int32))]))) (fun t k => XS.goto X57.here hx rfl (pc0 := 115) (pc' := 119) rfl (hb hby at_115) (by decide) (by decide) k) ?_
        rw [if_pos c111_61] at hv119_59
        rw [hv119_59] at J119_60
        exact J119_60
      · refine OD.go (B := (T57.setTop (mkF m 118 #[.val (.int p0), .val (.int p1), .val (.int p2), .val (.int p3), .val (.int p4), .val (.int (4 : Int32)), .val (.ref b44), .val (.int u96_56), .val (.double u103_58), .second] []))) (fun t k => XS.ifYes X57.here hx rfl (pc0 := 111) (pc' := 118) rfl (hb hby at_111) rfl (by rw [if0]; exact (feq c111_61).2) (by decide) (by decide) k) ?_
        refine OD.go (B := (T57.setTop (mkF m 119 #[.val (.int p0), .val (.int p1), .val (.int p2), .val (.int p3), .val (.int p4), .val (.int (4 : Int32)), .val (.ref b44), .val (.int u96_56), .val (.double u103_58), .second] [(.int (0 : Int32))]))) (fun t k => XS.iconst X57.here hx rfl (hb hby at_118) k) ?_
        rw [if_neg c111_61] at hv119_59
        rw [hv119_59] at J119_60
        exact J119_60
    have fin : v119_59 = 1 := by
      rw [hv119_59, if_pos]
      subst hu34_47
      subst hu54_50
      subst hu74_53
      subst hu96_56
      subst hu103_58
      rw [own_d0]
      try simp only [own_pick]
      exact dcmpV_self (Fl.i2d_fin _).noNaN _
    rw [fin]
    exact OD.ret X57 hx hlk (t := .boolean) Bd.returns rfl (Or.inl ⟨rfl, Or.inr (Or.inl rfl), _, rfl⟩) (hb hby at_119) (Nat.le_of_ble_eq_true rfl) (Nat.le_of_ble_eq_true rfl) ⟨rfl, N57⟩
set_option maxRecDepth 65536 in
set_option maxHeartbeats 40000000 in
theorem comes_1 {Post : Tables → Env → Array Value → State → Outcome → State → Prop} (hpost : ∀ tb e args s v u, (limb_1_1.after args s (.returned v) u = true ∧ limb_1_2.after args s (.returned v) u = true ∧ True) → FrameEnd s (.returned v) u (Jvm.fieldLocs frame_1_writes args s ++ Jvm.arrayLocs frame_1_arrays args s ++ Jvm.staticLocs frame_1_statics s) 16 128 → Post tb e args s (.returned v) u) :
    ArmFor flags0 classFile x code maxLocals ret World_1 tables_1 room_1 Calls_1 rest_1 Pre_1 Post := by
  intro l hfl _ _ p e ha hc hk s m args below hf hA hF happ hP
  obtain ⟨hcalls, hrest, hpre⟩ := hP
  obtain ⟨-, -, -, hnamed, -, -, -, hat⟩ := (Spec.applies_iff hf).mp happ
  obtain ⟨hg, hn⟩ := and_e (Cond.before_iff.mp (show (Jvm.Cond.and given_1 narrow_1).before args s = true from hpre))
  obtain ⟨hg0, hr0⟩ := and_e hg
  obtain ⟨hg1, hr1⟩ := and_e hr0
  obtain ⟨hg2, hr2⟩ := and_e hr1
  obtain ⟨hg3, hr3⟩ := and_e hr2
  obtain ⟨hg4, hr4⟩ := and_e hr3
  obtain ⟨w0, w1, w2, w3, w4, rfl⟩ : ∃ w0 w1 w2 w3 w4 : Value, args = #[w0, w1, w2, w3, w4] := by
    have hs : args.size = 5 := by simpa [Cond.value, given_1] using hg0
    obtain ⟨L⟩ := args
    match L, hs with
    | [w0, w1, w2, w3, w4], _ => exact ⟨w0, w1, w2, w3, w4, rfl⟩
  have hw := fun d (hd : d ∈ tables_1) => atoms_spec (ws := Jvm.Cond.code x code maxLocals ret :: tables_1) hat d (List.mem_cons_of_mem _ hd)
  obtain ⟨i0, ei0⟩ := is_v hg1
  obtain rfl : w0 = (.int i0) := Option.some.inj ei0
  obtain ⟨i1, ei1⟩ := is_v hg2
  obtain rfl : w1 = (.int i1) := Option.some.inj ei1
  obtain ⟨i2, ei2⟩ := is_v hg3
  obtain rfl : w2 = (.int i2) := Option.some.inj ei2
  obtain ⟨i3, ei3⟩ := is_v hg4
  obtain rfl : w3 = (.int i3) := Option.some.inj ei3
  obtain ⟨i4, ei4⟩ := is_v hr4
  obtain rfl : w4 = (.int i4) := Option.some.inj ei4
  obtain ⟨n, o, h1, h2, h3, _, L, rfl, ⟨rfl, N⟩, hq⟩ := rm0 l s _ hw tables_1 i0 i1 i2 i3 i4 s.heap  p e ha hc hk s m _ below hf ((Spec.applies_iff_loose hf).mp happ).1 ⟨rfl, State.Warmed39.refl s, rfl⟩ trivial
  refine ⟨n, _, h1, h2, h3, hpost _ _ _ _ _ _ ⟨Cond.after_iff.mpr rfl, Cond.after_iff.mpr (eq_i res_at (Term.int_eval (1)) rfl), trivial⟩ ⟨hq.1, hq.2.1, (hq.2.2.sift fun y hy => Or.inr (N y hy)).mono (by decide) (by decide)⟩⟩
theorem main_1_1 : Claimed_1_1 := comes_1 fun _ _ _ _ _ _ h hF => ⟨h.1, hF⟩
theorem main_1_2 : Claimed_1_2 := comes_1 fun _ _ _ _ _ _ h hF => ⟨h.2.1, hF⟩
end Jvm.Pilot.@@N@@
namespace Jvm.Pilot.@@N@@
open Jvm Jvm.ClassFile Sem Op Lib Jvm.Free Jvm.Stand Jvm.Pilot.@@N@@.Jvm.D
/-! MADE BY PROGRAM (witnessworld.py) out of the Statement's table words and the real class files: 12 classes; the members and pool entries that the words name. The judged class is class 1, her method 1. -/
namespace start1
open Jvm.ClassFile
def u (s : String) : CpInfo := .utf8 (stringToUtf16 s)
/-- a pool by its gaps: so many unusable entries, then the entry; so many at the end -/
def gap : Nat → List CpInfo → List CpInfo
  | 0, r => r
  | n + 1, r => .unusable :: gap n r
def poolList (es : List (Nat × CpInfo)) (last : Nat) : List CpInfo := es.foldr (fun e r => gap e.1 (e.2 :: r)) (gap last [])
def pool (es : List (Nat × CpInfo)) (last : Nat) : Array CpInfo := ⟨poolList es last⟩
def fileOf (pool : Array CpInfo) (this : Nat) (attrs : Array Attribute := #[]) (ms : Array MethodInfo := #[]) (fl : Nat := 33) (sup : Nat := 0) (ifs : Array Nat := #[]) (fds : Array FieldInfo := #[]) : ClassFile where
  minorVersion := 0
  majorVersion := 65
  constantPool := pool
  accessFlags := fl
  thisClass := this
  superClass := sup
  interfaces := ifs
  fields := fds
  methods := ms
  attributes := attrs
def plain (name : String) (sup : Option ClassId) : Class where
  name := name
  kind := .ordinary
  loader := none
  accessFlags := 33
  super := sup
  interfaces := #[]
  cf := none
  fields := #[]
  methods := #[]
  instanceTypes := #[]
  staticTypes := #[]
  resolved := #[]
  callSites := []
  init := .initialized
  statics := none
  mirror := none

def pool0 : Array CpInfo := pool [(5, u "<init>"), (0, u "()V"), (1, .class_ 10), (1, u "java/lang/Object")] 113

def k0m0 : Method := { name := "<init>", desc := "()V", sig := { parameters := [], returnType := none }, accessFlags := 1, code := none }
/-- java/lang/Object -/
def k0 : Class := { plain "java/lang/Object" none with
  accessFlags := 33
  interfaces := #[]
  cf := some (fileOf pool0 8 #[] #[{ accessFlags := 1, nameIndex := 5, descriptorIndex := 6, attributes := #[] }] 33 0 #[] #[])
  fields := #[]
  methods := #[k0m0]
  instanceTypes := #[]
  staticTypes := #[]
  resolved := Array.replicate 124 none
  statics := none }

def pool1 : Array CpInfo := pool [(2, .class_ 4), (1, u "java/lang/Object"), (0, u "<init>"), (0, u "()V"), (0, .integer 2147483647), (0, .methodref 9 10), (0, .class_ 11), (0, .nameAndType 12 13), (0, u "java/lang/Math"), (0, u "max"), (0, u "(II)I"), (0, .methodref 15 16), (0, .class_ 17), (0, .nameAndType 18 19), (0, u "com/example/querent/querent/ScoreScale"), (0, u "highest"), (0, u "([D)D"), (0, .class_ 21), (0, u "com/example/querent/querent/ScoreScaleHighestPinLaw"), (2, u "law"), (0, u "(IIIII)Z")] 5

def k1m0 : Method := { name := "<init>", desc := "()V", sig := { parameters := [], returnType := none }, accessFlags := 2, code := none }
def k1c1 : Code := { maxStack := 4, maxLocals := 10, code := code, exceptionTable := #[], attributes := #[] }
def k1m1 : Method := { name := "law", desc := "(IIIII)Z", sig := { parameters := [.int, .int, .int, .int, .int], returnType := some .boolean }, accessFlags := 9, code := some k1c1 }
/-- com/example/querent/querent/ScoreScaleHighestPinLaw -/
def k1 : Class := { plain "com/example/querent/querent/ScoreScaleHighestPinLaw" (some 0) with
  accessFlags := 49
  interfaces := #[]
  cf := some (fileOf pool1 20 #[] #[{ accessFlags := 2, nameIndex := 5, descriptorIndex := 6, attributes := #[] }, { accessFlags := 9, nameIndex := 24, descriptorIndex := 25, attributes := #[] }] 49 2 #[] #[])
  fields := #[]
  methods := #[k1m0, k1m1]
  instanceTypes := #[]
  staticTypes := #[]
  resolved := Array.replicate 31 none
  statics := none }

def pool2 : Array CpInfo := pool [(2, .class_ 4), (1, u "java/lang/Object"), (0, u "<init>"), (0, u "()V"), (0, .methodref 8 9), (0, .class_ 10), (0, .nameAndType 11 12), (0, u "java/lang/Math"), (0, u "max"), (0, u "(DD)D"), (1, .class_ 16), (1, u "com/example/querent/querent/ScoreScale"), (0, u "highest"), (0, u "([D)D")] 17

def k2m0 : Method := { name := "<init>", desc := "()V", sig := { parameters := [], returnType := none }, accessFlags := 2, code := none }
def k2c1 : Code := { maxStack := 4, maxLocals := 8, code := prog_8_method_2_code, exceptionTable := #[], attributes := #[] }
def k2m1 : Method := { name := "highest", desc := "([D)D", sig := { parameters := [(.array .double)], returnType := some .double }, accessFlags := 9, code := some k2c1 }
/-- com/example/querent/querent/ScoreScale -/
def k2 : Class := { plain "com/example/querent/querent/ScoreScale" (some 0) with
  accessFlags := 49
  interfaces := #[]
  cf := some (fileOf pool2 14 #[] #[{ accessFlags := 2, nameIndex := 5, descriptorIndex := 6, attributes := #[] }, { accessFlags := 9, nameIndex := 17, descriptorIndex := 18, attributes := #[] }] 49 2 #[] #[])
  fields := #[]
  methods := #[k2m0, k2m1]
  instanceTypes := #[]
  staticTypes := #[]
  resolved := Array.replicate 36 none
  statics := none }

def pool3 : Array CpInfo := pool [(1, .class_ 2), (0, u "java/lang/Math"), (1, .class_ 6), (1, u "java/lang/Object"), (0, u "<init>"), (0, u "()V"), (43, u "(DD)D"), (45, .class_ 100), (1, u "java/lang/Math$RandomNumberGeneratorHolder"), (71, u "negativeZeroFloatBits"), (0, u "J"), (2, u "negativeZeroDoubleBits"), (21, u "max"), (46, u "$assertionsDisabled"), (0, u "Z"), (88, u "(II)I"), (2, u "twoToTheDoubleScaleDown"), (0, u "D"), (4, u "twoToTheDoubleScaleUp"), (9, u "E"), (3, u "PI"), (2, u "TAU"), (2, u "DEGREES_TO_RADIANS"), (0, u "RADIANS_TO_DEGREES")] 94

def k3m0 : Method := { name := "<init>", desc := "()V", sig := { parameters := [], returnType := none }, accessFlags := 2, code := none }
def k3c1 : Code := { maxStack := 2, maxLocals := 2, code := jdk_29_method_65_code, exceptionTable := #[], attributes := #[] }
def k3m1 : Method := { name := "max", desc := "(II)I", sig := { parameters := [.int, .int], returnType := some .int }, accessFlags := 9, code := some k3c1 }
def k3c2 : Code := { maxStack := 4, maxLocals := 4, code := jdk_29_method_68_code, exceptionTable := #[], attributes := #[] }
def k3m2 : Method := { name := "max", desc := "(DD)D", sig := { parameters := [.double, .double], returnType := some .double }, accessFlags := 9, code := some k3c2 }
/-- java/lang/Math -/
def k3 : Class := { plain "java/lang/Math" (some 0) with
  accessFlags := 49
  interfaces := #[]
  cf := some (fileOf pool3 1 #[.nestMembers #[98]] #[{ accessFlags := 2, nameIndex := 7, descriptorIndex := 8, attributes := #[] }, { accessFlags := 9, nameIndex := 198, descriptorIndex := 335, attributes := #[] }, { accessFlags := 9, nameIndex := 198, descriptorIndex := 52, attributes := #[] }] 49 4 #[] #[{ accessFlags := 25, nameIndex := 354, descriptorIndex := 339, attributes := #[] }, { accessFlags := 25, nameIndex := 358, descriptorIndex := 339, attributes := #[] }, { accessFlags := 25, nameIndex := 361, descriptorIndex := 339, attributes := #[] }, { accessFlags := 26, nameIndex := 364, descriptorIndex := 339, attributes := #[] }, { accessFlags := 26, nameIndex := 365, descriptorIndex := 339, attributes := #[] }, { accessFlags := 26, nameIndex := 172, descriptorIndex := 173, attributes := #[] }, { accessFlags := 26, nameIndex := 176, descriptorIndex := 173, attributes := #[] }, { accessFlags := 8, nameIndex := 344, descriptorIndex := 339, attributes := #[] }, { accessFlags := 8, nameIndex := 338, descriptorIndex := 339, attributes := #[] }, { accessFlags := 4120, nameIndex := 245, descriptorIndex := 246, attributes := #[] }])
  fields := #[{ name := "E", type := .double, accessFlags := 25, slot := 0, constantValue := 0 }, { name := "PI", type := .double, accessFlags := 25, slot := 1, constantValue := 0 }, { name := "TAU", type := .double, accessFlags := 25, slot := 2, constantValue := 0 }, { name := "DEGREES_TO_RADIANS", type := .double, accessFlags := 26, slot := 3, constantValue := 0 }, { name := "RADIANS_TO_DEGREES", type := .double, accessFlags := 26, slot := 4, constantValue := 0 }, { name := "negativeZeroFloatBits", type := .long, accessFlags := 26, slot := 5, constantValue := 0 }, { name := "negativeZeroDoubleBits", type := .long, accessFlags := 26, slot := 6, constantValue := 0 }, { name := "twoToTheDoubleScaleUp", type := .double, accessFlags := 8, slot := 7, constantValue := 0 }, { name := "twoToTheDoubleScaleDown", type := .double, accessFlags := 8, slot := 8, constantValue := 0 }, { name := "$assertionsDisabled", type := .boolean, accessFlags := 4120, slot := 9, constantValue := 0 }]
  methods := #[k3m0, k3m1, k3m2]
  instanceTypes := #[]
  staticTypes := #[.double, .double, .double, .double, .double, .long, .long, .double, .double, .boolean]
  resolved := Array.replicate 460 none
  statics := none }

def pool4 : Array CpInfo := pool [(1, u "java/lang/Cloneable"), (0, .class_ 1), (0, u "java/lang/Object"), (0, .class_ 3)] 3

/-- java/lang/Cloneable -/
def k4 : Class := { plain "java/lang/Cloneable" (some 0) with
  accessFlags := 1537
  interfaces := #[]
  cf := some (fileOf pool4 2 #[] #[] 1537 4 #[] #[])
  fields := #[]
  methods := #[]
  instanceTypes := #[]
  staticTypes := #[]
  resolved := Array.replicate 8 none
  statics := none }

def pool5 : Array CpInfo := pool [(1, u "java/io/Serializable"), (0, .class_ 1), (0, u "java/lang/Object"), (0, .class_ 3)] 3

/-- java/io/Serializable -/
def k5 : Class := { plain "java/io/Serializable" (some 0) with
  accessFlags := 1537
  interfaces := #[]
  cf := some (fileOf pool5 2 #[] #[] 1537 4 #[] #[])
  fields := #[]
  methods := #[]
  instanceTypes := #[]
  staticTypes := #[]
  resolved := Array.replicate 8 none
  statics := none }

/-- the primitive byte -/
def k6 : Class := { plain "byte" none with kind := .primitive 'B', accessFlags := 0x411 }
/-- [B -/
def k7 : Class := { plain "[B" (some 0) with kind := .array 6 .byte, interfaces := #[4, 5], accessFlags := 1041 }

/-- the primitive double -/
def k8 : Class := { plain "double" none with kind := .primitive 'D', accessFlags := 0x411 }
/-- [D -/
def k9 : Class := { plain "[D" (some 0) with kind := .array 8 .double, interfaces := #[4, 5], accessFlags := 1041 }

/-- the primitive int -/
def k10 : Class := { plain "int" none with kind := .primitive 'I', accessFlags := 0x411 }
/-- [I -/
def k11 : Class := { plain "[I" (some 0) with kind := .array 10 .int, interfaces := #[4, 5], accessFlags := 1041 }

def heap : Heap := #[]
def classes : Array Class := #[k0, k1, k2, k3, k4, k5, k6, k7, k8, k9, k10, k11]
def interned : List (Array UInt16 × Addr) := []
def slotsUsed : Nat := 0
def theMethod : MethodId := ⟨1, 1⟩
def args0 : Array Value := #[.int 3, .int 7, .int 1, .int 9, .int 2]
def aboutOver (below : List Frame) : State where
  vm := { classes := classes, interned := interned.toArray }
  heap := heap
  slotsUsed := slotsUsed
  threads := #[{ frames := .invoking theMethod args0 :: below }]
def below0 : List Frame := [.native { method := ⟨0, 0⟩, args := #[] }]
def about1 : State := aboutOver below0
def p0 : Program := .bare "" "" ""
def e0 : Env := launch0.env 0 0 0
theorem w_frames : about1.frames = Frame.invoking theMethod args0 :: below0 := rfl
set_option maxRecDepth 65536 in
theorem w_args : argsFit about1.vm theMethod args0 = true := by decide +kernel
set_option maxRecDepth 65536 in
theorem w_heap : heapFits about1 = true := by decide +kernel
set_option maxRecDepth 65536 in
theorem w_runnable : about1.curStatus? = some .runnable := by decide +kernel
set_option maxRecDepth 65536 in
theorem w_alone : about1.alone = true := by decide +kernel
set_option maxRecDepth 65536 in
theorem w_named : about1.methodNamed? x = some theMethod := by decide +kernel
set_option maxRecDepth 65536 in
theorem w_hears : about1.hears theMethod below0 = true := by decide +kernel
set_option maxRecDepth 65536 in
theorem w_ripe : about1.ripe theMethod args0 below0 = true := by decide +kernel
theorem w_running : about1.status = .running := rfl
set_option maxRecDepth 65536 in
theorem w_room : about1.hasRoom e0.platform room_1 = true :=
  launch0.hasRoom_least _ room_1 (by decide +kernel) (by decide +kernel) (by decide +kernel) (by decide +kernel) (by decide +kernel) (by decide +kernel)
theorem allAtoms_all (ts : List Jvm.Cond) (a : Array Jvm.Value) (st : Jvm.State) : (allAtoms ts).before a st = ts.all (fun c => c.before a st) := by
  induction ts with
  | nil => rfl
  | cons c t ih =>
    show (Jvm.Cond.and c (allAtoms t)).before a st = _
    rw [Jvm.Cond.before_and, ih, List.all_cons]
def words1 : List Jvm.Cond := Jvm.Cond.code x code maxLocals ret :: tables_1
/-- a 'code' word, met by the world's own term for the bytes: nothing is compared byte by byte -/
theorem code_word {y : MethodName} {bytes : ByteArray} {mx : Nat} {rt : Option FieldType} {a : Array Value} {s : State} {m : MethodId} {meth : Method} {c : Code} (h1 : s.methodNamed? y = some m) (h2 : s.vm.method? m = some meth) (h3 : meth.code = some c) (h4 : c.code = bytes)
    (h5 : (c.maxLocals == mx && c.exceptionTable.isEmpty && decide (c.maxStack ≤ mostOperands) && decide (meth.sig.returnType = rt) && !meth.locks && decide (parseMethodDescriptor y.desc = some meth.sig)) = true) : (Jvm.Cond.code y bytes mx rt).before a s = true := by
  simp only [Bool.and_eq_true, beq_iff_eq, Bool.not_eq_true', decide_eq_true_eq] at h5
  obtain ⟨⟨⟨⟨⟨g1, g2⟩, g3⟩, g4⟩, g5⟩, g6⟩ := h5
  simp [Cond.before, Cond.holds, Cond.value, h1, h2, h3, h4, g1, g2, g3, g4, g5, g6]
def isCode : Jvm.Cond → Bool
  | .code _ _ _ _ => true
  | _ => false
theorem all_split {L : List Jvm.Cond} {P : Jvm.Cond → Bool} (h1 : L.all (fun c => isCode c || P c) = true) (h2 : ∀ c ∈ L.filter isCode, P c = true) : L.all P = true := by
  refine List.all_eq_true.mpr fun c hc => ?_
  have h := List.all_eq_true.mp h1 c hc
  rcases Bool.eq_false_or_eq_true (isCode c) with hi | hi
  · exact h2 c (List.mem_filter.mpr ⟨hc, hi⟩)
  · simpa [hi] using h
set_option maxRecDepth 65536 in
theorem w_c0 : (Jvm.Cond.code x code maxLocals ret).before args0 about1 = true := code_word (m := ⟨1, 1⟩) (meth := k1m1) (c := k1c1) (by decide +kernel) rfl rfl rfl (by decide +kernel)
set_option maxRecDepth 65536 in
theorem w_c1 : (Jvm.Cond.code ({ cls := "com/example/querent/querent/ScoreScale", name := "highest", desc := "([D)D" } : Jvm.MethodName) prog_8_method_2_code (8 : Nat) (Option.some Jvm.ClassFile.FieldType.double)).before args0 about1 = true := code_word (m := ⟨2, 1⟩) (meth := k2m1) (c := k2c1) (by decide +kernel) rfl rfl rfl (by decide +kernel)
set_option maxRecDepth 65536 in
theorem w_c2 : (Jvm.Cond.code ({ cls := "java/lang/Math", name := "max", desc := "(II)I" } : Jvm.MethodName) jdk_29_method_65_code (2 : Nat) (Option.some Jvm.ClassFile.FieldType.int)).before args0 about1 = true := code_word (m := ⟨3, 1⟩) (meth := k3m1) (c := k3c1) (by decide +kernel) rfl rfl rfl (by decide +kernel)
set_option maxRecDepth 65536 in
theorem w_c3 : (Jvm.Cond.code ({ cls := "java/lang/Math", name := "max", desc := "(DD)D" } : Jvm.MethodName) jdk_29_method_68_code (4 : Nat) (Option.some Jvm.ClassFile.FieldType.double)).before args0 about1 = true := code_word (m := ⟨3, 2⟩) (meth := k3m2) (c := k3c2) (by decide +kernel) rfl rfl rfl (by decide +kernel)
def codes1 : List Jvm.Cond := [Jvm.Cond.code x code maxLocals ret, Jvm.Cond.code ({ cls := "com/example/querent/querent/ScoreScale", name := "highest", desc := "([D)D" } : Jvm.MethodName) prog_8_method_2_code (8 : Nat) (Option.some Jvm.ClassFile.FieldType.double), Jvm.Cond.code ({ cls := "java/lang/Math", name := "max", desc := "(II)I" } : Jvm.MethodName) jdk_29_method_65_code (2 : Nat) (Option.some Jvm.ClassFile.FieldType.int), Jvm.Cond.code ({ cls := "java/lang/Math", name := "max", desc := "(DD)D" } : Jvm.MethodName) jdk_29_method_68_code (4 : Nat) (Option.some Jvm.ClassFile.FieldType.double)]
set_option maxRecDepth 65536 in
theorem codes_eq : words1.filter isCode = codes1 := rfl
theorem w_codes : ∀ c ∈ words1.filter isCode, c.before args0 about1 = true := by
  rw [codes_eq]
  intro c hc
  simp only [codes1, List.mem_cons, List.not_mem_nil, or_false] at hc
  rcases hc with rfl | rfl | rfl | rfl
  · exact w_c0
  · exact w_c1
  · exact w_c2
  · exact w_c3
set_option maxRecDepth 65536 in
theorem w_t1 : words1.all (fun c => isCode c || c.before args0 about1) = true := by decide +kernel
theorem w_tables : (allAtoms (Jvm.Cond.code x code maxLocals ret :: tables_1)).before args0 about1 = true := by
  rw [allAtoms_all]
  show words1.all (fun c => c.before args0 about1) = true
  refine all_split ?_ w_codes
  rw [w_t1]
set_option maxRecDepth 65536 in
theorem w_case : (Jvm.Cond.and given_1 narrow_1).before args0 about1 = true := by decide +kernel
theorem w_applies : (headSpec (Jvm.Cond.code x code maxLocals ret :: tables_1) room_1).applies x e0.platform about1 = true :=
  (Spec.applies_iff w_frames).mpr ⟨w_running, w_runnable, w_alone, w_named, w_hears, w_ripe, w_room, w_tables⟩
theorem atStart : AtStart classFile x code maxLocals ret World_1 tables_1 room_1 Calls_1 rest_1 Pre_1 launch0 p0 e0 about1 theMethod args0 below0 :=
  ⟨lists_1, trivial, launch0.admits_env _ _ _, launch0.least_env, fairChoices_fair.cas, fairChoices_fair.clock, w_frames, w_args, w_heap, w_applies, trivial, trivial, w_case⟩
end start1
theorem witness_1 : WitnessClaimed_1 := ⟨start1.p0, start1.e0, start1.about1, start1.theMethod, start1.args0, start1.below0, start1.atStart⟩
end Jvm.Pilot.@@N@@
