import JvmDerived
import JvmDerived.Pilot.@@N@@Statement
import JvmDerived.Pilot.@@N@@Code
set_option linter.unusedVariables false
set_option linter.unusedSimpArgs false
namespace Jvm.Pilot.@@N@@
open Jvm Jvm.ClassFile Sem Op Lib Jvm.Free Jvm.Stand Jvm.LawKit Jvm.RoadKit Bundle Jvm.Pilot.@@N@@.Jvm.D

section OwnKit
variable {p : Program} {l : Launch} {e : Env} {R : Room} {s : State} {m : MethodId} {args : Array Value} {below : List Frame} {meth : Method} {c : Code} {T : State} {locs : List Loc} {cells slots : Nat}
/-- from A the invocation ends, and what it leaves is Q, within K cells and N slots -/
def OD (p : Program) (e : Env) (s : State) (below : List Frame) (Q : Option Value → Heap → List Loc → Prop) (K N : Nat) (A : State) : Prop :=
  ∃ s₂ o, Steps p.tables e below A s₂ ∧ s₂.status = .running ∧ Ended s₂ below o ∧ ∃ v L, o = .returned v ∧ Q v s₂.heap L ∧ FrameEnd s o s₂ L K N
theorem OD.go {Q : Option Value → Heap → List Loc → Prop} {K N : Nat} {A B : State} (h : ∀ t, Steps p.tables e below B t → Steps p.tables e below A t) (k : OD p e s below Q K N B) : OD p e s below Q K N A := by
  obtain ⟨s₂, o, h1, r⟩ := k
  exact ⟨s₂, o, h _ h1, r⟩
theorem OD.via {Q : Option Value → Heap → List Loc → Prop} {K N : Nat} {A B : State} (h : Steps p.tables e below A B) (k : OD p e s below Q K N B) : OD p e s below Q K N A := OD.go (fun _ q => h.trans q) k
theorem OD.cut {Q : Option Value → Heap → List Loc → Prop} {K N : Nat} {A B : State} (f : OD p e s below Q K N B → OD p e s below Q K N A) (g : OD p e s below Q K N B) : OD p e s below Q K N A := f g
theorem OD.cutA {Q : Option Value → Heap → List Loc → Prop} {K N : Nat} {A : State} {P : State → Prop} {B : State → State} (f : (∀ T, P T → OD p e s below Q K N (B T)) → OD p e s below Q K N A) (g : ∀ T, P T → OD p e s below Q K N (B T)) : OD p e s below Q K N A := f g
theorem OD.ret {Q : Option Value → Heap → List Loc → Prop} {K N : Nat} (X : Stand p l e R s m args below meth c T locs cells slots) (hx : p.tables.exec = Jvm.exec) (hlk : meth.locks = false) {pc : Nat} {Ls : Array Slot} {w : Value} {t : FieldType} {i : Instr} {rest : List Value} (hret : meth.sig.returnType = some t) (hn : narrow t w = w)
    (hi : (i = .ireturn ∧ (t = .int ∨ t = .boolean ∨ t = .byte ∨ t = .char ∨ t = .short) ∧ ∃ z, w = .int z) ∨ (i = .lreturn ∧ t = .long ∧ ∃ z, w = .long z) ∨ (i = .dreturn ∧ t = .double ∧ ∃ z, w = .double z) ∨ (i = .freturn ∧ t = .float ∧ ∃ z, w = .float z) ∨ (i = .areturn ∧ t.isReference = true ∧ w.isRef = true))
    (hd : decode c.code pc = .ok (i, 1)) (hk : cells ≤ K) (hs : slots ≤ N) (hQ : Q (some w) T.heap locs) : OD p e s below Q K N (T.setTop (mkF m pc Ls (w :: rest))) := by
  obtain ⟨fs, hr, hrun, hended, hW, hsame⟩ := X.leave (v := some w) (fun h => by rw [hret] at h; cases h) hlk
  exact ⟨_, _, retOut X hx hret hn hi hd hr, hrun, hended, _, _, rfl, hQ, ⟨_, rfl⟩, hW, hsame.mono hk hs⟩
theorem OD.retV {Q : Option Value → Heap → List Loc → Prop} {K N : Nat} (X : Stand p l e R s m args below meth c T locs cells slots) (hx : p.tables.exec = Jvm.exec) (hlk : meth.locks = false) {pc : Nat} {Ls : Array Slot} (hret : meth.sig.returnType = none)
    (hd : decode c.code pc = .ok (.return_, 1)) (hk : cells ≤ K) (hs : slots ≤ N) (hQ : Q none T.heap locs) : OD p e s below Q K N (T.setTop (mkF m pc Ls [])) := by
  obtain ⟨fs, hr, hrun, hended, hW, hsame⟩ := X.leave (v := none) (fun _ => rfl) hlk
  exact ⟨_, _, X.returnOut hx hret hd hr, hrun, hended, _, _, rfl, hQ, ⟨_, rfl⟩, hW, hsame.mono hk hs⟩
theorem own_len {Z : State} {h : Heap} {a : Addr} {k : ClassId} {ty : FieldType} {z : Int32} {vs : List Value} {dv : Value} (F : Arv Z h a k ty z vs dv) : ∃ cl : Cell, Arr Z h a cl ty ∧ cl.slots.size.toInt32 = z := by
  obtain ⟨cl, A, -, S, M, -⟩ := F
  exact ⟨cl, A, len_of S M⟩
theorem own_at {Z : State} {h : Heap} {a : Addr} {k : ClassId} {ty : FieldType} {z j : Int32} {vs : List Value} {dv v : Value} (F : Arv Z h a k ty z vs dv) (q : ¬ j < 0 ∧ j < z) (u : vs.getD j.toNatClampNeg dv = v) : ∃ cl : Cell, Arr Z h a cl ty ∧ ¬ (j < 0 ∨ cl.slots.size ≤ j.toNatClampNeg) ∧ cl.slots[j.toNatClampNeg]? = some v := by
  obtain ⟨cl, A, -, S, M, H, -⟩ := F
  exact ⟨cl, A, inb_of S q, H.at (inb_of S q) u⟩
end OwnKit
def own_sign (x0 : Int32) : Int32 := if (0 : Int32) < x0 then 1 else if x0 < (0 : Int32) then (-1) else 0
def own_hf (x0 x1 : UInt64) : Int32 := (if (0 : Int32) < (cmpValue (FP.dcmp x0 x1) .l) then (-1 : Int32) else (if (cmpValue (FP.dcmp x0 x1) .g) < (0 : Int32) then (1 : Int32) else (0 : Int32)))
theorem ef0 (m : MethodId) (x0 : Int32) : entryFrame m #[(.int x0)] 1 = mkF m 0 #[.val (.int x0)] [] := by first | (simp [entryFrame, mkF, argsToLocals, Value.category]; done) | rfl
theorem pn0 : plainName "com/example/querent/querent/trec/ScoredDocumentHigherFirstPinLaw" = true := by first | (simp [plainName, overriddenIn]; done) | decide +kernel
theorem d2_0 : decode method_2_code 0 = .ok (.iload_n 0, 1) := by decide +kernel
theorem d2_1 : decode method_2_code 1 = .ok (.ifCond .le 5, 3) := by decide +kernel
theorem d2_4 : decode method_2_code 4 = .ok (.iconst 1, 1) := by decide +kernel
theorem d2_5 : decode method_2_code 5 = .ok (.ireturn, 1) := by decide +kernel
theorem d2_6 : decode method_2_code 6 = .ok (.iload_n 0, 1) := by decide +kernel
theorem d2_7 : decode method_2_code 7 = .ok (.ifCond .ge 5, 3) := by decide +kernel
theorem d2_10 : decode method_2_code 10 = .ok (.iconst (-1), 1) := by decide +kernel
theorem d2_11 : decode method_2_code 11 = .ok (.ireturn, 1) := by decide +kernel
theorem d2_12 : decode method_2_code 12 = .ok (.iconst 0, 1) := by decide +kernel
theorem d2_13 : decode method_2_code 13 = .ok (.ireturn, 1) := by decide +kernel
theorem ef1 (m : MethodId) (x0 : UInt64) (x1 : UInt64) : entryFrame m #[(.double x0), (.double x1)] 5 = mkF m 0 #[.val (.double x0), .second, .val (.double x1), .second, .unset] [] := by first | (simp [entryFrame, mkF, argsToLocals, Value.category]; done) | rfl
theorem pn1 : plainName "com/example/querent/querent/trec/ScoredDocument" = true := by first | (simp [plainName, overriddenIn]; done) | decide +kernel
theorem d1_0 : decode prog_42_method_3_code 0 = .ok (.iconst 0, 1) := by decide +kernel
theorem d1_1 : decode prog_42_method_3_code 1 = .ok (.istore 4, 2) := by decide +kernel
theorem d1_3 : decode prog_42_method_3_code 3 = .ok (.dload_n 0, 1) := by decide +kernel
theorem d1_4 : decode prog_42_method_3_code 4 = .ok (.dload_n 2, 1) := by decide +kernel
theorem d1_5 : decode prog_42_method_3_code 5 = .ok (.dcmp .l, 1) := by decide +kernel
theorem d1_6 : decode prog_42_method_3_code 6 = .ok (.ifCond .le 9, 3) := by decide +kernel
theorem d1_9 : decode prog_42_method_3_code 9 = .ok (.iconst (-1), 1) := by decide +kernel
theorem d1_10 : decode prog_42_method_3_code 10 = .ok (.istore 4, 2) := by decide +kernel
theorem d1_12 : decode prog_42_method_3_code 12 = .ok (.goto 12, 3) := by decide +kernel
theorem d1_15 : decode prog_42_method_3_code 15 = .ok (.dload_n 0, 1) := by decide +kernel
theorem d1_16 : decode prog_42_method_3_code 16 = .ok (.dload_n 2, 1) := by decide +kernel
theorem d1_17 : decode prog_42_method_3_code 17 = .ok (.dcmp .g, 1) := by decide +kernel
theorem d1_18 : decode prog_42_method_3_code 18 = .ok (.ifCond .ge 6, 3) := by decide +kernel
theorem d1_21 : decode prog_42_method_3_code 21 = .ok (.iconst 1, 1) := by decide +kernel
theorem d1_22 : decode prog_42_method_3_code 22 = .ok (.istore 4, 2) := by decide +kernel
theorem d1_24 : decode prog_42_method_3_code 24 = .ok (.iload 4, 2) := by decide +kernel
theorem d1_26 : decode prog_42_method_3_code 26 = .ok (.ireturn, 1) := by decide +kernel
theorem ef2 (m : MethodId) (x0 : Int32) (x1 : Int32) (x2 : Int32) : entryFrame m #[(.int x0), (.int x1), (.int x2)] maxLocals = mkF m 0 #[.val (.int x0), .val (.int x1), .val (.int x2), .unset, .unset, .unset, .unset, .unset, .unset, .unset, .unset, .unset, .unset, .unset, .unset] [] := by first | (simp [entryFrame, mkF, argsToLocals, Value.category, maxLocals]; done) | rfl
theorem W0 {Z : State} {a0 : Array Value} (hw : ∀ d ∈ tables_1, d.before a0 Z = true) : ((Jvm.Cond.methodLink "com/example/querent/querent/trec/ScoredDocumentHigherFirstPinLaw" (7 : Nat) ({ cls := "com/example/querent/querent/trec/ScoredDocument", name := "higherFirst", desc := "(DD)I" } : Jvm.MethodName)) : Jvm.Cond).before a0 Z = true := hw _ (List.mem_of_getElem? (i := 0) rfl)
theorem W3 {Z : State} {a0 : Array Value} (hw : ∀ d ∈ tables_1, d.before a0 Z = true) : ((Jvm.Cond.code ({ cls := "com/example/querent/querent/trec/ScoredDocument", name := "higherFirst", desc := "(DD)I" } : Jvm.MethodName) prog_42_method_3_code (5 : Nat) (Option.some Jvm.ClassFile.FieldType.int)) : Jvm.Cond).before a0 Z = true := hw _ (List.mem_of_getElem? (i := 3) rfl)
theorem W1 {Z : State} {a0 : Array Value} (hw : ∀ d ∈ tables_1, d.before a0 Z = true) : ((Jvm.Cond.static ({ cls := "com/example/querent/querent/trec/ScoredDocument", name := "higherFirst", desc := "(DD)I" } : Jvm.MethodName)) : Jvm.Cond).before a0 Z = true := hw _ (List.mem_of_getElem? (i := 1) rfl)
theorem W2 {Z : State} {a0 : Array Value} (hw : ∀ d ∈ tables_1, d.before a0 Z = true) : ((Jvm.Cond.initialized "com/example/querent/querent/trec/ScoredDocument") : Jvm.Cond).before a0 Z = true := hw _ (List.mem_of_getElem? (i := 2) rfl)
theorem pd0 : parseMethodDescriptor "(DD)I" = some ⟨[.double, .double], some .int⟩ := by decide +kernel
theorem W4 {Z : State} {a0 : Array Value} (hw : ∀ d ∈ tables_1, d.before a0 Z = true) : ((Jvm.Cond.methodLink "com/example/querent/querent/trec/ScoredDocumentHigherFirstPinLaw" (13 : Nat) ({ cls := "com/example/querent/querent/trec/ScoredDocumentHigherFirstPinLaw", name := "sign", desc := "(I)I" } : Jvm.MethodName)) : Jvm.Cond).before a0 Z = true := hw _ (List.mem_of_getElem? (i := 4) rfl)
theorem W7 {Z : State} {a0 : Array Value} (hw : ∀ d ∈ tables_1, d.before a0 Z = true) : ((Jvm.Cond.code ({ cls := "com/example/querent/querent/trec/ScoredDocumentHigherFirstPinLaw", name := "sign", desc := "(I)I" } : Jvm.MethodName) method_2_code (1 : Nat) (Option.some Jvm.ClassFile.FieldType.int)) : Jvm.Cond).before a0 Z = true := hw _ (List.mem_of_getElem? (i := 7) rfl)
theorem W5 {Z : State} {a0 : Array Value} (hw : ∀ d ∈ tables_1, d.before a0 Z = true) : ((Jvm.Cond.static ({ cls := "com/example/querent/querent/trec/ScoredDocumentHigherFirstPinLaw", name := "sign", desc := "(I)I" } : Jvm.MethodName)) : Jvm.Cond).before a0 Z = true := hw _ (List.mem_of_getElem? (i := 5) rfl)
theorem W6 {Z : State} {a0 : Array Value} (hw : ∀ d ∈ tables_1, d.before a0 Z = true) : ((Jvm.Cond.initialized "com/example/querent/querent/trec/ScoredDocumentHigherFirstPinLaw") : Jvm.Cond).before a0 Z = true := hw _ (List.mem_of_getElem? (i := 6) rfl)
theorem pd1 : parseMethodDescriptor "(I)I" = some ⟨[.int], some .int⟩ := by decide +kernel
theorem own_neg64 (a : Int32) : (-a.toInt64).toInt = -a.toInt := by
  have h1 := a.toInt_lt
  have h2 := a.le_toInt
  rw [FP.Core.int64_neg (by rw [Int32.toInt_toInt64]; omega), Int32.toInt_toInt64]
theorem own_plain {p0 p1 p2 : Int32} {v11_1 : Int32} (hv11_1 : v11_1 = (if (p2 &&& (1 : Int32)) = (0 : Int32) then (0 : Int32) else (1 : Int32))) {v23_4 : Int32} (hv23_4 : v23_4 = (if (p2 &&& (2 : Int32)) = (0 : Int32) then (0 : Int32) else (1 : Int32))) {v37_7 : UInt64} (hv37_7 : v37_7 = (if v11_1 = (0 : Int32) then (FP.i2d p0) else (FP.dneg (FP.i2d p0)))) {v52_10 : UInt64} (hv52_10 : v52_10 = (if v23_4 = (0 : Int32) then (FP.i2d p1) else (FP.dneg (FP.i2d p1)))) {v66_13 : Int64} (hv66_13 : v66_13 = (if v11_1 = (0 : Int32) then p0.toInt64 else (-p0.toInt64))) {v81_16 : Int64} (hv81_16 : v81_16 = (if v23_4 = (0 : Int32) then p1.toInt64 else (-p1.toInt64))) {v114_19 : Int32} (hv114_19 : v114_19 = (if (0 : Int32) < (lcmpW v66_13 v81_16) then (-1 : Int32) else (if (lcmpW v66_13 v81_16) < (0 : Int32) then (1 : Int32) else (0 : Int32)))) {v138_25 : Int32} (hv138_25 : v138_25 = (if (own_sign (own_hf v37_7 v52_10)) = v114_19 then (1 : Int32) else (0 : Int32))) : v138_25 = 1 := by
  have A : FP.Core.DInt v66_13.toInt v37_7 := by
    by_cases c : v11_1 = 0
    · rw [if_pos c] at hv37_7 hv66_13
      rw [hv37_7, hv66_13, Int32.toInt_toInt64]
      exact FP.Core.i2d_int p0
    · rw [if_neg c] at hv37_7 hv66_13
      rw [hv37_7, hv66_13, own_neg64, FP.dneg_core (FP.Core.i2d_fin p0).notNaN]
      exact FP.Core.dneg_int (FP.Core.i2d_int p0)
  have B : FP.Core.DInt v81_16.toInt v52_10 := by
    by_cases c : v23_4 = 0
    · rw [if_pos c] at hv52_10 hv81_16
      rw [hv52_10, hv81_16, Int32.toInt_toInt64]
      exact FP.Core.i2d_int p1
    · rw [if_neg c] at hv52_10 hv81_16
      rw [hv52_10, hv81_16, own_neg64, FP.dneg_core (FP.Core.i2d_fin p1).notNaN]
      exact FP.Core.dneg_int (FP.Core.i2d_int p1)
  have E : FP.dcmp v37_7 v52_10 = some (compare v66_13.toInt v81_16.toInt) := FP.Core.dcmp_int A B
  rw [hv138_25, hv114_19, own_hf, E, FP.Core.compare_ite]
  have g1 := lw_gt v66_13 v81_16
  have g2 := lw_lt v66_13 v81_16
  rw [Int64.lt_iff_toInt_lt] at g1 g2
  by_cases c1 : v66_13.toInt < v81_16.toInt
  · have n1 : ¬ (0 : Int32) < lcmpW v66_13 v81_16 := fun q => by have := g1.mp q; omega
    rw [if_pos c1, if_neg n1, if_pos (g2.mpr c1)]
    decide
  · by_cases c2 : v66_13.toInt = v81_16.toInt
    · have n1 : ¬ (0 : Int32) < lcmpW v66_13 v81_16 := fun q => by have := g1.mp q; omega
      have n2 : ¬ lcmpW v66_13 v81_16 < (0 : Int32) := fun q => c1 (g2.mp q)
      rw [if_neg c1, if_pos c2, if_neg n1, if_neg n2]
      decide
    · have n1 : (0 : Int32) < lcmpW v66_13 v81_16 := g1.mpr (by omega)
      rw [if_neg c1, if_neg c2, if_pos n1]
      decide

def Q_rm2 (Z : State) (x0 : Int32) (h0 : Heap) (v : Option Value) (h : Heap) (L : List Loc) : Prop := v = some (.int (own_sign x0)) ∧ L = [] ∧ h = h0
set_option maxRecDepth 65536 in
set_option maxHeartbeats 40000000 in
theorem rm2 (l : Launch) (Z : State) (a0 : Array Value) (hw : ∀ d ∈ tables_1, d.before a0 Z = true) (ws : List Jvm.Cond) (x0 : Int32) (h0 : Heap)  :
    MetFree l (⟨"com/example/querent/querent/trec/ScoredDocumentHigherFirstPinLaw", "sign", "(I)I"⟩ : MethodName) (head1 (Jvm.Cond.code (⟨"com/example/querent/querent/trec/ScoredDocumentHigherFirstPinLaw", "sign", "(I)I"⟩ : MethodName) method_2_code 1 (some .int) :: ws) ({ frames := 0, cells := 0, slots := 0, locals := 0 } : Room)) (fun a U => a = #[(.int x0)] ∧ Z.Warmed39 U.vm ∧ U.heap = h0) (fun _ _ _ _ _ => True) (fun _ U o U' => ∃ v L, o = .returned v ∧ Q_rm2 Z x0 h0 v U'.heap L ∧ FrameEnd U o U' L ({ frames := 0, cells := 0, slots := 0, locals := 0 } : Room).cells ({ frames := 0, cells := 0, slots := 0, locals := 0 } : Room).slots) := by
  refine MetFree.of_bodySF (plainFor_of_name pn0) hisR ?_
  intro p e s m args below meth c s₁ Bd hml0 hP hK
  obtain ⟨rfl, hZ, hh⟩ := hP
  have hx := Bd.exec
  have hby := Bd.bytes
  have hlk : meth.locks = false := Bd.notSynchronized
  have hml : c.maxLocals = 1 := hml0
  have hown : s.vm.findClass "com/example/querent/querent/trec/ScoredDocumentHigherFirstPinLaw" = some m.cls := findClass_of_methodNamed Bd.named
  have hnm := (name_of_methodNamed Bd.named Bd.method).1
  have X0 : Stand p l e ({ frames := 0, cells := 0, slots := 0, locals := 0 } : Room) s m #[(.int x0)] below meth c s₁ [] 0 0 := Stand.of_body Bd
  have e0 : s₁.heap = h0 := by rw [← hh, Bd.state]; rfl
  suffices hgo : OD p e s below (Q_rm2 Z x0 h0) ({ frames := 0, cells := 0, slots := 0, locals := 0 } : Room).cells ({ frames := 0, cells := 0, slots := 0, locals := 0 } : Room).slots (s₁.setTop (mkF m 0 #[.val (.int x0)] [])) by
    obtain ⟨s₂, o, q1, q2⟩ := hgo
    exact ⟨s₂, o, castTop (ef0 m x0) q1, q2⟩
  refine OD.go (B := (s₁.setTop (mkF m 1 #[.val (.int x0)] [(.int x0)]))) (fun t k => XS.iloadN X0.here hx rfl (hb hby d2_0) rfl k) ?_
  by_cases c1_1 : (0 : Int32) < x0
  · refine OD.go (B := (s₁.setTop (mkF m 4 #[.val (.int x0)] []))) (fun t k => XS.ifNo X0.here hx rfl (hb hby d2_1) rfl (by rw [if0]; exact (tlt c1_1).2.2.2) k) ?_
    refine OD.go (B := (s₁.setTop (mkF m 5 #[.val (.int x0)] [(.int (1 : Int32))]))) (fun t k => XS.iconst X0.here hx rfl (hb hby d2_4) k) ?_
    exact OD.ret X0 hx hlk (t := .int) Bd.returns rfl (Or.inl ⟨rfl, Or.inl rfl, _, rfl⟩) (hb hby d2_5) (Nat.le_of_ble_eq_true rfl) (Nat.le_of_ble_eq_true rfl) ⟨(show some (Value.int (1 : Int32)) = some (Value.int (own_sign x0)) from by rw [own_sign, if_pos c1_1]), rfl, e0⟩
  · refine OD.go (B := (s₁.setTop (mkF m 6 #[.val (.int x0)] []))) (fun t k => XS.ifYes X0.here hx rfl (pc0 := 1) (pc' := 6) rfl (hb hby d2_1) rfl (by rw [if0]; exact (flt c1_1).2.2.2) (by decide) (by decide) k) ?_
    refine OD.go (B := (s₁.setTop (mkF m 7 #[.val (.int x0)] [(.int x0)]))) (fun t k => XS.iloadN X0.here hx rfl (hb hby d2_6) rfl k) ?_
    by_cases c7_2 : x0 < (0 : Int32)
    · refine OD.go (B := (s₁.setTop (mkF m 10 #[.val (.int x0)] []))) (fun t k => XS.ifNo X0.here hx rfl (hb hby d2_7) rfl (by rw [if0]; exact (tlt c7_2).2.1) k) ?_
      refine OD.go (B := (s₁.setTop (mkF m 11 #[.val (.int x0)] [(.int (-1 : Int32))]))) (fun t k => XS.iconst X0.here hx rfl (hb hby d2_10) k) ?_
      exact OD.ret X0 hx hlk (t := .int) Bd.returns rfl (Or.inl ⟨rfl, Or.inl rfl, _, rfl⟩) (hb hby d2_11) (Nat.le_of_ble_eq_true rfl) (Nat.le_of_ble_eq_true rfl) ⟨(show some (Value.int (-1 : Int32)) = some (Value.int (own_sign x0)) from by rw [own_sign, if_neg c1_1, if_pos c7_2]), rfl, e0⟩
    · refine OD.go (B := (s₁.setTop (mkF m 12 #[.val (.int x0)] []))) (fun t k => XS.ifYes X0.here hx rfl (pc0 := 7) (pc' := 12) rfl (hb hby d2_7) rfl (by rw [if0]; exact (flt c7_2).2.1) (by decide) (by decide) k) ?_
      refine OD.go (B := (s₁.setTop (mkF m 13 #[.val (.int x0)] [(.int (0 : Int32))]))) (fun t k => XS.iconst X0.here hx rfl (hb hby d2_12) k) ?_
      exact OD.ret X0 hx hlk (t := .int) Bd.returns rfl (Or.inl ⟨rfl, Or.inl rfl, _, rfl⟩) (hb hby d2_13) (Nat.le_of_ble_eq_true rfl) (Nat.le_of_ble_eq_true rfl) ⟨(show some (Value.int (0 : Int32)) = some (Value.int (own_sign x0)) from by rw [own_sign, if_neg c1_1, if_neg c7_2]), rfl, e0⟩
def Q_rm1 (Z : State) (x0 : UInt64) (x1 : UInt64) (h0 : Heap) (v : Option Value) (h : Heap) (L : List Loc) : Prop := v = some (.int (own_hf x0 x1)) ∧ L = [] ∧ h = h0
set_option maxRecDepth 65536 in
set_option maxHeartbeats 40000000 in
theorem rm1 (l : Launch) (Z : State) (a0 : Array Value) (hw : ∀ d ∈ tables_1, d.before a0 Z = true) (ws : List Jvm.Cond) (x0 : UInt64) (x1 : UInt64) (h0 : Heap)  :
    MetFree l (⟨"com/example/querent/querent/trec/ScoredDocument", "higherFirst", "(DD)I"⟩ : MethodName) (head1 (Jvm.Cond.code (⟨"com/example/querent/querent/trec/ScoredDocument", "higherFirst", "(DD)I"⟩ : MethodName) prog_42_method_3_code 5 (some .int) :: ws) ({ frames := 0, cells := 0, slots := 0, locals := 0 } : Room)) (fun a U => a = #[(.double x0), (.double x1)] ∧ Z.Warmed39 U.vm ∧ U.heap = h0) (fun _ _ _ _ _ => True) (fun _ U o U' => ∃ v L, o = .returned v ∧ Q_rm1 Z x0 x1 h0 v U'.heap L ∧ FrameEnd U o U' L ({ frames := 0, cells := 0, slots := 0, locals := 0 } : Room).cells ({ frames := 0, cells := 0, slots := 0, locals := 0 } : Room).slots) := by
  refine MetFree.of_bodySF (plainFor_of_name pn1) hisR ?_
  intro p e s m args below meth c s₁ Bd hml0 hP hK
  obtain ⟨rfl, hZ, hh⟩ := hP
  have hx := Bd.exec
  have hby := Bd.bytes
  have hlk : meth.locks = false := Bd.notSynchronized
  have hml : c.maxLocals = 5 := hml0
  have hown : s.vm.findClass "com/example/querent/querent/trec/ScoredDocument" = some m.cls := findClass_of_methodNamed Bd.named
  have hnm := (name_of_methodNamed Bd.named Bd.method).1
  have X0 : Stand p l e ({ frames := 0, cells := 0, slots := 0, locals := 0 } : Room) s m #[(.double x0), (.double x1)] below meth c s₁ [] 0 0 := Stand.of_body Bd
  have e0 : s₁.heap = h0 := by rw [← hh, Bd.state]; rfl
  suffices hgo : OD p e s below (Q_rm1 Z x0 x1 h0) ({ frames := 0, cells := 0, slots := 0, locals := 0 } : Room).cells ({ frames := 0, cells := 0, slots := 0, locals := 0 } : Room).slots (s₁.setTop (mkF m 0 #[.val (.double x0), .second, .val (.double x1), .second, .unset] [])) by
    obtain ⟨s₂, o, q1, q2⟩ := hgo
    exact ⟨s₂, o, castTop (ef1 m x0 x1) q1, q2⟩
  refine OD.go (B := (s₁.setTop (mkF m 1 #[.val (.double x0), .second, .val (.double x1), .second, .unset] [(.int (0 : Int32))]))) (fun t k => XS.iconst X0.here hx rfl (hb hby d1_0) k) ?_
  refine OD.go (B := (s₁.setTop (mkF m 3 #[.val (.double x0), .second, .val (.double x1), .second, .val (.int (0 : Int32))] []))) (fun t k => XS.istore X0.here hx rfl (hb hby d1_1) rfl (l' := #[.val (.double x0), .second, .val (.double x1), .second, .val (.int (0 : Int32))]) rfl k) ?_
  refine OD.go (B := (s₁.setTop (mkF m 4 #[.val (.double x0), .second, .val (.double x1), .second, .val (.int (0 : Int32))] [(.double x0)]))) (fun t k => XS.dloadN X0.here hx rfl (hb hby d1_3) rfl k) ?_
  refine OD.go (B := (s₁.setTop (mkF m 5 #[.val (.double x0), .second, .val (.double x1), .second, .val (.int (0 : Int32))] [(.double x1), (.double x0)]))) (fun t k => XS.dloadN X0.here hx rfl (hb hby d1_4) rfl k) ?_
  refine OD.go (B := (s₁.setTop (mkF m 6 #[.val (.double x0), .second, .val (.double x1), .second, .val (.int (0 : Int32))] [(.int (cmpValue (FP.dcmp x0 x1) .l))]))) (fun t k => XS.dcmpS X0.here hx rfl (hb hby d1_5) rfl (v := (cmpValue (FP.dcmp x0 x1) .l)) rfl k) ?_
  obtain ⟨v24_1, hv24_1⟩ : ∃ z : Int32, z = (if (0 : Int32) < (cmpValue (FP.dcmp x0 x1) .l) then (-1 : Int32) else (if (cmpValue (FP.dcmp x0 x1) .g) < (0 : Int32) then (1 : Int32) else (0 : Int32))) := ⟨_, rfl⟩
  refine OD.cut (B := (s₁.setTop (mkF m 24 #[.val (.double x0), .second, .val (.double x1), .second, .val (.int v24_1)] []))) (fun J24_2 => ?_) ?_
  · skip
    by_cases c6_3 : (0 : Int32) < (cmpValue (FP.dcmp x0 x1) .l)
    · refine OD.go (B := (s₁.setTop (mkF m 9 #[.val (.double x0), .second, .val (.double x1), .second, .val (.int (0 : Int32))] []))) (fun t k => XS.ifNo X0.here hx rfl (hb hby d1_6) rfl (by rw [if0]; exact (tlt c6_3).2.2.2) k) ?_
      refine OD.go (B := (s₁.setTop (mkF m 10 #[.val (.double x0), .second, .val (.double x1), .second, .val (.int (0 : Int32))] [(.int (-1 : Int32))]))) (fun t k => XS.iconst X0.here hx rfl (hb hby d1_9) k) ?_
      refine OD.go (B := (s₁.setTop (mkF m 12 #[.val (.double x0), .second, .val (.double x1), .second, .val (.int (-1 : Int32))] []))) (fun t k => XS.istore X0.here hx rfl (hb hby d1_10) rfl (l' := #[.val (.double x0), .second, .val (.double x1), .second, .val (.int (-1 : Int32))]) rfl k) ?_
      refine OD.go (B := (s₁.setTop (mkF m 24 #[.val (.double x0), .second, .val (.double x1), .second, .val (.int (-1 : Int32))] []))) (fun t k => XS.goto X0.here hx rfl (pc0 := 12) (pc' := 24) rfl (hb hby d1_12) (by decide) (by decide) k) ?_
      rw [if_pos c6_3] at hv24_1
      rw [hv24_1] at J24_2
      exact J24_2
    · refine OD.go (B := (s₁.setTop (mkF m 15 #[.val (.double x0), .second, .val (.double x1), .second, .val (.int (0 : Int32))] []))) (fun t k => XS.ifYes X0.here hx rfl (pc0 := 6) (pc' := 15) rfl (hb hby d1_6) rfl (by rw [if0]; exact (flt c6_3).2.2.2) (by decide) (by decide) k) ?_
      refine OD.go (B := (s₁.setTop (mkF m 16 #[.val (.double x0), .second, .val (.double x1), .second, .val (.int (0 : Int32))] [(.double x0)]))) (fun t k => XS.dloadN X0.here hx rfl (hb hby d1_15) rfl k) ?_
      refine OD.go (B := (s₁.setTop (mkF m 17 #[.val (.double x0), .second, .val (.double x1), .second, .val (.int (0 : Int32))] [(.double x1), (.double x0)]))) (fun t k => XS.dloadN X0.here hx rfl (hb hby d1_16) rfl k) ?_
      refine OD.go (B := (s₁.setTop (mkF m 18 #[.val (.double x0), .second, .val (.double x1), .second, .val (.int (0 : Int32))] [(.int (cmpValue (FP.dcmp x0 x1) .g))]))) (fun t k => XS.dcmpS X0.here hx rfl (hb hby d1_17) rfl (v := (cmpValue (FP.dcmp x0 x1) .g)) rfl k) ?_
      by_cases c18_4 : (cmpValue (FP.dcmp x0 x1) .g) < (0 : Int32)
      · refine OD.go (B := (s₁.setTop (mkF m 21 #[.val (.double x0), .second, .val (.double x1), .second, .val (.int (0 : Int32))] []))) (fun t k => XS.ifNo X0.here hx rfl (hb hby d1_18) rfl (by rw [if0]; exact (tlt c18_4).2.1) k) ?_
        refine OD.go (B := (s₁.setTop (mkF m 22 #[.val (.double x0), .second, .val (.double x1), .second, .val (.int (0 : Int32))] [(.int (1 : Int32))]))) (fun t k => XS.iconst X0.here hx rfl (hb hby d1_21) k) ?_
        refine OD.go (B := (s₁.setTop (mkF m 24 #[.val (.double x0), .second, .val (.double x1), .second, .val (.int (1 : Int32))] []))) (fun t k => XS.istore X0.here hx rfl (hb hby d1_22) rfl (l' := #[.val (.double x0), .second, .val (.double x1), .second, .val (.int (1 : Int32))]) rfl k) ?_
        rw [if_neg c6_3, if_pos c18_4] at hv24_1
        rw [hv24_1] at J24_2
        exact J24_2
      · refine OD.go (B := (s₁.setTop (mkF m 24 #[.val (.double x0), .second, .val (.double x1), .second, .val (.int (0 : Int32))] []))) (fun t k => XS.ifYes X0.here hx rfl (pc0 := 18) (pc' := 24) rfl (hb hby d1_18) rfl (by rw [if0]; exact (flt c18_4).2.1) (by decide) (by decide) k) ?_
        rw [if_neg c6_3, if_neg c18_4] at hv24_1
        rw [hv24_1] at J24_2
        exact J24_2
  refine OD.go (B := (s₁.setTop (mkF m 26 #[.val (.double x0), .second, .val (.double x1), .second, .val (.int v24_1)] [(.int v24_1)]))) (fun t k => XS.iload X0.here hx rfl (hb hby d1_24) rfl k) ?_
  exact OD.ret X0 hx hlk (t := .int) Bd.returns rfl (Or.inl ⟨rfl, Or.inl rfl, _, rfl⟩) (hb hby d1_26) (Nat.le_of_ble_eq_true rfl) (Nat.le_of_ble_eq_true rfl) ⟨(show some (Value.int v24_1) = some (Value.int (own_hf x0 x1)) from by rw [hv24_1]; rfl), rfl, e0⟩
def Q_rm0 (Z : State) (p0 : Int32) (p1 : Int32) (p2 : Int32) (h0 : Heap) (v : Option Value) (h : Heap) (L : List Loc) : Prop := v = some (.int 1) ∧ Fr h0.size L
set_option maxRecDepth 65536 in
set_option maxHeartbeats 40000000 in
theorem rm0 (l : Launch) (Z : State) (a0 : Array Value) (hw : ∀ d ∈ tables_1, d.before a0 Z = true) (ws : List Jvm.Cond) (p0 : Int32) (p1 : Int32) (p2 : Int32) (h0 : Heap)  :
    MetFree l x (head1 (Jvm.Cond.code x code maxLocals ret :: ws) room_1) (fun a U => a = #[(.int p0), (.int p1), (.int p2)] ∧ Z.Warmed39 U.vm ∧ U.heap = h0) (fun _ _ _ _ _ => True) (fun _ U o U' => ∃ v L, o = .returned v ∧ Q_rm0 Z p0 p1 p2 h0 v U'.heap L ∧ FrameEnd U o U' L 0 0) := by
  refine MetFree.of_bodySF (plainFor_of_name pn0) hisR ?_
  intro p e s m args below meth c s₁ Bd hml0 hP hK
  obtain ⟨rfl, hZ, hh⟩ := hP
  have hx := Bd.exec
  have hby := Bd.bytes
  have hlk : meth.locks = false := Bd.notSynchronized
  have hml : c.maxLocals = 15 := hml0
  have hown : s.vm.findClass "com/example/querent/querent/trec/ScoredDocumentHigherFirstPinLaw" = some m.cls := findClass_of_methodNamed Bd.named
  have hnm := (name_of_methodNamed Bd.named Bd.method).1
  have X0 : Stand p l e room_1 s m #[(.int p0), (.int p1), (.int p2)] below meth c s₁ [] 0 0 := Stand.of_body Bd
  have e0 : s₁.heap = h0 := by rw [← hh, Bd.state]; rfl
  suffices hgo : OD p e s below (Q_rm0 Z p0 p1 p2 h0) 0 0 (s₁.setTop (mkF m 0 #[.val (.int p0), .val (.int p1), .val (.int p2), .unset, .unset, .unset, .unset, .unset, .unset, .unset, .unset, .unset, .unset, .unset, .unset] [])) by
    obtain ⟨s₂, o, q1, q2⟩ := hgo
    exact ⟨s₂, o, castTop (ef2 m p0 p1 p2) q1, q2⟩
  refine OD.go (B := (s₁.setTop (mkF m 1 #[.val (.int p0), .val (.int p1), .val (.int p2), .unset, .unset, .unset, .unset, .unset, .unset, .unset, .unset, .unset, .unset, .unset, .unset] [(.int p2)]))) (fun t k => XS.iloadN X0.here hx rfl (hb hby at_0) rfl k) ?_
  refine OD.go (B := (s₁.setTop (mkF m 2 #[.val (.int p0), .val (.int p1), .val (.int p2), .unset, .unset, .unset, .unset, .unset, .unset, .unset, .unset, .unset, .unset, .unset, .unset] [(.int (1 : Int32)), (.int p2)]))) (fun t k => XS.iconst X0.here hx rfl (hb hby at_1) k) ?_
  refine OD.go (B := (s₁.setTop (mkF m 3 #[.val (.int p0), .val (.int p1), .val (.int p2), .unset, .unset, .unset, .unset, .unset, .unset, .unset, .unset, .unset, .unset, .unset, .unset] [(.int (p2 &&& (1 : Int32)))]))) (fun t k => XS.iand X0.here hx rfl (hb hby at_2) rfl k) ?_
  obtain ⟨v11_1, hv11_1⟩ : ∃ z : Int32, z = (if (p2 &&& (1 : Int32)) = (0 : Int32) then (0 : Int32) else (1 : Int32)) := ⟨_, rfl⟩
  refine OD.cut (B := (s₁.setTop (mkF m 11 #[.val (.int p0), .val (.int p1), .val (.int p2), .unset, .unset, .unset, .unset, .unset, .unset, .unset, .unset, .unset, .unset, .unset, .unset] [(.int v11_1)]))) (fun J11_2 => ?_) ?_
  · skip
    by_cases c3_3 : (p2 &&& (1 : Int32)) = (0 : Int32)
    · refine OD.go (B := (s₁.setTop (mkF m 10 #[.val (.int p0), .val (.int p1), .val (.int p2), .unset, .unset, .unset, .unset, .unset, .unset, .unset, .unset, .unset, .unset, .unset, .unset] []))) (fun t k => XS.ifYes X0.here hx rfl (pc0 := 3) (pc' := 10) rfl (hb hby at_3) rfl (by rw [if0]; exact (teq c3_3).1) (by decide) (by decide) k) ?_
      refine OD.go (B := (s₁.setTop (mkF m 11 #[.val (.int p0), .val (.int p1), .val (.int p2), .unset, .unset, .unset, .unset, .unset, .unset, .unset, .unset, .unset, .unset, .unset, .unset] [(.int (0 : Int32))]))) (fun t k => XS.iconst X0.here hx rfl (hb hby at_10) k) ?_
      rw [if_pos c3_3] at hv11_1
      rw [hv11_1] at J11_2
      exact J11_2
    · refine OD.go (B := (s₁.setTop (mkF m 6 #[.val (.int p0), .val (.int p1), .val (.int p2), .unset, .unset, .unset, .unset, .unset, .unset, .unset, .unset, .unset, .unset, .unset, .unset] []))) (fun t k => XS.ifNo X0.here hx rfl (hb hby at_3) rfl (by rw [if0]; exact (feq c3_3).1) k) ?_
      refine OD.go (B := (s₁.setTop (mkF m 7 #[.val (.int p0), .val (.int p1), .val (.int p2), .unset, .unset, .unset, .unset, .unset, .unset, .unset, .unset, .unset, .unset, .unset, .unset] [(.int (1 : Int32))]))) (fun t k => XS.iconst X0.here hx rfl (hb hby at_6) k) ?_
      refine OD.go (B := (s₁.setTop (mkF m 11 #[.val (.int p0), .val (.int p1), .val (.int p2), .unset, .unset, .unset, .unset, .unset, .unset, .unset, .unset, .unset, .unset, .unset, .unset] [(.int (1 : Int32))]))) (fun t k => XS.goto X0.here hx rfl (pc0 := 7) (pc' := 11) rfl (hb hby at_7) (by decide) (by decide) k) ?_
      rw [if_neg c3_3] at hv11_1
      rw [hv11_1] at J11_2
      exact J11_2
  refine OD.go (B := (s₁.setTop (mkF m 12 #[.val (.int p0), .val (.int p1), .val (.int p2), .val (.int v11_1), .unset, .unset, .unset, .unset, .unset, .unset, .unset, .unset, .unset, .unset, .unset] []))) (fun t k => XS.istoreN X0.here hx rfl (hb hby at_11) rfl (l' := #[.val (.int p0), .val (.int p1), .val (.int p2), .val (.int v11_1), .unset, .unset, .unset, .unset, .unset, .unset, .unset, .unset, .unset, .unset, .unset]) rfl k) ?_
  refine OD.go (B := (s₁.setTop (mkF m 13 #[.val (.int p0), .val (.int p1), .val (.int p2), .val (.int v11_1), .unset, .unset, .unset, .unset, .unset, .unset, .unset, .unset, .unset, .unset, .unset] [(.int p2)]))) (fun t k => XS.iloadN X0.here hx rfl (hb hby at_12) rfl k) ?_
  refine OD.go (B := (s₁.setTop (mkF m 14 #[.val (.int p0), .val (.int p1), .val (.int p2), .val (.int v11_1), .unset, .unset, .unset, .unset, .unset, .unset, .unset, .unset, .unset, .unset, .unset] [(.int (2 : Int32)), (.int p2)]))) (fun t k => XS.iconst X0.here hx rfl (hb hby at_13) k) ?_
  refine OD.go (B := (s₁.setTop (mkF m 15 #[.val (.int p0), .val (.int p1), .val (.int p2), .val (.int v11_1), .unset, .unset, .unset, .unset, .unset, .unset, .unset, .unset, .unset, .unset, .unset] [(.int (p2 &&& (2 : Int32)))]))) (fun t k => XS.iand X0.here hx rfl (hb hby at_14) rfl k) ?_
  obtain ⟨v23_4, hv23_4⟩ : ∃ z : Int32, z = (if (p2 &&& (2 : Int32)) = (0 : Int32) then (0 : Int32) else (1 : Int32)) := ⟨_, rfl⟩
  refine OD.cut (B := (s₁.setTop (mkF m 23 #[.val (.int p0), .val (.int p1), .val (.int p2), .val (.int v11_1), .unset, .unset, .unset, .unset, .unset, .unset, .unset, .unset, .unset, .unset, .unset] [(.int v23_4)]))) (fun J23_5 => ?_) ?_
  · skip
    by_cases c15_6 : (p2 &&& (2 : Int32)) = (0 : Int32)
    · refine OD.go (B := (s₁.setTop (mkF m 22 #[.val (.int p0), .val (.int p1), .val (.int p2), .val (.int v11_1), .unset, .unset, .unset, .unset, .unset, .unset, .unset, .unset, .unset, .unset, .unset] []))) (fun t k => XS.ifYes X0.here hx rfl (pc0 := 15) (pc' := 22) rfl (hb hby at_15) rfl (by rw [if0]; exact (teq c15_6).1) (by decide) (by decide) k) ?_
      refine OD.go (B := (s₁.setTop (mkF m 23 #[.val (.int p0), .val (.int p1), .val (.int p2), .val (.int v11_1), .unset, .unset, .unset, .unset, .unset, .unset, .unset, .unset, .unset, .unset, .unset] [(.int (0 : Int32))]))) (fun t k => XS.iconst X0.here hx rfl (hb hby at_22) k) ?_
      rw [if_pos c15_6] at hv23_4
      rw [hv23_4] at J23_5
      exact J23_5
    · refine OD.go (B := (s₁.setTop (mkF m 18 #[.val (.int p0), .val (.int p1), .val (.int p2), .val (.int v11_1), .unset, .unset, .unset, .unset, .unset, .unset, .unset, .unset, .unset, .unset, .unset] []))) (fun t k => XS.ifNo X0.here hx rfl (hb hby at_15) rfl (by rw [if0]; exact (feq c15_6).1) k) ?_
      refine OD.go (B := (s₁.setTop (mkF m 19 #[.val (.int p0), .val (.int p1), .val (.int p2), .val (.int v11_1), .unset, .unset, .unset, .unset, .unset, .unset, .unset, .unset, .unset, .unset, .unset] [(.int (1 : Int32))]))) (fun t k => XS.iconst X0.here hx rfl (hb hby at_18) k) ?_
      refine OD.go (B := (s₁.setTop (mkF m 23 #[.val (.int p0), .val (.int p1), .val (.int p2), .val (.int v11_1), .unset, .unset, .unset, .unset, .unset, .unset, .unset, .unset, .unset, .unset, .unset] [(.int (1 : Int32))]))) (fun t k => XS.goto X0.here hx rfl (pc0 := 19) (pc' := 23) rfl (hb hby at_19) (by decide) (by decide) k) ?_
      rw [if_neg c15_6] at hv23_4
      rw [hv23_4] at J23_5
      exact J23_5
  refine OD.go (B := (s₁.setTop (mkF m 25 #[.val (.int p0), .val (.int p1), .val (.int p2), .val (.int v11_1), .val (.int v23_4), .unset, .unset, .unset, .unset, .unset, .unset, .unset, .unset, .unset, .unset] []))) (fun t k => XS.istore X0.here hx rfl (hb hby at_23) rfl (l' := #[.val (.int p0), .val (.int p1), .val (.int p2), .val (.int v11_1), .val (.int v23_4), .unset, .unset, .unset, .unset, .unset, .unset, .unset, .unset, .unset, .unset]) rfl k) ?_
  refine OD.go (B := (s₁.setTop (mkF m 26 #[.val (.int p0), .val (.int p1), .val (.int p2), .val (.int v11_1), .val (.int v23_4), .unset, .unset, .unset, .unset, .unset, .unset, .unset, .unset, .unset, .unset] [(.int v11_1)]))) (fun t k => XS.iloadN X0.here hx rfl (hb hby at_25) rfl k) ?_
  obtain ⟨v37_7, hv37_7⟩ : ∃ z : UInt64, z = (if v11_1 = (0 : Int32) then (FP.i2d p0) else (FP.dneg (FP.i2d p0))) := ⟨_, rfl⟩
  refine OD.cut (B := (s₁.setTop (mkF m 37 #[.val (.int p0), .val (.int p1), .val (.int p2), .val (.int v11_1), .val (.int v23_4), .unset, .unset, .unset, .unset, .unset, .unset, .unset, .unset, .unset, .unset] [(.double v37_7)]))) (fun J37_8 => ?_) ?_
  · skip
    by_cases c26_9 : v11_1 = (0 : Int32)
    · refine OD.go (B := (s₁.setTop (mkF m 35 #[.val (.int p0), .val (.int p1), .val (.int p2), .val (.int v11_1), .val (.int v23_4), .unset, .unset, .unset, .unset, .unset, .unset, .unset, .unset, .unset, .unset] []))) (fun t k => XS.ifYes X0.here hx rfl (pc0 := 26) (pc' := 35) rfl (hb hby at_26) rfl (by rw [if0]; exact (teq c26_9).1) (by decide) (by decide) k) ?_
      refine OD.go (B := (s₁.setTop (mkF m 36 #[.val (.int p0), .val (.int p1), .val (.int p2), .val (.int v11_1), .val (.int v23_4), .unset, .unset, .unset, .unset, .unset, .unset, .unset, .unset, .unset, .unset] [(.int p0)]))) (fun t k => XS.iloadN X0.here hx rfl (hb hby at_35) rfl k) ?_
      refine OD.go (B := (s₁.setTop (mkF m 37 #[.val (.int p0), .val (.int p1), .val (.int p2), .val (.int v11_1), .val (.int v23_4), .unset, .unset, .unset, .unset, .unset, .unset, .unset, .unset, .unset, .unset] [(.double (FP.i2d p0))]))) (fun t k => XS.i2dS X0.here hx rfl (hb hby at_36) rfl (v := (FP.i2d p0)) rfl k) ?_
      rw [if_pos c26_9] at hv37_7
      rw [hv37_7] at J37_8
      exact J37_8
    · refine OD.go (B := (s₁.setTop (mkF m 29 #[.val (.int p0), .val (.int p1), .val (.int p2), .val (.int v11_1), .val (.int v23_4), .unset, .unset, .unset, .unset, .unset, .unset, .unset, .unset, .unset, .unset] []))) (fun t k => XS.ifNo X0.here hx rfl (hb hby at_26) rfl (by rw [if0]; exact (feq c26_9).1) k) ?_
      refine OD.go (B := (s₁.setTop (mkF m 30 #[.val (.int p0), .val (.int p1), .val (.int p2), .val (.int v11_1), .val (.int v23_4), .unset, .unset, .unset, .unset, .unset, .unset, .unset, .unset, .unset, .unset] [(.int p0)]))) (fun t k => XS.iloadN X0.here hx rfl (hb hby at_29) rfl k) ?_
      refine OD.go (B := (s₁.setTop (mkF m 31 #[.val (.int p0), .val (.int p1), .val (.int p2), .val (.int v11_1), .val (.int v23_4), .unset, .unset, .unset, .unset, .unset, .unset, .unset, .unset, .unset, .unset] [(.double (FP.i2d p0))]))) (fun t k => XS.i2dS X0.here hx rfl (hb hby at_30) rfl (v := (FP.i2d p0)) rfl k) ?_
      refine OD.go (B := (s₁.setTop (mkF m 32 #[.val (.int p0), .val (.int p1), .val (.int p2), .val (.int v11_1), .val (.int v23_4), .unset, .unset, .unset, .unset, .unset, .unset, .unset, .unset, .unset, .unset] [(.double (FP.dneg (FP.i2d p0)))]))) (fun t k => XS.dnegS X0.here hx rfl (hb hby at_31) rfl (v := (FP.dneg (FP.i2d p0))) rfl k) ?_
      refine OD.go (B := (s₁.setTop (mkF m 37 #[.val (.int p0), .val (.int p1), .val (.int p2), .val (.int v11_1), .val (.int v23_4), .unset, .unset, .unset, .unset, .unset, .unset, .unset, .unset, .unset, .unset] [(.double (FP.dneg (FP.i2d p0)))]))) (fun t k => XS.goto X0.here hx rfl (pc0 := 32) (pc' := 37) rfl (hb hby at_32) (by decide) (by decide) k) ?_
      rw [if_neg c26_9] at hv37_7
      rw [hv37_7] at J37_8
      exact J37_8
  refine OD.go (B := (s₁.setTop (mkF m 39 #[.val (.int p0), .val (.int p1), .val (.int p2), .val (.int v11_1), .val (.int v23_4), .val (.double v37_7), .second, .unset, .unset, .unset, .unset, .unset, .unset, .unset, .unset] []))) (fun t k => XS.dstore X0.here hx rfl (hb hby at_37) rfl (l' := #[.val (.int p0), .val (.int p1), .val (.int p2), .val (.int v11_1), .val (.int v23_4), .val (.double v37_7), .second, .unset, .unset, .unset, .unset, .unset, .unset, .unset, .unset]) rfl k) ?_
  refine OD.go (B := (s₁.setTop (mkF m 41 #[.val (.int p0), .val (.int p1), .val (.int p2), .val (.int v11_1), .val (.int v23_4), .val (.double v37_7), .second, .unset, .unset, .unset, .unset, .unset, .unset, .unset, .unset] [(.int v23_4)]))) (fun t k => XS.iload X0.here hx rfl (hb hby at_39) rfl k) ?_
  obtain ⟨v52_10, hv52_10⟩ : ∃ z : UInt64, z = (if v23_4 = (0 : Int32) then (FP.i2d p1) else (FP.dneg (FP.i2d p1))) := ⟨_, rfl⟩
  refine OD.cut (B := (s₁.setTop (mkF m 52 #[.val (.int p0), .val (.int p1), .val (.int p2), .val (.int v11_1), .val (.int v23_4), .val (.double v37_7), .second, .unset, .unset, .unset, .unset, .unset, .unset, .unset, .unset] [(.double v52_10)]))) (fun J52_11 => ?_) ?_
  · skip
    by_cases c41_12 : v23_4 = (0 : Int32)
    · refine OD.go (B := (s₁.setTop (mkF m 50 #[.val (.int p0), .val (.int p1), .val (.int p2), .val (.int v11_1), .val (.int v23_4), .val (.double v37_7), .second, .unset, .unset, .unset, .unset, .unset, .unset, .unset, .unset] []))) (fun t k => XS.ifYes X0.here hx rfl (pc0 := 41) (pc' := 50) rfl (hb hby at_41) rfl (by rw [if0]; exact (teq c41_12).1) (by decide) (by decide) k) ?_
      refine OD.go (B := (s₁.setTop (mkF m 51 #[.val (.int p0), .val (.int p1), .val (.int p2), .val (.int v11_1), .val (.int v23_4), .val (.double v37_7), .second, .unset, .unset, .unset, .unset, .unset, .unset, .unset, .unset] [(.int p1)]))) (fun t k => XS.iloadN X0.here hx rfl (hb hby at_50) rfl k) ?_
      refine OD.go (B := (s₁.setTop (mkF m 52 #[.val (.int p0), .val (.int p1), .val (.int p2), .val (.int v11_1), .val (.int v23_4), .val (.double v37_7), .second, .unset, .unset, .unset, .unset, .unset, .unset, .unset, .unset] [(.double (FP.i2d p1))]))) (fun t k => XS.i2dS X0.here hx rfl (hb hby at_51) rfl (v := (FP.i2d p1)) rfl k) ?_
      rw [if_pos c41_12] at hv52_10
      rw [hv52_10] at J52_11
      exact J52_11
    · refine OD.go (B := (s₁.setTop (mkF m 44 #[.val (.int p0), .val (.int p1), .val (.int p2), .val (.int v11_1), .val (.int v23_4), .val (.double v37_7), .second, .unset, .unset, .unset, .unset, .unset, .unset, .unset, .unset] []))) (fun t k => XS.ifNo X0.here hx rfl (hb hby at_41) rfl (by rw [if0]; exact (feq c41_12).1) k) ?_
      refine OD.go (B := (s₁.setTop (mkF m 45 #[.val (.int p0), .val (.int p1), .val (.int p2), .val (.int v11_1), .val (.int v23_4), .val (.double v37_7), .second, .unset, .unset, .unset, .unset, .unset, .unset, .unset, .unset] [(.int p1)]))) (fun t k => XS.iloadN X0.here hx rfl (hb hby at_44) rfl k) ?_
      refine OD.go (B := (s₁.setTop (mkF m 46 #[.val (.int p0), .val (.int p1), .val (.int p2), .val (.int v11_1), .val (.int v23_4), .val (.double v37_7), .second, .unset, .unset, .unset, .unset, .unset, .unset, .unset, .unset] [(.double (FP.i2d p1))]))) (fun t k => XS.i2dS X0.here hx rfl (hb hby at_45) rfl (v := (FP.i2d p1)) rfl k) ?_
      refine OD.go (B := (s₁.setTop (mkF m 47 #[.val (.int p0), .val (.int p1), .val (.int p2), .val (.int v11_1), .val (.int v23_4), .val (.double v37_7), .second, .unset, .unset, .unset, .unset, .unset, .unset, .unset, .unset] [(.double (FP.dneg (FP.i2d p1)))]))) (fun t k => XS.dnegS X0.here hx rfl (hb hby at_46) rfl (v := (FP.dneg (FP.i2d p1))) rfl k) ?_
      refine OD.go (B := (s₁.setTop (mkF m 52 #[.val (.int p0), .val (.int p1), .val (.int p2), .val (.int v11_1), .val (.int v23_4), .val (.double v37_7), .second, .unset, .unset, .unset, .unset, .unset, .unset, .unset, .unset] [(.double (FP.dneg (FP.i2d p1)))]))) (fun t k => XS.goto X0.here hx rfl (pc0 := 47) (pc' := 52) rfl (hb hby at_47) (by decide) (by decide) k) ?_
      rw [if_neg c41_12] at hv52_10
      rw [hv52_10] at J52_11
      exact J52_11
  refine OD.go (B := (s₁.setTop (mkF m 54 #[.val (.int p0), .val (.int p1), .val (.int p2), .val (.int v11_1), .val (.int v23_4), .val (.double v37_7), .second, .val (.double v52_10), .second, .unset, .unset, .unset, .unset, .unset, .unset] []))) (fun t k => XS.dstore X0.here hx rfl (hb hby at_52) rfl (l' := #[.val (.int p0), .val (.int p1), .val (.int p2), .val (.int v11_1), .val (.int v23_4), .val (.double v37_7), .second, .val (.double v52_10), .second, .unset, .unset, .unset, .unset, .unset, .unset]) rfl k) ?_
  refine OD.go (B := (s₁.setTop (mkF m 55 #[.val (.int p0), .val (.int p1), .val (.int p2), .val (.int v11_1), .val (.int v23_4), .val (.double v37_7), .second, .val (.double v52_10), .second, .unset, .unset, .unset, .unset, .unset, .unset] [(.int v11_1)]))) (fun t k => XS.iloadN X0.here hx rfl (hb hby at_54) rfl k) ?_
  obtain ⟨v66_13, hv66_13⟩ : ∃ z : Int64, z = (if v11_1 = (0 : Int32) then p0.toInt64 else (-p0.toInt64)) := ⟨_, rfl⟩
  refine OD.cut (B := (s₁.setTop (mkF m 66 #[.val (.int p0), .val (.int p1), .val (.int p2), .val (.int v11_1), .val (.int v23_4), .val (.double v37_7), .second, .val (.double v52_10), .second, .unset, .unset, .unset, .unset, .unset, .unset] [(.long v66_13)]))) (fun J66_14 => ?_) ?_
  · skip
    by_cases c55_15 : v11_1 = (0 : Int32)
    · refine OD.go (B := (s₁.setTop (mkF m 64 #[.val (.int p0), .val (.int p1), .val (.int p2), .val (.int v11_1), .val (.int v23_4), .val (.double v37_7), .second, .val (.double v52_10), .second, .unset, .unset, .unset, .unset, .unset, .unset] []))) (fun t k => XS.ifYes X0.here hx rfl (pc0 := 55) (pc' := 64) rfl (hb hby at_55) rfl (by rw [if0]; exact (teq c55_15).1) (by decide) (by decide) k) ?_
      refine OD.go (B := (s₁.setTop (mkF m 65 #[.val (.int p0), .val (.int p1), .val (.int p2), .val (.int v11_1), .val (.int v23_4), .val (.double v37_7), .second, .val (.double v52_10), .second, .unset, .unset, .unset, .unset, .unset, .unset] [(.int p0)]))) (fun t k => XS.iloadN X0.here hx rfl (hb hby at_64) rfl k) ?_
      refine OD.go (B := (s₁.setTop (mkF m 66 #[.val (.int p0), .val (.int p1), .val (.int p2), .val (.int v11_1), .val (.int v23_4), .val (.double v37_7), .second, .val (.double v52_10), .second, .unset, .unset, .unset, .unset, .unset, .unset] [(.long p0.toInt64)]))) (fun t k => XS.i2l X0.here hx rfl (hb hby at_65) rfl k) ?_
      rw [if_pos c55_15] at hv66_13
      rw [hv66_13] at J66_14
      exact J66_14
    · refine OD.go (B := (s₁.setTop (mkF m 58 #[.val (.int p0), .val (.int p1), .val (.int p2), .val (.int v11_1), .val (.int v23_4), .val (.double v37_7), .second, .val (.double v52_10), .second, .unset, .unset, .unset, .unset, .unset, .unset] []))) (fun t k => XS.ifNo X0.here hx rfl (hb hby at_55) rfl (by rw [if0]; exact (feq c55_15).1) k) ?_
      refine OD.go (B := (s₁.setTop (mkF m 59 #[.val (.int p0), .val (.int p1), .val (.int p2), .val (.int v11_1), .val (.int v23_4), .val (.double v37_7), .second, .val (.double v52_10), .second, .unset, .unset, .unset, .unset, .unset, .unset] [(.int p0)]))) (fun t k => XS.iloadN X0.here hx rfl (hb hby at_58) rfl k) ?_
      refine OD.go (B := (s₁.setTop (mkF m 60 #[.val (.int p0), .val (.int p1), .val (.int p2), .val (.int v11_1), .val (.int v23_4), .val (.double v37_7), .second, .val (.double v52_10), .second, .unset, .unset, .unset, .unset, .unset, .unset] [(.long p0.toInt64)]))) (fun t k => XS.i2l X0.here hx rfl (hb hby at_59) rfl k) ?_
      refine OD.go (B := (s₁.setTop (mkF m 61 #[.val (.int p0), .val (.int p1), .val (.int p2), .val (.int v11_1), .val (.int v23_4), .val (.double v37_7), .second, .val (.double v52_10), .second, .unset, .unset, .unset, .unset, .unset, .unset] [(.long (-p0.toInt64))]))) (fun t k => XS.lneg X0.here hx rfl (hb hby at_60) rfl k) ?_
      refine OD.go (B := (s₁.setTop (mkF m 66 #[.val (.int p0), .val (.int p1), .val (.int p2), .val (.int v11_1), .val (.int v23_4), .val (.double v37_7), .second, .val (.double v52_10), .second, .unset, .unset, .unset, .unset, .unset, .unset] [(.long (-p0.toInt64))]))) (fun t k => XS.goto X0.here hx rfl (pc0 := 61) (pc' := 66) rfl (hb hby at_61) (by decide) (by decide) k) ?_
      rw [if_neg c55_15] at hv66_13
      rw [hv66_13] at J66_14
      exact J66_14
  refine OD.go (B := (s₁.setTop (mkF m 68 #[.val (.int p0), .val (.int p1), .val (.int p2), .val (.int v11_1), .val (.int v23_4), .val (.double v37_7), .second, .val (.double v52_10), .second, .val (.long v66_13), .second, .unset, .unset, .unset, .unset] []))) (fun t k => XS.lstore X0.here hx rfl (hb hby at_66) rfl (l' := #[.val (.int p0), .val (.int p1), .val (.int p2), .val (.int v11_1), .val (.int v23_4), .val (.double v37_7), .second, .val (.double v52_10), .second, .val (.long v66_13), .second, .unset, .unset, .unset, .unset]) rfl k) ?_
  refine OD.go (B := (s₁.setTop (mkF m 70 #[.val (.int p0), .val (.int p1), .val (.int p2), .val (.int v11_1), .val (.int v23_4), .val (.double v37_7), .second, .val (.double v52_10), .second, .val (.long v66_13), .second, .unset, .unset, .unset, .unset] [(.int v23_4)]))) (fun t k => XS.iload X0.here hx rfl (hb hby at_68) rfl k) ?_
  obtain ⟨v81_16, hv81_16⟩ : ∃ z : Int64, z = (if v23_4 = (0 : Int32) then p1.toInt64 else (-p1.toInt64)) := ⟨_, rfl⟩
  refine OD.cut (B := (s₁.setTop (mkF m 81 #[.val (.int p0), .val (.int p1), .val (.int p2), .val (.int v11_1), .val (.int v23_4), .val (.double v37_7), .second, .val (.double v52_10), .second, .val (.long v66_13), .second, .unset, .unset, .unset, .unset] [(.long v81_16)]))) (fun J81_17 => ?_) ?_
  · skip
    by_cases c70_18 : v23_4 = (0 : Int32)
    · refine OD.go (B := (s₁.setTop (mkF m 79 #[.val (.int p0), .val (.int p1), .val (.int p2), .val (.int v11_1), .val (.int v23_4), .val (.double v37_7), .second, .val (.double v52_10), .second, .val (.long v66_13), .second, .unset, .unset, .unset, .unset] []))) (fun t k => XS.ifYes X0.here hx rfl (pc0 := 70) (pc' := 79) rfl (hb hby at_70) rfl (by rw [if0]; exact (teq c70_18).1) (by decide) (by decide) k) ?_
      refine OD.go (B := (s₁.setTop (mkF m 80 #[.val (.int p0), .val (.int p1), .val (.int p2), .val (.int v11_1), .val (.int v23_4), .val (.double v37_7), .second, .val (.double v52_10), .second, .val (.long v66_13), .second, .unset, .unset, .unset, .unset] [(.int p1)]))) (fun t k => XS.iloadN X0.here hx rfl (hb hby at_79) rfl k) ?_
      refine OD.go (B := (s₁.setTop (mkF m 81 #[.val (.int p0), .val (.int p1), .val (.int p2), .val (.int v11_1), .val (.int v23_4), .val (.double v37_7), .second, .val (.double v52_10), .second, .val (.long v66_13), .second, .unset, .unset, .unset, .unset] [(.long p1.toInt64)]))) (fun t k => XS.i2l X0.here hx rfl (hb hby at_80) rfl k) ?_
      rw [if_pos c70_18] at hv81_16
      rw [hv81_16] at J81_17
      exact J81_17
    · refine OD.go (B := (s₁.setTop (mkF m 73 #[.val (.int p0), .val (.int p1), .val (.int p2), .val (.int v11_1), .val (.int v23_4), .val (.double v37_7), .second, .val (.double v52_10), .second, .val (.long v66_13), .second, .unset, .unset, .unset, .unset] []))) (fun t k => XS.ifNo X0.here hx rfl (hb hby at_70) rfl (by rw [if0]; exact (feq c70_18).1) k) ?_
      refine OD.go (B := (s₁.setTop (mkF m 74 #[.val (.int p0), .val (.int p1), .val (.int p2), .val (.int v11_1), .val (.int v23_4), .val (.double v37_7), .second, .val (.double v52_10), .second, .val (.long v66_13), .second, .unset, .unset, .unset, .unset] [(.int p1)]))) (fun t k => XS.iloadN X0.here hx rfl (hb hby at_73) rfl k) ?_
      refine OD.go (B := (s₁.setTop (mkF m 75 #[.val (.int p0), .val (.int p1), .val (.int p2), .val (.int v11_1), .val (.int v23_4), .val (.double v37_7), .second, .val (.double v52_10), .second, .val (.long v66_13), .second, .unset, .unset, .unset, .unset] [(.long p1.toInt64)]))) (fun t k => XS.i2l X0.here hx rfl (hb hby at_74) rfl k) ?_
      refine OD.go (B := (s₁.setTop (mkF m 76 #[.val (.int p0), .val (.int p1), .val (.int p2), .val (.int v11_1), .val (.int v23_4), .val (.double v37_7), .second, .val (.double v52_10), .second, .val (.long v66_13), .second, .unset, .unset, .unset, .unset] [(.long (-p1.toInt64))]))) (fun t k => XS.lneg X0.here hx rfl (hb hby at_75) rfl k) ?_
      refine OD.go (B := (s₁.setTop (mkF m 81 #[.val (.int p0), .val (.int p1), .val (.int p2), .val (.int v11_1), .val (.int v23_4), .val (.double v37_7), .second, .val (.double v52_10), .second, .val (.long v66_13), .second, .unset, .unset, .unset, .unset] [(.long (-p1.toInt64))]))) (fun t k => XS.goto X0.here hx rfl (pc0 := 76) (pc' := 81) rfl (hb hby at_76) (by decide) (by decide) k) ?_
      rw [if_neg c70_18] at hv81_16
      rw [hv81_16] at J81_17
      exact J81_17
  refine OD.go (B := (s₁.setTop (mkF m 83 #[.val (.int p0), .val (.int p1), .val (.int p2), .val (.int v11_1), .val (.int v23_4), .val (.double v37_7), .second, .val (.double v52_10), .second, .val (.long v66_13), .second, .val (.long v81_16), .second, .unset, .unset] []))) (fun t k => XS.lstore X0.here hx rfl (hb hby at_81) rfl (l' := #[.val (.int p0), .val (.int p1), .val (.int p2), .val (.int v11_1), .val (.int v23_4), .val (.double v37_7), .second, .val (.double v52_10), .second, .val (.long v66_13), .second, .val (.long v81_16), .second, .unset, .unset]) rfl k) ?_
  refine OD.go (B := (s₁.setTop (mkF m 85 #[.val (.int p0), .val (.int p1), .val (.int p2), .val (.int v11_1), .val (.int v23_4), .val (.double v37_7), .second, .val (.double v52_10), .second, .val (.long v66_13), .second, .val (.long v81_16), .second, .unset, .unset] [(.long v66_13)]))) (fun t k => XS.lload X0.here hx rfl (hb hby at_83) rfl k) ?_
  refine OD.go (B := (s₁.setTop (mkF m 87 #[.val (.int p0), .val (.int p1), .val (.int p2), .val (.int v11_1), .val (.int v23_4), .val (.double v37_7), .second, .val (.double v52_10), .second, .val (.long v66_13), .second, .val (.long v81_16), .second, .unset, .unset] [(.long v81_16), (.long v66_13)]))) (fun t k => XS.lload X0.here hx rfl (hb hby at_85) rfl k) ?_
  refine OD.go (B := (s₁.setTop (mkF m 88 #[.val (.int p0), .val (.int p1), .val (.int p2), .val (.int v11_1), .val (.int v23_4), .val (.double v37_7), .second, .val (.double v52_10), .second, .val (.long v66_13), .second, .val (.long v81_16), .second, .unset, .unset] [(.int (lcmpW v66_13 v81_16))]))) (fun t k => XS.lcmp X0.here hx rfl (hb hby at_87) rfl k) ?_
  obtain ⟨v114_19, hv114_19⟩ : ∃ z : Int32, z = (if (0 : Int32) < (lcmpW v66_13 v81_16) then (-1 : Int32) else (if (lcmpW v66_13 v81_16) < (0 : Int32) then (1 : Int32) else (0 : Int32))) := ⟨_, rfl⟩
  refine OD.cut (B := (s₁.setTop (mkF m 114 #[.val (.int p0), .val (.int p1), .val (.int p2), .val (.int v11_1), .val (.int v23_4), .val (.double v37_7), .second, .val (.double v52_10), .second, .val (.long v66_13), .second, .val (.long v81_16), .second, .val (.int v114_19), .unset] []))) (fun J114_20 => ?_) ?_
  · skip
    by_cases c88_21 : (0 : Int32) < (lcmpW v66_13 v81_16)
    · refine OD.go (B := (s₁.setTop (mkF m 91 #[.val (.int p0), .val (.int p1), .val (.int p2), .val (.int v11_1), .val (.int v23_4), .val (.double v37_7), .second, .val (.double v52_10), .second, .val (.long v66_13), .second, .val (.long v81_16), .second, .unset, .unset] []))) (fun t k => XS.ifNo X0.here hx rfl (hb hby at_88) rfl (by rw [if0]; exact (tlt c88_21).2.2.2) k) ?_
      refine OD.go (B := (s₁.setTop (mkF m 92 #[.val (.int p0), .val (.int p1), .val (.int p2), .val (.int v11_1), .val (.int v23_4), .val (.double v37_7), .second, .val (.double v52_10), .second, .val (.long v66_13), .second, .val (.long v81_16), .second, .unset, .unset] [(.int (-1 : Int32))]))) (fun t k => XS.iconst X0.here hx rfl (hb hby at_91) k) ?_
      refine OD.go (B := (s₁.setTop (mkF m 94 #[.val (.int p0), .val (.int p1), .val (.int p2), .val (.int v11_1), .val (.int v23_4), .val (.double v37_7), .second, .val (.double v52_10), .second, .val (.long v66_13), .second, .val (.long v81_16), .second, .val (.int (-1 : Int32)), .unset] []))) (fun t k => XS.istore X0.here hx rfl (hb hby at_92) rfl (l' := #[.val (.int p0), .val (.int p1), .val (.int p2), .val (.int v11_1), .val (.int v23_4), .val (.double v37_7), .second, .val (.double v52_10), .second, .val (.long v66_13), .second, .val (.long v81_16), .second, .val (.int (-1 : Int32)), .unset]) rfl k) ?_
      refine OD.go (B := (s₁.setTop (mkF m 114 #[.val (.int p0), .val (.int p1), .val (.int p2), .val (.int v11_1), .val (.int v23_4), .val (.double v37_7), .second, .val (.double v52_10), .second, .val (.long v66_13), .second, .val (.long v81_16), .second, .val (.int (-1 : Int32)), .unset] []))) (fun t k => XS.goto X0.here hx rfl (pc0 := 94) (pc' := 114) rfl (hb hby at_94) (by decide) (by decide) k) ?_
      rw [if_pos c88_21] at hv114_19
      rw [hv114_19] at J114_20
      exact J114_20
    · refine OD.go (B := (s₁.setTop (mkF m 97 #[.val (.int p0), .val (.int p1), .val (.int p2), .val (.int v11_1), .val (.int v23_4), .val (.double v37_7), .second, .val (.double v52_10), .second, .val (.long v66_13), .second, .val (.long v81_16), .second, .unset, .unset] []))) (fun t k => XS.ifYes X0.here hx rfl (pc0 := 88) (pc' := 97) rfl (hb hby at_88) rfl (by rw [if0]; exact (flt c88_21).2.2.2) (by decide) (by decide) k) ?_
      refine OD.go (B := (s₁.setTop (mkF m 99 #[.val (.int p0), .val (.int p1), .val (.int p2), .val (.int v11_1), .val (.int v23_4), .val (.double v37_7), .second, .val (.double v52_10), .second, .val (.long v66_13), .second, .val (.long v81_16), .second, .unset, .unset] [(.long v66_13)]))) (fun t k => XS.lload X0.here hx rfl (hb hby at_97) rfl k) ?_
      refine OD.go (B := (s₁.setTop (mkF m 101 #[.val (.int p0), .val (.int p1), .val (.int p2), .val (.int v11_1), .val (.int v23_4), .val (.double v37_7), .second, .val (.double v52_10), .second, .val (.long v66_13), .second, .val (.long v81_16), .second, .unset, .unset] [(.long v81_16), (.long v66_13)]))) (fun t k => XS.lload X0.here hx rfl (hb hby at_99) rfl k) ?_
      refine OD.go (B := (s₁.setTop (mkF m 102 #[.val (.int p0), .val (.int p1), .val (.int p2), .val (.int v11_1), .val (.int v23_4), .val (.double v37_7), .second, .val (.double v52_10), .second, .val (.long v66_13), .second, .val (.long v81_16), .second, .unset, .unset] [(.int (lcmpW v66_13 v81_16))]))) (fun t k => XS.lcmp X0.here hx rfl (hb hby at_101) rfl k) ?_
      by_cases c102_22 : (lcmpW v66_13 v81_16) < (0 : Int32)
      · refine OD.go (B := (s₁.setTop (mkF m 105 #[.val (.int p0), .val (.int p1), .val (.int p2), .val (.int v11_1), .val (.int v23_4), .val (.double v37_7), .second, .val (.double v52_10), .second, .val (.long v66_13), .second, .val (.long v81_16), .second, .unset, .unset] []))) (fun t k => XS.ifNo X0.here hx rfl (hb hby at_102) rfl (by rw [if0]; exact (tlt c102_22).2.1) k) ?_
        refine OD.go (B := (s₁.setTop (mkF m 106 #[.val (.int p0), .val (.int p1), .val (.int p2), .val (.int v11_1), .val (.int v23_4), .val (.double v37_7), .second, .val (.double v52_10), .second, .val (.long v66_13), .second, .val (.long v81_16), .second, .unset, .unset] [(.int (1 : Int32))]))) (fun t k => XS.iconst X0.here hx rfl (hb hby at_105) k) ?_
        refine OD.go (B := (s₁.setTop (mkF m 108 #[.val (.int p0), .val (.int p1), .val (.int p2), .val (.int v11_1), .val (.int v23_4), .val (.double v37_7), .second, .val (.double v52_10), .second, .val (.long v66_13), .second, .val (.long v81_16), .second, .val (.int (1 : Int32)), .unset] []))) (fun t k => XS.istore X0.here hx rfl (hb hby at_106) rfl (l' := #[.val (.int p0), .val (.int p1), .val (.int p2), .val (.int v11_1), .val (.int v23_4), .val (.double v37_7), .second, .val (.double v52_10), .second, .val (.long v66_13), .second, .val (.long v81_16), .second, .val (.int (1 : Int32)), .unset]) rfl k) ?_
        refine OD.go (B := (s₁.setTop (mkF m 114 #[.val (.int p0), .val (.int p1), .val (.int p2), .val (.int v11_1), .val (.int v23_4), .val (.double v37_7), .second, .val (.double v52_10), .second, .val (.long v66_13), .second, .val (.long v81_16), .second, .val (.int (1 : Int32)), .unset] []))) (fun t k => XS.goto X0.here hx rfl (pc0 := 108) (pc' := 114) rfl (hb hby at_108) (by decide) (by decide) k) ?_
        rw [if_neg c88_21, if_pos c102_22] at hv114_19
        rw [hv114_19] at J114_20
        exact J114_20
      · refine OD.go (B := (s₁.setTop (mkF m 111 #[.val (.int p0), .val (.int p1), .val (.int p2), .val (.int v11_1), .val (.int v23_4), .val (.double v37_7), .second, .val (.double v52_10), .second, .val (.long v66_13), .second, .val (.long v81_16), .second, .unset, .unset] []))) (fun t k => XS.ifYes X0.here hx rfl (pc0 := 102) (pc' := 111) rfl (hb hby at_102) rfl (by rw [if0]; exact (flt c102_22).2.1) (by decide) (by decide) k) ?_
        refine OD.go (B := (s₁.setTop (mkF m 112 #[.val (.int p0), .val (.int p1), .val (.int p2), .val (.int v11_1), .val (.int v23_4), .val (.double v37_7), .second, .val (.double v52_10), .second, .val (.long v66_13), .second, .val (.long v81_16), .second, .unset, .unset] [(.int (0 : Int32))]))) (fun t k => XS.iconst X0.here hx rfl (hb hby at_111) k) ?_
        refine OD.go (B := (s₁.setTop (mkF m 114 #[.val (.int p0), .val (.int p1), .val (.int p2), .val (.int v11_1), .val (.int v23_4), .val (.double v37_7), .second, .val (.double v52_10), .second, .val (.long v66_13), .second, .val (.long v81_16), .second, .val (.int (0 : Int32)), .unset] []))) (fun t k => XS.istore X0.here hx rfl (hb hby at_112) rfl (l' := #[.val (.int p0), .val (.int p1), .val (.int p2), .val (.int v11_1), .val (.int v23_4), .val (.double v37_7), .second, .val (.double v52_10), .second, .val (.long v66_13), .second, .val (.long v81_16), .second, .val (.int (0 : Int32)), .unset]) rfl k) ?_
        rw [if_neg c88_21, if_neg c102_22] at hv114_19
        rw [hv114_19] at J114_20
        exact J114_20
  refine OD.go (B := (s₁.setTop (mkF m 116 #[.val (.int p0), .val (.int p1), .val (.int p2), .val (.int v11_1), .val (.int v23_4), .val (.double v37_7), .second, .val (.double v52_10), .second, .val (.long v66_13), .second, .val (.long v81_16), .second, .val (.int v114_19), .unset] [(.double v37_7)]))) (fun t k => XS.dload X0.here hx rfl (hb hby at_114) rfl k) ?_
  refine OD.go (B := (s₁.setTop (mkF m 118 #[.val (.int p0), .val (.int p1), .val (.int p2), .val (.int v11_1), .val (.int v23_4), .val (.double v37_7), .second, .val (.double v52_10), .second, .val (.long v66_13), .second, .val (.long v81_16), .second, .val (.int v114_19), .unset] [(.double v52_10), (.double v37_7)]))) (fun t k => XS.dload X0.here hx rfl (hb hby at_116) rfl k) ?_
  obtain ⟨_, _, ⟨T23, L23, k23, n23⟩, -, X23, ⟨Lc23, hQ23, l23, y23, z23⟩, st23⟩ := Jvm.LawKit.callS X0 hx (y := (⟨"com/example/querent/querent/trec/ScoredDocument", "higherFirst", "(DD)I"⟩ : MethodName)) hown (mvT hZ (W0 hw)) (mvT hZ (W1 hw)) (mvT hZ (W2 hw)) (mvT hZ (W3 hw)) (by decide) (backOf (W := 0) (rm1 l Z a0 hw [] v37_7 v52_10 h0 ) hZ (W3 hw) (W2 hw) (by decide) (by decide)) (g := (mkF m 118 #[.val (.int p0), .val (.int p1), .val (.int p2), .val (.int v11_1), .val (.int v23_4), .val (.double v37_7), .second, .val (.double v52_10), .second, .val (.long v66_13), .second, .val (.long v81_16), .second, .val (.int v114_19), .unset] [(.double v52_10), (.double v37_7)])) rfl (by rw [hml]; rfl) (argsL := [(.double v37_7), (.double v52_10)]) (rest := []) (lenOf pd0 rfl) rfl (by show 2 * 0 + _ ≤ _; exact Nat.le_of_eq rfl) (hb hby at_118) (fun _ _ => ⟨rfl, e0, (Nat.le_of_ble_eq_true rfl), (Nat.le_of_ble_eq_true rfl)⟩)
  dsimp only [Pt.U, Pt.locs, Pt.cells, Pt.slots] at X23 l23 y23 z23 st23 hQ23
  subst l23 y23 z23
  obtain ⟨rfl, rfl, e23⟩ := hQ23
  refine OD.go (B := (T23.setTop (mkF m 121 #[.val (.int p0), .val (.int p1), .val (.int p2), .val (.int v11_1), .val (.int v23_4), .val (.double v37_7), .second, .val (.double v52_10), .second, .val (.long v66_13), .second, .val (.long v81_16), .second, .val (.int v114_19), .unset] [(.int (own_hf v37_7 v52_10))]))) st23 ?_
  refine OD.go (B := (T23.setTop (mkF m 123 #[.val (.int p0), .val (.int p1), .val (.int p2), .val (.int v11_1), .val (.int v23_4), .val (.double v37_7), .second, .val (.double v52_10), .second, .val (.long v66_13), .second, .val (.long v81_16), .second, .val (.int v114_19), .val (.int (own_hf v37_7 v52_10))] []))) (fun t k => XS.istore X23.here hx rfl (hb hby at_121) rfl (l' := #[.val (.int p0), .val (.int p1), .val (.int p2), .val (.int v11_1), .val (.int v23_4), .val (.double v37_7), .second, .val (.double v52_10), .second, .val (.long v66_13), .second, .val (.long v81_16), .second, .val (.int v114_19), .val (.int (own_hf v37_7 v52_10))]) rfl k) ?_
  refine OD.go (B := (T23.setTop (mkF m 125 #[.val (.int p0), .val (.int p1), .val (.int p2), .val (.int v11_1), .val (.int v23_4), .val (.double v37_7), .second, .val (.double v52_10), .second, .val (.long v66_13), .second, .val (.long v81_16), .second, .val (.int v114_19), .val (.int (own_hf v37_7 v52_10))] [(.int (own_hf v37_7 v52_10))]))) (fun t k => XS.iload X23.here hx rfl (hb hby at_123) rfl k) ?_
  obtain ⟨_, _, ⟨T24, L24, k24, n24⟩, -, X24, ⟨Lc24, hQ24, l24, y24, z24⟩, st24⟩ := Jvm.LawKit.callS X23 hx (y := (⟨"com/example/querent/querent/trec/ScoredDocumentHigherFirstPinLaw", "sign", "(I)I"⟩ : MethodName)) hown (mvT hZ (W4 hw)) (mvT hZ (W5 hw)) (mvT hZ (W6 hw)) (mvT hZ (W7 hw)) (by decide) (backOf (W := 0) (rm2 l Z a0 hw [] (own_hf v37_7 v52_10) h0 ) hZ (W7 hw) (W6 hw) (by decide) (by decide)) (g := (mkF m 125 #[.val (.int p0), .val (.int p1), .val (.int p2), .val (.int v11_1), .val (.int v23_4), .val (.double v37_7), .second, .val (.double v52_10), .second, .val (.long v66_13), .second, .val (.long v81_16), .second, .val (.int v114_19), .val (.int (own_hf v37_7 v52_10))] [(.int (own_hf v37_7 v52_10))])) rfl (by rw [hml]; rfl) (argsL := [(.int (own_hf v37_7 v52_10))]) (rest := []) (lenOf pd1 rfl) rfl (by show 2 * 0 + _ ≤ _; exact Nat.le_of_eq rfl) (hb hby at_125) (fun _ _ => ⟨rfl, e23, (Nat.le_of_ble_eq_true rfl), (Nat.le_of_ble_eq_true rfl)⟩)
  dsimp only [Pt.U, Pt.locs, Pt.cells, Pt.slots] at X24 l24 y24 z24 st24 hQ24
  subst l24 y24 z24
  obtain ⟨rfl, rfl, e24⟩ := hQ24
  refine OD.go (B := (T24.setTop (mkF m 128 #[.val (.int p0), .val (.int p1), .val (.int p2), .val (.int v11_1), .val (.int v23_4), .val (.double v37_7), .second, .val (.double v52_10), .second, .val (.long v66_13), .second, .val (.long v81_16), .second, .val (.int v114_19), .val (.int (own_hf v37_7 v52_10))] [(.int (own_sign (own_hf v37_7 v52_10)))]))) st24 ?_
  refine OD.go (B := (T24.setTop (mkF m 130 #[.val (.int p0), .val (.int p1), .val (.int p2), .val (.int v11_1), .val (.int v23_4), .val (.double v37_7), .second, .val (.double v52_10), .second, .val (.long v66_13), .second, .val (.long v81_16), .second, .val (.int v114_19), .val (.int (own_hf v37_7 v52_10))] [(.int v114_19), (.int (own_sign (own_hf v37_7 v52_10)))]))) (fun t k => XS.iload X24.here hx rfl (hb hby at_128) rfl k) ?_
  obtain ⟨v138_25, hv138_25⟩ : ∃ z : Int32, z = (if (own_sign (own_hf v37_7 v52_10)) = v114_19 then (1 : Int32) else (0 : Int32)) := ⟨_, rfl⟩
  refine OD.cut (B := (T24.setTop (mkF m 138 #[.val (.int p0), .val (.int p1), .val (.int p2), .val (.int v11_1), .val (.int v23_4), .val (.double v37_7), .second, .val (.double v52_10), .second, .val (.long v66_13), .second, .val (.long v81_16), .second, .val (.int v114_19), .val (.int (own_hf v37_7 v52_10))] [(.int v138_25)]))) (fun J138_26 => ?_) ?_
  · skip
    by_cases c130_27 : (own_sign (own_hf v37_7 v52_10)) = v114_19
    · refine OD.go (B := (T24.setTop (mkF m 133 #[.val (.int p0), .val (.int p1), .val (.int p2), .val (.int v11_1), .val (.int v23_4), .val (.double v37_7), .second, .val (.double v52_10), .second, .val (.long v66_13), .second, .val (.long v81_16), .second, .val (.int v114_19), .val (.int (own_hf v37_7 v52_10))] []))) (fun t k => XS.icmpNo X24.here hx rfl (hb hby at_130) rfl (teq c130_27).2 k) ?_
      refine OD.go (B := (T24.setTop (mkF m 134 #[.val (.int p0), .val (.int p1), .val (.int p2), .val (.int v11_1), .val (.int v23_4), .val (.double v37_7), .second, .val (.double v52_10), .second, .val (.long v66_13), .second, .val (.long v81_16), .second, .val (.int v114_19), .val (.int (own_hf v37_7 v52_10))] [(.int (1 : Int32))]))) (fun t k => XS.iconst X24.here hx rfl (hb hby at_133) k) ?_
      refine OD.go (B := (T24.setTop (mkF m 138 #[.val (.int p0), .val (.int p1), .val (.int p2), .val (.int v11_1), .val (.int v23_4), .val (.double v37_7), .second, .val (.double v52_10), .second, .val (.long v66_13), .second, .val (.long v81_16), .second, .val (.int v114_19), .val (.int (own_hf v37_7 v52_10))] [(.int (1 : Int32))]))) (fun t k => XS.goto X24.here hx rfl (pc0 := 134) (pc' := 138) rfl (hb hby at_134) (by decide) (by decide) k) ?_
      rw [if_pos c130_27] at hv138_25
      rw [hv138_25] at J138_26
      exact J138_26
    · refine OD.go (B := (T24.setTop (mkF m 137 #[.val (.int p0), .val (.int p1), .val (.int p2), .val (.int v11_1), .val (.int v23_4), .val (.double v37_7), .second, .val (.double v52_10), .second, .val (.long v66_13), .second, .val (.long v81_16), .second, .val (.int v114_19), .val (.int (own_hf v37_7 v52_10))] []))) (fun t k => XS.icmpYes X24.here hx rfl (pc0 := 130) (pc' := 137) rfl (hb hby at_130) rfl (feq c130_27).2 (by decide) (by decide) k) ?_
      refine OD.go (B := (T24.setTop (mkF m 138 #[.val (.int p0), .val (.int p1), .val (.int p2), .val (.int v11_1), .val (.int v23_4), .val (.double v37_7), .second, .val (.double v52_10), .second, .val (.long v66_13), .second, .val (.long v81_16), .second, .val (.int v114_19), .val (.int (own_hf v37_7 v52_10))] [(.int (0 : Int32))]))) (fun t k => XS.iconst X24.here hx rfl (hb hby at_137) k) ?_
      rw [if_neg c130_27] at hv138_25
      rw [hv138_25] at J138_26
      exact J138_26
  have fin : v138_25 = 1 := own_plain hv11_1 hv23_4 hv37_7 hv52_10 hv66_13 hv81_16 hv114_19 hv138_25
  rw [fin]
  exact OD.ret X24 hx hlk (t := .boolean) Bd.returns rfl (Or.inl ⟨rfl, Or.inr (Or.inl rfl), _, rfl⟩) (hb hby at_138) (Nat.le_of_ble_eq_true rfl) (Nat.le_of_ble_eq_true rfl) ⟨rfl, Fr.nil _⟩
set_option maxRecDepth 65536 in
set_option maxHeartbeats 40000000 in
theorem comes_1 {Post : Tables → Env → Array Value → State → Outcome → State → Prop} (hpost : ∀ tb e args s v u, (limb_1_1.after args s (.returned v) u = true ∧ limb_1_2.after args s (.returned v) u = true ∧ True) → FrameEnd s (.returned v) u (Jvm.fieldLocs frame_1_writes args s ++ Jvm.arrayLocs frame_1_arrays args s ++ Jvm.staticLocs frame_1_statics s) 0 0 → Post tb e args s (.returned v) u) :
    ArmFor flags0 classFile x code maxLocals ret World_1 tables_1 room_1 Calls_1 rest_1 Pre_1 Post := by
  intro l hfl _ _ p e ha hc hk s m args below hf hA hF happ hP
  obtain ⟨hcalls, hrest, hpre⟩ := hP
  obtain ⟨-, -, -, hnamed, -, -, -, hat⟩ := (Spec.applies_iff hf).mp happ
  obtain ⟨hg, hn⟩ := and_e (Cond.before_iff.mp (show (Jvm.Cond.and given_1 narrow_1).before args s = true from hpre))
  obtain ⟨hg0, hr0⟩ := and_e hg
  obtain ⟨hg1, hr1⟩ := and_e hr0
  obtain ⟨hg2, hr2⟩ := and_e hr1
  obtain ⟨w0, w1, w2, rfl⟩ : ∃ w0 w1 w2 : Value, args = #[w0, w1, w2] := by
    have hs : args.size = 3 := by simpa [Cond.value, given_1] using hg0
    obtain ⟨L⟩ := args
    match L, hs with
    | [w0, w1, w2], _ => exact ⟨w0, w1, w2, rfl⟩
  have hw := fun d (hd : d ∈ tables_1) => atoms_spec (ws := Jvm.Cond.code x code maxLocals ret :: tables_1) hat d (List.mem_cons_of_mem _ hd)
  obtain ⟨i0, ei0⟩ := is_v hg1
  obtain rfl : w0 = (.int i0) := Option.some.inj ei0
  obtain ⟨i1, ei1⟩ := is_v hg2
  obtain rfl : w1 = (.int i1) := Option.some.inj ei1
  obtain ⟨i2, ei2⟩ := is_v hr2
  obtain rfl : w2 = (.int i2) := Option.some.inj ei2
  obtain ⟨n, o, h1, h2, h3, _, L, rfl, ⟨rfl, N⟩, hq⟩ := rm0 l s _ hw tables_1 i0 i1 i2 s.heap  p e ha hc hk s m _ below hf ((Spec.applies_iff_loose hf).mp happ).1 ⟨rfl, State.Warmed39.refl s, rfl⟩ trivial
  refine ⟨n, _, h1, h2, h3, hpost _ _ _ _ _ _ ⟨Cond.after_iff.mpr rfl, Cond.after_iff.mpr (eq_i res_at (Term.int_eval (1)) rfl), trivial⟩ ⟨hq.1, hq.2.1, (hq.2.2.sift fun y hy => Or.inr (N y hy)).mono (by decide) (by decide)⟩⟩
theorem main_1_1 : Claimed_1_1 := comes_1 fun _ _ _ _ _ _ h hF => ⟨h.1, hF⟩
theorem main_1_2 : Claimed_1_2 := comes_1 fun _ _ _ _ _ _ h hF => ⟨h.2.1, hF⟩
end Jvm.Pilot.@@N@@
namespace Jvm.Pilot.@@N@@
open Jvm Jvm.ClassFile Sem Op Lib Jvm.Free Jvm.Stand Jvm.Pilot.@@N@@.Jvm.D
/-! MADE BY PROGRAM (witnessworld.py) out of the Statement's table words and the real class files: 10 classes; the members and pool entries that the words name. The judged class is class 1, her method 2. -/
namespace start1
open Jvm.ClassFile
def u (s : String) : CpInfo := .utf8 (stringToUtf16 s)
/-- a pool by its gaps: so many unusable entries, then the entry; so many at the end -/
def gap : Nat → List CpInfo → List CpInfo
  | 0, r => r
  | n + 1, r => .unusable :: gap n r
def poolList (es : List (Nat × CpInfo)) (last : Nat) : List CpInfo := es.foldr (fun e r => gap e.1 (e.2 :: r)) (gap last [])
def pool (es : List (Nat × CpInfo)) (last : Nat) : Array CpInfo := ⟨poolList es last⟩
def fileOf (pool : Array CpInfo) (this : Nat) (attrs : Array Attribute := #[]) (ms : Array MethodInfo := #[]) (fl : Nat := 33) (sup : Nat := 0) (ifs : Array Nat := #[]) (fds : Array FieldInfo := #[]) : ClassFile where
  minorVersion := 0
  majorVersion := 65
  constantPool := pool
  accessFlags := fl
  thisClass := this
  superClass := sup
  interfaces := ifs
  fields := fds
  methods := ms
  attributes := attrs
def plain (name : String) (sup : Option ClassId) : Class where
  name := name
  kind := .ordinary
  loader := none
  accessFlags := 33
  super := sup
  interfaces := #[]
  cf := none
  fields := #[]
  methods := #[]
  instanceTypes := #[]
  staticTypes := #[]
  resolved := #[]
  callSites := []
  init := .initialized
  statics := none
  mirror := none

def pool0 : Array CpInfo := pool [(5, u "<init>"), (0, u "()V"), (1, .class_ 10), (1, u "java/lang/Object")] 113

def k0m0 : Method := { name := "<init>", desc := "()V", sig := { parameters := [], returnType := none }, accessFlags := 1, code := none }
/-- java/lang/Object -/
def k0 : Class := { plain "java/lang/Object" none with
  accessFlags := 33
  interfaces := #[]
  cf := some (fileOf pool0 8 #[] #[{ accessFlags := 1, nameIndex := 5, descriptorIndex := 6, attributes := #[] }] 33 0 #[] #[])
  fields := #[]
  methods := #[k0m0]
  instanceTypes := #[]
  staticTypes := #[]
  resolved := Array.replicate 124 none
  statics := none }

def pool1 : Array CpInfo := pool [(2, .class_ 4), (1, u "java/lang/Object"), (0, u "<init>"), (0, u "()V"), (0, .methodref 8 9), (0, .class_ 10), (0, .nameAndType 11 12), (0, u "com/example/querent/querent/trec/ScoredDocument"), (0, u "higherFirst"), (0, u "(DD)I"), (0, .methodref 14 15), (0, .class_ 16), (0, .nameAndType 17 18), (0, u "com/example/querent/querent/trec/ScoredDocumentHigherFirstPinLaw"), (0, u "sign"), (0, u "(I)I"), (3, u "law"), (0, u "(III)Z")] 2

def k1m0 : Method := { name := "<init>", desc := "()V", sig := { parameters := [], returnType := none }, accessFlags := 2, code := none }
def k1c1 : Code := { maxStack := 1, maxLocals := 1, code := method_2_code, exceptionTable := #[], attributes := #[] }
def k1m1 : Method := { name := "sign", desc := "(I)I", sig := { parameters := [.int], returnType := some .int }, accessFlags := 10, code := some k1c1 }
def k1c2 : Code := { maxStack := 4, maxLocals := 15, code := code, exceptionTable := #[], attributes := #[] }
def k1m2 : Method := { name := "law", desc := "(III)Z", sig := { parameters := [.int, .int, .int], returnType := some .boolean }, accessFlags := 9, code := some k1c2 }
/-- com/example/querent/querent/trec/ScoredDocumentHigherFirstPinLaw -/
def k1 : Class := { plain "com/example/querent/querent/trec/ScoredDocumentHigherFirstPinLaw" (some 0) with
  accessFlags := 49
  interfaces := #[]
  cf := some (fileOf pool1 14 #[] #[{ accessFlags := 2, nameIndex := 5, descriptorIndex := 6, attributes := #[] }, { accessFlags := 10, nameIndex := 17, descriptorIndex := 18, attributes := #[] }, { accessFlags := 9, nameIndex := 22, descriptorIndex := 23, attributes := #[] }] 49 2 #[] #[])
  fields := #[]
  methods := #[k1m0, k1m1, k1m2]
  instanceTypes := #[]
  staticTypes := #[]
  resolved := Array.replicate 26 none
  statics := none }

def pool2 : Array CpInfo := pool [(2, .class_ 4), (1, u "java/lang/Object"), (0, u "<init>"), (0, u "()V"), (0, .class_ 8), (0, u "java/lang/Record")] 13

def k2m0 : Method := { name := "<init>", desc := "()V", sig := { parameters := [], returnType := none }, accessFlags := 4, code := none }
/-- java/lang/Record -/
def k2 : Class := { plain "java/lang/Record" (some 0) with
  accessFlags := 1057
  interfaces := #[]
  cf := some (fileOf pool2 7 #[] #[{ accessFlags := 4, nameIndex := 5, descriptorIndex := 6, attributes := #[] }] 1057 2 #[] #[])
  fields := #[]
  methods := #[k2m0]
  instanceTypes := #[]
  staticTypes := #[]
  resolved := Array.replicate 22 none
  statics := none }

def pool3 : Array CpInfo := pool [(2, .class_ 4), (1, u "java/lang/Record"), (3, .class_ 10), (1, u "com/example/querent/querent/trec/ScoredDocument"), (0, u "docno"), (0, u "Ljava/lang/String;"), (2, u "score"), (0, u "D"), (18, u "SHOWN_DECIMALS"), (0, u "I"), (8, u "higherFirst"), (0, u "(DD)I")] 26

def k3c0 : Code := { maxStack := 4, maxLocals := 5, code := prog_42_method_3_code, exceptionTable := #[], attributes := #[] }
def k3m0 : Method := { name := "higherFirst", desc := "(DD)I", sig := { parameters := [.double, .double], returnType := some .int }, accessFlags := 9, code := some k3c0 }
/-- com/example/querent/querent/trec/ScoredDocument -/
def k3 : Class := { plain "com/example/querent/querent/trec/ScoredDocument" (some 2) with
  accessFlags := 49
  interfaces := #[]
  cf := some (fileOf pool3 8 #[] #[{ accessFlags := 9, nameIndex := 45, descriptorIndex := 46, attributes := #[] }] 49 2 #[] #[{ accessFlags := 18, nameIndex := 11, descriptorIndex := 12, attributes := #[] }, { accessFlags := 18, nameIndex := 15, descriptorIndex := 16, attributes := #[] }, { accessFlags := 26, nameIndex := 35, descriptorIndex := 36, attributes := #[] }])
  fields := #[{ name := "docno", type := (.object "java/lang/String"), accessFlags := 18, slot := 0, constantValue := 0 }, { name := "score", type := .double, accessFlags := 18, slot := 1, constantValue := 0 }, { name := "SHOWN_DECIMALS", type := .int, accessFlags := 26, slot := 0, constantValue := 0 }]
  methods := #[k3m0]
  instanceTypes := #[(.object "java/lang/String"), .double]
  staticTypes := #[.int]
  resolved := Array.replicate 73 none
  statics := none }

def pool4 : Array CpInfo := pool [(1, u "java/lang/Cloneable"), (0, .class_ 1), (0, u "java/lang/Object"), (0, .class_ 3)] 3

/-- java/lang/Cloneable -/
def k4 : Class := { plain "java/lang/Cloneable" (some 0) with
  accessFlags := 1537
  interfaces := #[]
  cf := some (fileOf pool4 2 #[] #[] 1537 4 #[] #[])
  fields := #[]
  methods := #[]
  instanceTypes := #[]
  staticTypes := #[]
  resolved := Array.replicate 8 none
  statics := none }

def pool5 : Array CpInfo := pool [(1, u "java/io/Serializable"), (0, .class_ 1), (0, u "java/lang/Object"), (0, .class_ 3)] 3

/-- java/io/Serializable -/
def k5 : Class := { plain "java/io/Serializable" (some 0) with
  accessFlags := 1537
  interfaces := #[]
  cf := some (fileOf pool5 2 #[] #[] 1537 4 #[] #[])
  fields := #[]
  methods := #[]
  instanceTypes := #[]
  staticTypes := #[]
  resolved := Array.replicate 8 none
  statics := none }

/-- the primitive byte -/
def k6 : Class := { plain "byte" none with kind := .primitive 'B', accessFlags := 0x411 }
/-- [B -/
def k7 : Class := { plain "[B" (some 0) with kind := .array 6 .byte, interfaces := #[4, 5], accessFlags := 1041 }

/-- the primitive int -/
def k8 : Class := { plain "int" none with kind := .primitive 'I', accessFlags := 0x411 }
/-- [I -/
def k9 : Class := { plain "[I" (some 0) with kind := .array 8 .int, interfaces := #[4, 5], accessFlags := 1041 }

def heap : Heap := #[]
def classes : Array Class := #[k0, k1, k2, k3, k4, k5, k6, k7, k8, k9]
def interned : List (Array UInt16 × Addr) := []
def slotsUsed : Nat := 0
def theMethod : MethodId := ⟨1, 2⟩
def args0 : Array Value := #[.int 5, .int 7, .int 1]
def aboutOver (below : List Frame) : State where
  vm := { classes := classes, interned := interned.toArray }
  heap := heap
  slotsUsed := slotsUsed
  threads := #[{ frames := .invoking theMethod args0 :: below }]
def below0 : List Frame := [.native { method := ⟨0, 0⟩, args := #[] }]
def about1 : State := aboutOver below0
def p0 : Program := .bare "" "" ""
def e0 : Env := launch0.env 0 0 0
theorem w_frames : about1.frames = Frame.invoking theMethod args0 :: below0 := rfl
set_option maxRecDepth 65536 in
theorem w_args : argsFit about1.vm theMethod args0 = true := by decide +kernel
set_option maxRecDepth 65536 in
theorem w_heap : heapFits about1 = true := by decide +kernel
set_option maxRecDepth 65536 in
theorem w_runnable : about1.curStatus? = some .runnable := by decide +kernel
set_option maxRecDepth 65536 in
theorem w_alone : about1.alone = true := by decide +kernel
set_option maxRecDepth 65536 in
theorem w_named : about1.methodNamed? x = some theMethod := by decide +kernel
set_option maxRecDepth 65536 in
theorem w_hears : about1.hears theMethod below0 = true := by decide +kernel
set_option maxRecDepth 65536 in
theorem w_ripe : about1.ripe theMethod args0 below0 = true := by decide +kernel
theorem w_running : about1.status = .running := rfl
set_option maxRecDepth 65536 in
theorem w_room : about1.hasRoom e0.platform room_1 = true :=
  launch0.hasRoom_least _ room_1 (by decide +kernel) (by decide +kernel) (by decide +kernel) (by decide +kernel) (by decide +kernel) (by decide +kernel)
theorem allAtoms_all (ts : List Jvm.Cond) (a : Array Jvm.Value) (st : Jvm.State) : (allAtoms ts).before a st = ts.all (fun c => c.before a st) := by
  induction ts with
  | nil => rfl
  | cons c t ih =>
    show (Jvm.Cond.and c (allAtoms t)).before a st = _
    rw [Jvm.Cond.before_and, ih, List.all_cons]
def words1 : List Jvm.Cond := Jvm.Cond.code x code maxLocals ret :: tables_1
/-- a 'code' word, met by the world's own term for the bytes: nothing is compared byte by byte -/
theorem code_word {y : MethodName} {bytes : ByteArray} {mx : Nat} {rt : Option FieldType} {a : Array Value} {s : State} {m : MethodId} {meth : Method} {c : Code} (h1 : s.methodNamed? y = some m) (h2 : s.vm.method? m = some meth) (h3 : meth.code = some c) (h4 : c.code = bytes)
    (h5 : (c.maxLocals == mx && c.exceptionTable.isEmpty && decide (c.maxStack ≤ mostOperands) && decide (meth.sig.returnType = rt) && !meth.locks && decide (parseMethodDescriptor y.desc = some meth.sig)) = true) : (Jvm.Cond.code y bytes mx rt).before a s = true := by
  simp only [Bool.and_eq_true, beq_iff_eq, Bool.not_eq_true', decide_eq_true_eq] at h5
  obtain ⟨⟨⟨⟨⟨g1, g2⟩, g3⟩, g4⟩, g5⟩, g6⟩ := h5
  simp [Cond.before, Cond.holds, Cond.value, h1, h2, h3, h4, g1, g2, g3, g4, g5, g6]
def isCode : Jvm.Cond → Bool
  | .code _ _ _ _ => true
  | _ => false
theorem all_split {L : List Jvm.Cond} {P : Jvm.Cond → Bool} (h1 : L.all (fun c => isCode c || P c) = true) (h2 : ∀ c ∈ L.filter isCode, P c = true) : L.all P = true := by
  refine List.all_eq_true.mpr fun c hc => ?_
  have h := List.all_eq_true.mp h1 c hc
  rcases Bool.eq_false_or_eq_true (isCode c) with hi | hi
  · exact h2 c (List.mem_filter.mpr ⟨hc, hi⟩)
  · simpa [hi] using h
set_option maxRecDepth 65536 in
theorem w_c0 : (Jvm.Cond.code x code maxLocals ret).before args0 about1 = true := code_word (m := ⟨1, 2⟩) (meth := k1m2) (c := k1c2) (by decide +kernel) rfl rfl rfl (by decide +kernel)
set_option maxRecDepth 65536 in
theorem w_c1 : (Jvm.Cond.code ({ cls := "com/example/querent/querent/trec/ScoredDocument", name := "higherFirst", desc := "(DD)I" } : Jvm.MethodName) prog_42_method_3_code (5 : Nat) (Option.some Jvm.ClassFile.FieldType.int)).before args0 about1 = true := code_word (m := ⟨3, 0⟩) (meth := k3m0) (c := k3c0) (by decide +kernel) rfl rfl rfl (by decide +kernel)
set_option maxRecDepth 65536 in
theorem w_c2 : (Jvm.Cond.code ({ cls := "com/example/querent/querent/trec/ScoredDocumentHigherFirstPinLaw", name := "sign", desc := "(I)I" } : Jvm.MethodName) method_2_code (1 : Nat) (Option.some Jvm.ClassFile.FieldType.int)).before args0 about1 = true := code_word (m := ⟨1, 1⟩) (meth := k1m1) (c := k1c1) (by decide +kernel) rfl rfl rfl (by decide +kernel)
def codes1 : List Jvm.Cond := [Jvm.Cond.code x code maxLocals ret, Jvm.Cond.code ({ cls := "com/example/querent/querent/trec/ScoredDocument", name := "higherFirst", desc := "(DD)I" } : Jvm.MethodName) prog_42_method_3_code (5 : Nat) (Option.some Jvm.ClassFile.FieldType.int), Jvm.Cond.code ({ cls := "com/example/querent/querent/trec/ScoredDocumentHigherFirstPinLaw", name := "sign", desc := "(I)I" } : Jvm.MethodName) method_2_code (1 : Nat) (Option.some Jvm.ClassFile.FieldType.int)]
set_option maxRecDepth 65536 in
theorem codes_eq : words1.filter isCode = codes1 := rfl
theorem w_codes : ∀ c ∈ words1.filter isCode, c.before args0 about1 = true := by
  rw [codes_eq]
  intro c hc
  simp only [codes1, List.mem_cons, List.not_mem_nil, or_false] at hc
  rcases hc with rfl | rfl | rfl
  · exact w_c0
  · exact w_c1
  · exact w_c2
set_option maxRecDepth 65536 in
theorem w_t1 : words1.all (fun c => isCode c || c.before args0 about1) = true := by decide +kernel
theorem w_tables : (allAtoms (Jvm.Cond.code x code maxLocals ret :: tables_1)).before args0 about1 = true := by
  rw [allAtoms_all]
  show words1.all (fun c => c.before args0 about1) = true
  refine all_split ?_ w_codes
  rw [w_t1]
set_option maxRecDepth 65536 in
theorem w_case : (Jvm.Cond.and given_1 narrow_1).before args0 about1 = true := by decide +kernel
theorem w_applies : (headSpec (Jvm.Cond.code x code maxLocals ret :: tables_1) room_1).applies x e0.platform about1 = true :=
  (Spec.applies_iff w_frames).mpr ⟨w_running, w_runnable, w_alone, w_named, w_hears, w_ripe, w_room, w_tables⟩
theorem atStart : AtStart classFile x code maxLocals ret World_1 tables_1 room_1 Calls_1 rest_1 Pre_1 launch0 p0 e0 about1 theMethod args0 below0 :=
  ⟨lists_1, trivial, launch0.admits_env _ _ _, launch0.least_env, fairChoices_fair.cas, fairChoices_fair.clock, w_frames, w_args, w_heap, w_applies, trivial, trivial, w_case⟩
end start1
theorem witness_1 : WitnessClaimed_1 := ⟨start1.p0, start1.e0, start1.about1, start1.theMethod, start1.args0, start1.below0, start1.atStart⟩
end Jvm.Pilot.@@N@@
