import JvmDerived
import JvmDerived.Pilot.@@N@@Statement
import JvmDerived.Pilot.@@N@@Code
set_option linter.unusedVariables false
set_option linter.unusedSimpArgs false
namespace Jvm.Pilot.@@N@@
open Jvm Jvm.ClassFile Sem Op Lib Jvm.Free Jvm.Stand Jvm.LawKit Jvm.RoadKit Bundle Jvm.Pilot.@@N@@.Jvm.D

section OwnKit
variable {p : Program} {l : Launch} {e : Env} {R : Room} {s : State} {m : MethodId} {args : Array Value} {below : List Frame} {meth : Method} {c : Code} {T : State} {locs : List Loc} {cells slots : Nat}
/-- from A the invocation ends, and what it leaves is Q, within K cells and N slots -/
def OD (p : Program) (e : Env) (s : State) (below : List Frame) (Q : Option Value → Heap → List Loc → Prop) (K N : Nat) (A : State) : Prop :=
  ∃ s₂ o, Steps p.tables e below A s₂ ∧ s₂.status = .running ∧ Ended s₂ below o ∧ ∃ v L, o = .returned v ∧ Q v s₂.heap L ∧ FrameEnd s o s₂ L K N
theorem OD.go {Q : Option Value → Heap → List Loc → Prop} {K N : Nat} {A B : State} (h : ∀ t, Steps p.tables e below B t → Steps p.tables e below A t) (k : OD p e s below Q K N B) : OD p e s below Q K N A := by
  obtain ⟨s₂, o, h1, r⟩ := k
  exact ⟨s₂, o, h _ h1, r⟩
theorem OD.via {Q : Option Value → Heap → List Loc → Prop} {K N : Nat} {A B : State} (h : Steps p.tables e below A B) (k : OD p e s below Q K N B) : OD p e s below Q K N A := OD.go (fun _ q => h.trans q) k
theorem OD.cut {Q : Option Value → Heap → List Loc → Prop} {K N : Nat} {A B : State} (f : OD p e s below Q K N B → OD p e s below Q K N A) (g : OD p e s below Q K N B) : OD p e s below Q K N A := f g
theorem OD.cutA {Q : Option Value → Heap → List Loc → Prop} {K N : Nat} {A : State} {P : State → Prop} {B : State → State} (f : (∀ T, P T → OD p e s below Q K N (B T)) → OD p e s below Q K N A) (g : ∀ T, P T → OD p e s below Q K N (B T)) : OD p e s below Q K N A := f g
theorem OD.ret {Q : Option Value → Heap → List Loc → Prop} {K N : Nat} (X : Stand p l e R s m args below meth c T locs cells slots) (hx : p.tables.exec = Jvm.exec) (hlk : meth.locks = false) {pc : Nat} {Ls : Array Slot} {w : Value} {t : FieldType} {i : Instr} {rest : List Value} (hret : meth.sig.returnType = some t) (hn : narrow t w = w)
    (hi : (i = .ireturn ∧ (t = .int ∨ t = .boolean ∨ t = .byte ∨ t = .char ∨ t = .short) ∧ ∃ z, w = .int z) ∨ (i = .lreturn ∧ t = .long ∧ ∃ z, w = .long z) ∨ (i = .dreturn ∧ t = .double ∧ ∃ z, w = .double z) ∨ (i = .freturn ∧ t = .float ∧ ∃ z, w = .float z) ∨ (i = .areturn ∧ t.isReference = true ∧ w.isRef = true))
    (hd : decode c.code pc = .ok (i, 1)) (hk : cells ≤ K) (hs : slots ≤ N) (hQ : Q (some w) T.heap locs) : OD p e s below Q K N (T.setTop (mkF m pc Ls (w :: rest))) := by
  obtain ⟨fs, hr, hrun, hended, hW, hsame⟩ := X.leave (v := some w) (fun h => by rw [hret] at h; cases h) hlk
  exact ⟨_, _, retOut X hx hret hn hi hd hr, hrun, hended, _, _, rfl, hQ, ⟨_, rfl⟩, hW, hsame.mono hk hs⟩
theorem OD.retV {Q : Option Value → Heap → List Loc → Prop} {K N : Nat} (X : Stand p l e R s m args below meth c T locs cells slots) (hx : p.tables.exec = Jvm.exec) (hlk : meth.locks = false) {pc : Nat} {Ls : Array Slot} (hret : meth.sig.returnType = none)
    (hd : decode c.code pc = .ok (.return_, 1)) (hk : cells ≤ K) (hs : slots ≤ N) (hQ : Q none T.heap locs) : OD p e s below Q K N (T.setTop (mkF m pc Ls [])) := by
  obtain ⟨fs, hr, hrun, hended, hW, hsame⟩ := X.leave (v := none) (fun _ => rfl) hlk
  exact ⟨_, _, X.returnOut hx hret hd hr, hrun, hended, _, _, rfl, hQ, ⟨_, rfl⟩, hW, hsame.mono hk hs⟩
theorem own_len {Z : State} {h : Heap} {a : Addr} {k : ClassId} {ty : FieldType} {z : Int32} {vs : List Value} {dv : Value} (F : Arv Z h a k ty z vs dv) : ∃ cl : Cell, Arr Z h a cl ty ∧ cl.slots.size.toInt32 = z := by
  obtain ⟨cl, A, -, S, M, -⟩ := F
  exact ⟨cl, A, len_of S M⟩
theorem own_at {Z : State} {h : Heap} {a : Addr} {k : ClassId} {ty : FieldType} {z j : Int32} {vs : List Value} {dv v : Value} (F : Arv Z h a k ty z vs dv) (q : ¬ j < 0 ∧ j < z) (u : vs.getD j.toNatClampNeg dv = v) : ∃ cl : Cell, Arr Z h a cl ty ∧ ¬ (j < 0 ∨ cl.slots.size ≤ j.toNatClampNeg) ∧ cl.slots[j.toNatClampNeg]? = some v := by
  obtain ⟨cl, A, -, S, M, H, -⟩ := F
  exact ⟨cl, A, inb_of S q, H.at (inb_of S q) u⟩
end OwnKit
theorem ef0 (m : MethodId) (x0 : Addr) : entryFrame m #[(.ref x0)] 1 = mkF m 0 #[.val (.ref x0)] [] := by first | (simp [entryFrame, mkF, argsToLocals, Value.category]; done) | rfl
theorem pn0 : plainName "java/lang/Number" = true := by first | (simp [plainName, overriddenIn]; done) | decide +kernel
theorem d3_0 : decode jdk_18_method_1_code 0 = .ok (.aload_n 0, 1) := by decide +kernel
theorem W16 {Z : State} {a0 : Array Value} (hw : ∀ d ∈ tables_1, d.before a0 Z = true) : ((Jvm.Cond.methodLink "java/lang/Number" (1 : Nat) ({ cls := "java/lang/Object", name := "<init>", desc := "()V" } : Jvm.MethodName)) : Jvm.Cond).before a0 Z = true := hw _ (List.mem_of_getElem? (i := 16) rfl)
theorem W17 {Z : State} {a0 : Array Value} (hw : ∀ d ∈ tables_1, d.before a0 Z = true) : ((Jvm.Cond.instanceMethod ({ cls := "java/lang/Object", name := "<init>", desc := "()V" } : Jvm.MethodName)) : Jvm.Cond).before a0 Z = true := hw _ (List.mem_of_getElem? (i := 17) rfl)
theorem W18 {Z : State} {a0 : Array Value} (hw : ∀ d ∈ tables_1, d.before a0 Z = true) : ((Jvm.Cond.code ({ cls := "java/lang/Object", name := "<init>", desc := "()V" } : Jvm.MethodName) object_method_1_code (1 : Nat) (Option.none : Option Jvm.ClassFile.FieldType)) : Jvm.Cond).before a0 Z = true := hw _ (List.mem_of_getElem? (i := 18) rfl)
theorem d3_1 : decode jdk_18_method_1_code 1 = .ok (.invokespecial 1, 3) := by decide +kernel
theorem d3_4 : decode jdk_18_method_1_code 4 = .ok (.return_, 1) := by decide +kernel
theorem ef1 (m : MethodId) (x0 : Addr) (x1 : UInt64) : entryFrame m #[(.ref x0), (.double x1)] 3 = mkF m 0 #[.val (.ref x0), .val (.double x1), .second] [] := by first | (simp [entryFrame, mkF, argsToLocals, Value.category]; done) | rfl
theorem pn1 : plainName "java/lang/Double" = true := by first | (simp [plainName, overriddenIn]; done) | decide +kernel
theorem d2_0 : decode jdk_117_method_9_code 0 = .ok (.aload_n 0, 1) := by decide +kernel
theorem W10 {Z : State} {a0 : Array Value} (hw : ∀ d ∈ tables_1, d.before a0 Z = true) : ((Jvm.Cond.methodLink "java/lang/Double" (113 : Nat) ({ cls := "java/lang/Number", name := "<init>", desc := "()V" } : Jvm.MethodName)) : Jvm.Cond).before a0 Z = true := hw _ (List.mem_of_getElem? (i := 10) rfl)
theorem W15 {Z : State} {a0 : Array Value} (hw : ∀ d ∈ tables_1, d.before a0 Z = true) : ((Jvm.Cond.code ({ cls := "java/lang/Number", name := "<init>", desc := "()V" } : Jvm.MethodName) jdk_18_method_1_code (1 : Nat) (Option.none : Option Jvm.ClassFile.FieldType)) : Jvm.Cond).before a0 Z = true := hw _ (List.mem_of_getElem? (i := 15) rfl)
theorem W14 {Z : State} {a0 : Array Value} (hw : ∀ d ∈ tables_1, d.before a0 Z = true) : ((Jvm.Cond.initialized "java/lang/Number") : Jvm.Cond).before a0 Z = true := hw _ (List.mem_of_getElem? (i := 14) rfl)
theorem pd0 : parseMethodDescriptor "()V" = some ⟨[], none⟩ := by decide +kernel
theorem d2_1 : decode jdk_117_method_9_code 1 = .ok (.invokespecial 113, 3) := by decide +kernel
theorem W11 {Z : State} {a0 : Array Value} (hw : ∀ d ∈ tables_1, d.before a0 Z = true) : ((Jvm.Cond.instanceMethod ({ cls := "java/lang/Number", name := "<init>", desc := "()V" } : Jvm.MethodName)) : Jvm.Cond).before a0 Z = true := hw _ (List.mem_of_getElem? (i := 11) rfl)
theorem d2_4 : decode jdk_117_method_9_code 4 = .ok (.aload_n 0, 1) := by decide +kernel
theorem d2_5 : decode jdk_117_method_9_code 5 = .ok (.dload_n 1, 1) := by decide +kernel
theorem d2_6 : decode jdk_117_method_9_code 6 = .ok (.putfield 118, 3) := by decide +kernel
theorem W19 {Z : State} {a0 : Array Value} (hw : ∀ d ∈ tables_1, d.before a0 Z = true) : ((Jvm.Cond.fieldLink "java/lang/Double" (118 : Nat) "java/lang/Double" "value" "D") : Jvm.Cond).before a0 Z = true := hw _ (List.mem_of_getElem? (i := 19) rfl)
theorem W20 {Z : State} {a0 : Array Value} (hw : ∀ d ∈ tables_1, d.before a0 Z = true) : ((Jvm.Cond.laysFinal "java/lang/Double" "java/lang/Double" "value" "D") : Jvm.Cond).before a0 Z = true := hw _ (List.mem_of_getElem? (i := 20) rfl)
theorem W5 {Z : State} {a0 : Array Value} (hw : ∀ d ∈ tables_1, d.before a0 Z = true) : ((Jvm.Cond.instantiable "java/lang/Double" (1 : Nat)) : Jvm.Cond).before a0 Z = true := hw _ (List.mem_of_getElem? (i := 5) rfl)
theorem d2_9 : decode jdk_117_method_9_code 9 = .ok (.return_, 1) := by decide +kernel
theorem ef2 (m : MethodId) (x0 : UInt64) : entryFrame m #[(.double x0)] 2 = mkF m 0 #[.val (.double x0), .second] [] := by first | (simp [entryFrame, mkF, argsToLocals, Value.category]; done) | rfl
theorem d1_0 : decode jdk_117_method_4_code 0 = .ok (.new 1, 3) := by decide +kernel
theorem W4 {Z : State} {a0 : Array Value} (hw : ∀ d ∈ tables_1, d.before a0 Z = true) : ((Jvm.Cond.classLink "java/lang/Double" (1 : Nat) "java/lang/Double") : Jvm.Cond).before a0 Z = true := hw _ (List.mem_of_getElem? (i := 4) rfl)
theorem W2 {Z : State} {a0 : Array Value} (hw : ∀ d ∈ tables_1, d.before a0 Z = true) : ((Jvm.Cond.initialized "java/lang/Double") : Jvm.Cond).before a0 Z = true := hw _ (List.mem_of_getElem? (i := 2) rfl)
theorem d1_3 : decode jdk_117_method_4_code 3 = .ok (.dup, 1) := by decide +kernel
theorem d1_4 : decode jdk_117_method_4_code 4 = .ok (.dload_n 0, 1) := by decide +kernel
theorem W6 {Z : State} {a0 : Array Value} (hw : ∀ d ∈ tables_1, d.before a0 Z = true) : ((Jvm.Cond.methodLink "java/lang/Double" (105 : Nat) ({ cls := "java/lang/Double", name := "<init>", desc := "(D)V" } : Jvm.MethodName)) : Jvm.Cond).before a0 Z = true := hw _ (List.mem_of_getElem? (i := 6) rfl)
theorem W9 {Z : State} {a0 : Array Value} (hw : ∀ d ∈ tables_1, d.before a0 Z = true) : ((Jvm.Cond.code ({ cls := "java/lang/Double", name := "<init>", desc := "(D)V" } : Jvm.MethodName) jdk_117_method_9_code (3 : Nat) (Option.none : Option Jvm.ClassFile.FieldType)) : Jvm.Cond).before a0 Z = true := hw _ (List.mem_of_getElem? (i := 9) rfl)
theorem pd1 : parseMethodDescriptor "(D)V" = some ⟨[.double], none⟩ := by decide +kernel
theorem d1_5 : decode jdk_117_method_4_code 5 = .ok (.invokespecial 105, 3) := by decide +kernel
theorem W7 {Z : State} {a0 : Array Value} (hw : ∀ d ∈ tables_1, d.before a0 Z = true) : ((Jvm.Cond.instanceMethod ({ cls := "java/lang/Double", name := "<init>", desc := "(D)V" } : Jvm.MethodName)) : Jvm.Cond).before a0 Z = true := hw _ (List.mem_of_getElem? (i := 7) rfl)
theorem d1_8 : decode jdk_117_method_4_code 8 = .ok (.areturn, 1) := by decide +kernel
theorem d6_0 : decode jdk_117_method_19_code 0 = .ok (.aload_n 0, 1) := by decide +kernel
theorem d6_1 : decode jdk_117_method_19_code 1 = .ok (.getfield 118, 3) := by decide +kernel
theorem d6_4 : decode jdk_117_method_19_code 4 = .ok (.dreturn, 1) := by decide +kernel
theorem ef3 (m : MethodId) (x1 : UInt64) : entryFrame m #[.null, (.double x1)] 3 = mkF m 0 #[.val .null, .val (.double x1), .second] [] := by first | (simp [entryFrame, mkF, argsToLocals, Value.category]; done) | rfl
theorem pn2 : plainName "operand/expression/MapEvaluation" = true := by first | (simp [plainName, overriddenIn]; done) | decide +kernel
theorem d5_0 : decode prog_35_method_4_code 0 = .ok (.aload_n 0, 1) := by decide +kernel
theorem d5_1 : decode prog_35_method_4_code 1 = .ok (.ifnonnull 7, 3) := by decide +kernel
theorem d5_4 : decode prog_35_method_4_code 4 = .ok (.dload_n 1, 1) := by decide +kernel
theorem d5_5 : decode prog_35_method_4_code 5 = .ok (.goto 10, 3) := by decide +kernel
theorem d5_15 : decode prog_35_method_4_code 15 = .ok (.dreturn, 1) := by decide +kernel
theorem d5_8 : decode prog_35_method_4_code 8 = .ok (.aload_n 0, 1) := by decide +kernel
theorem d5_9 : decode prog_35_method_4_code 9 = .ok (.checkcast 12, 3) := by decide +kernel
theorem W25 {Z : State} {a0 : Array Value} (hw : ∀ d ∈ tables_1, d.before a0 Z = true) : ((Jvm.Cond.classLink "operand/expression/MapEvaluation" (12 : Nat) "java/lang/Double") : Jvm.Cond).before a0 Z = true := hw _ (List.mem_of_getElem? (i := 25) rfl)
theorem W26 {Z : State} {a0 : Array Value} (hw : ∀ d ∈ tables_1, d.before a0 Z = true) : ((Jvm.Cond.methodLink "operand/expression/MapEvaluation" (14 : Nat) ({ cls := "java/lang/Double", name := "doubleValue", desc := "()D" } : Jvm.MethodName)) : Jvm.Cond).before a0 Z = true := hw _ (List.mem_of_getElem? (i := 26) rfl)
theorem W29 {Z : State} {a0 : Array Value} (hw : ∀ d ∈ tables_1, d.before a0 Z = true) : ((Jvm.Cond.selects "java/lang/Double" ({ cls := "java/lang/Double", name := "doubleValue", desc := "()D" } : Jvm.MethodName) ({ cls := "java/lang/Double", name := "doubleValue", desc := "()D" } : Jvm.MethodName)) : Jvm.Cond).before a0 Z = true := hw _ (List.mem_of_getElem? (i := 29) rfl)
theorem W30 {Z : State} {a0 : Array Value} (hw : ∀ d ∈ tables_1, d.before a0 Z = true) : ((Jvm.Cond.code ({ cls := "java/lang/Double", name := "doubleValue", desc := "()D" } : Jvm.MethodName) jdk_117_method_19_code (1 : Nat) (Option.some Jvm.ClassFile.FieldType.double)) : Jvm.Cond).before a0 Z = true := hw _ (List.mem_of_getElem? (i := 30) rfl)
theorem pd2 : parseMethodDescriptor "()D" = some ⟨[], some .double⟩ := by decide +kernel
theorem d5_12 : decode prog_35_method_4_code 12 = .ok (.invokevirtual 14, 3) := by decide +kernel
theorem W27 {Z : State} {a0 : Array Value} (hw : ∀ d ∈ tables_1, d.before a0 Z = true) : ((Jvm.Cond.declares ({ cls := "java/lang/Double", name := "doubleValue", desc := "()D" } : Jvm.MethodName)) : Jvm.Cond).before a0 Z = true := hw _ (List.mem_of_getElem? (i := 27) rfl)
theorem W28 {Z : State} {a0 : Array Value} (hw : ∀ d ∈ tables_1, d.before a0 Z = true) : ((Jvm.Cond.instanceMethod ({ cls := "java/lang/Double", name := "doubleValue", desc := "()D" } : Jvm.MethodName)) : Jvm.Cond).before a0 Z = true := hw _ (List.mem_of_getElem? (i := 28) rfl)
theorem ef4 (m : MethodId) (x0 : Int32) (x1 : Int32) (x2 : Int32) : entryFrame m #[(.int x0), (.int x1), (.int x2)] maxLocals = mkF m 0 #[.val (.int x0), .val (.int x1), .val (.int x2), .unset, .unset, .unset, .unset, .unset, .unset, .unset, .unset, .unset, .unset] [] := by first | (simp [entryFrame, mkF, argsToLocals, Value.category, maxLocals]; done) | rfl
theorem pn3 : plainName "operand/expression/MapEvaluationConstantPinLaw" = true := by first | (simp [plainName, overriddenIn]; done) | decide +kernel
theorem W0 {Z : State} {a0 : Array Value} (hw : ∀ d ∈ tables_1, d.before a0 Z = true) : ((Jvm.Cond.methodLink "operand/expression/MapEvaluationConstantPinLaw" (7 : Nat) ({ cls := "java/lang/Double", name := "valueOf", desc := "(D)Ljava/lang/Double;" } : Jvm.MethodName)) : Jvm.Cond).before a0 Z = true := hw _ (List.mem_of_getElem? (i := 0) rfl)
theorem W3 {Z : State} {a0 : Array Value} (hw : ∀ d ∈ tables_1, d.before a0 Z = true) : ((Jvm.Cond.code ({ cls := "java/lang/Double", name := "valueOf", desc := "(D)Ljava/lang/Double;" } : Jvm.MethodName) jdk_117_method_4_code (2 : Nat) (Option.some (Jvm.ClassFile.FieldType.object "java/lang/Double"))) : Jvm.Cond).before a0 Z = true := hw _ (List.mem_of_getElem? (i := 3) rfl)
theorem pd3 : parseMethodDescriptor "(D)Ljava/lang/Double;" = some ⟨[.double], some (.object "java/lang/Double")⟩ := by decide +kernel
theorem W1 {Z : State} {a0 : Array Value} (hw : ∀ d ∈ tables_1, d.before a0 Z = true) : ((Jvm.Cond.static ({ cls := "java/lang/Double", name := "valueOf", desc := "(D)Ljava/lang/Double;" } : Jvm.MethodName)) : Jvm.Cond).before a0 Z = true := hw _ (List.mem_of_getElem? (i := 1) rfl)
theorem W21 {Z : State} {a0 : Array Value} (hw : ∀ d ∈ tables_1, d.before a0 Z = true) : ((Jvm.Cond.methodLink "operand/expression/MapEvaluationConstantPinLaw" (13 : Nat) ({ cls := "operand/expression/MapEvaluation", name := "constant", desc := "(Ljava/lang/Object;D)D" } : Jvm.MethodName)) : Jvm.Cond).before a0 Z = true := hw _ (List.mem_of_getElem? (i := 21) rfl)
theorem W24 {Z : State} {a0 : Array Value} (hw : ∀ d ∈ tables_1, d.before a0 Z = true) : ((Jvm.Cond.code ({ cls := "operand/expression/MapEvaluation", name := "constant", desc := "(Ljava/lang/Object;D)D" } : Jvm.MethodName) prog_35_method_4_code (3 : Nat) (Option.some Jvm.ClassFile.FieldType.double)) : Jvm.Cond).before a0 Z = true := hw _ (List.mem_of_getElem? (i := 24) rfl)
theorem W23 {Z : State} {a0 : Array Value} (hw : ∀ d ∈ tables_1, d.before a0 Z = true) : ((Jvm.Cond.initialized "operand/expression/MapEvaluation") : Jvm.Cond).before a0 Z = true := hw _ (List.mem_of_getElem? (i := 23) rfl)
theorem pd4 : parseMethodDescriptor "(Ljava/lang/Object;D)D" = some ⟨[(.object "java/lang/Object"), .double], some .double⟩ := by decide +kernel
theorem W22 {Z : State} {a0 : Array Value} (hw : ∀ d ∈ tables_1, d.before a0 Z = true) : ((Jvm.Cond.static ({ cls := "operand/expression/MapEvaluation", name := "constant", desc := "(Ljava/lang/Object;D)D" } : Jvm.MethodName)) : Jvm.Cond).before a0 Z = true := hw _ (List.mem_of_getElem? (i := 22) rfl)
def Q_rmN (Z : State) (a1 : Addr) (h0 : Heap) (v : Option Value) (h : Heap) (L : List Loc) : Prop := v = none ∧ L = [] ∧ h = h0
set_option maxRecDepth 65536 in
set_option maxHeartbeats 40000000 in
theorem rmN (l : Launch) (Z : State) (a0 : Array Value) (hw : ∀ d ∈ tables_1, d.before a0 Z = true) (ws : List Jvm.Cond) (a1 : Addr) (h0 : Heap)  :
    MetFree l (⟨"java/lang/Number", "<init>", "()V"⟩ : MethodName) (head1 (Jvm.Cond.code (⟨"java/lang/Number", "<init>", "()V"⟩ : MethodName) jdk_18_method_1_code 1 none :: ws) ({ frames := 1, cells := 0, slots := 0, locals := 12 } : Room)) (fun a U => a = #[(.ref a1)] ∧ Z.Warmed39 U.vm ∧ U.heap = h0) (fun _ _ _ _ _ => True) (fun _ U o U' => ∃ v L, o = .returned v ∧ Q_rmN Z a1 h0 v U'.heap L ∧ FrameEnd U o U' L ({ frames := 1, cells := 0, slots := 0, locals := 12 } : Room).cells ({ frames := 1, cells := 0, slots := 0, locals := 12 } : Room).slots) := by
  refine MetFree.of_bodySF (plainFor_of_name pn0) hisR ?_
  intro p e s m args below meth c s₁ Bd hml0 hP hK
  obtain ⟨rfl, hZ, hh⟩ := hP
  have hx := Bd.exec
  have hby := Bd.bytes
  have hlk : meth.locks = false := Bd.notSynchronized
  have hml : c.maxLocals = 1 := hml0
  have hown : s.vm.findClass "java/lang/Number" = some m.cls := findClass_of_methodNamed Bd.named
  have hnm := (name_of_methodNamed Bd.named Bd.method).1
  have X0 : Stand p l e ({ frames := 1, cells := 0, slots := 0, locals := 12 } : Room) s m #[(.ref a1)] below meth c s₁ [] 0 0 := Stand.of_body Bd
  have e0 : s₁.heap = h0 := by rw [← hh, Bd.state]; rfl
  suffices hgo : OD p e s below (Q_rmN Z a1 h0) ({ frames := 1, cells := 0, slots := 0, locals := 12 } : Room).cells ({ frames := 1, cells := 0, slots := 0, locals := 12 } : Room).slots (s₁.setTop (mkF m 0 #[.val (.ref a1)] [])) by
    obtain ⟨s₂, o, q1, q2⟩ := hgo
    exact ⟨s₂, o, castTop (ef0 m a1) q1, q2⟩
  refine OD.go (B := (s₁.setTop (mkF m 1 #[.val (.ref a1)] [(.ref a1)]))) (fun t k => XS.aloadN X0.here hx rfl (hb hby d3_0) rfl rfl k) ?_
  obtain ⟨T1, X1, e1, st1⟩ := initO X0 hx hZ hown (W16 hw) (W17 hw) (W18 hw) e0 (g := (mkF m 1 #[.val (.ref a1)] [(.ref a1)])) rfl (by rw [hml]; rfl) rfl (hb hby d3_1) (by decide) (W := 0) (by show 2 * 0 + _ ≤ _; exact Nat.le_of_eq rfl) (by decide)
  refine OD.go (B := (T1.setTop (mkF m 4 #[.val (.ref a1)] []))) st1 ?_
  exact OD.retV X1 hx hlk Bd.returns (hb hby d3_4) (Nat.le_of_ble_eq_true rfl) (Nat.le_of_ble_eq_true rfl) ⟨rfl, rfl, e1⟩
def Q_rmD (Z : State) (a1 : Addr) (x1 : UInt64) (h0 : Heap) (n0 : Nat) (v : Option Value) (h : Heap) (L : List Loc) : Prop := v = none ∧ Fr n0 L ∧ Keep h0 h [a1] ∧ Fld Z h a1 "java/lang/Double" "value" "D" (.double x1)
set_option maxRecDepth 65536 in
set_option maxHeartbeats 40000000 in
theorem rmD (l : Launch) (Z : State) (a0 : Array Value) (hw : ∀ d ∈ tables_1, d.before a0 Z = true) (ws : List Jvm.Cond) (a1 : Addr) (x1 : UInt64) (h0 : Heap) (n0 : Nat) (Z0 : n0 ≤ h0.size) (u1 : UInt64) (E1 : Exa Z h0 a1 "java/lang/Double") (F1 : Fld Z h0 a1 "java/lang/Double" "value" "D" (.double u1)) (g1 : n0 ≤ a1) :
    MetFree l (⟨"java/lang/Double", "<init>", "(D)V"⟩ : MethodName) (head1 (Jvm.Cond.code (⟨"java/lang/Double", "<init>", "(D)V"⟩ : MethodName) jdk_117_method_9_code 3 none :: ws) ({ frames := 2, cells := 0, slots := 0, locals := 24 } : Room)) (fun a U => a = #[(.ref a1), (.double x1)] ∧ Z.Warmed39 U.vm ∧ U.heap = h0) (fun _ _ _ _ _ => True) (fun _ U o U' => ∃ v L, o = .returned v ∧ Q_rmD Z a1 x1 h0 n0 v U'.heap L ∧ FrameEnd U o U' L ({ frames := 2, cells := 0, slots := 0, locals := 24 } : Room).cells ({ frames := 2, cells := 0, slots := 0, locals := 24 } : Room).slots) := by
  refine MetFree.of_bodySF (plainFor_of_name pn1) hisR ?_
  intro p e s m args below meth c s₁ Bd hml0 hP hK
  obtain ⟨rfl, hZ, hh⟩ := hP
  have hx := Bd.exec
  have hby := Bd.bytes
  have hlk : meth.locks = false := Bd.notSynchronized
  have hml : c.maxLocals = 3 := hml0
  have hown : s.vm.findClass "java/lang/Double" = some m.cls := findClass_of_methodNamed Bd.named
  have hnm := (name_of_methodNamed Bd.named Bd.method).1
  have X0 : Stand p l e ({ frames := 2, cells := 0, slots := 0, locals := 24 } : Room) s m #[(.ref a1), (.double x1)] below meth c s₁ [] 0 0 := Stand.of_body Bd
  have e0 : s₁.heap = h0 := by rw [← hh, Bd.state]; rfl
  have N0 := Fr.nil n0
  suffices hgo : OD p e s below (Q_rmD Z a1 x1 h0 n0) ({ frames := 2, cells := 0, slots := 0, locals := 24 } : Room).cells ({ frames := 2, cells := 0, slots := 0, locals := 24 } : Room).slots (s₁.setTop (mkF m 0 #[.val (.ref a1), .val (.double x1), .second] [])) by
    obtain ⟨s₂, o, q1, q2⟩ := hgo
    exact ⟨s₂, o, castTop (ef1 m a1 x1) q1, q2⟩
  refine OD.go (B := (s₁.setTop (mkF m 1 #[.val (.ref a1), .val (.double x1), .second] [(.ref a1)]))) (fun t k => XS.aloadN X0.here hx rfl (hb hby d2_0) rfl rfl k) ?_
  obtain ⟨_, _, ⟨T1, L1, k1, n1⟩, -, X1, ⟨Lc1, hQ1, l1, y1, z1⟩, st1⟩ := X0.specialBack hx (y := (⟨"java/lang/Number", "<init>", "()V"⟩ : MethodName)) rfl hown (mvT hZ (W10 hw)) (mvT hZ (W11 hw)) (mvT hZ (W15 hw)) (by decide) (backOf (W := 0) (rmN l Z a0 hw [] a1 h0) hZ (W15 hw) (W14 hw) (by decide) (by decide)) (g := (mkF m 1 #[.val (.ref a1), .val (.double x1), .second] [(.ref a1)])) rfl (by rw [hml]; rfl) (Steps.refl _) (a := a1) (argsL := []) (rest := []) (lenOf pd0 rfl) rfl (by show 2 * 0 + _ ≤ _; exact Nat.le_of_eq rfl) (hb hby d2_1) (fun _ _ => ⟨rfl, e0, (Nat.le_of_ble_eq_true rfl), (Nat.le_of_ble_eq_true rfl)⟩)
  dsimp only [Pt.U, Pt.locs, Pt.cells, Pt.slots] at X1 l1 y1 z1 st1 hQ1
  subst l1 y1 z1
  obtain ⟨rfl, rfl, e1⟩ := hQ1
  have N1 := Fr.app N0 (Fr.nil _)
  refine OD.via (B := (T1.setTop (mkF m 4 #[.val (.ref a1), .val (.double x1), .second] []))) st1 ?_
  refine OD.go (B := (T1.setTop (mkF m 5 #[.val (.ref a1), .val (.double x1), .second] [(.ref a1)]))) (fun t k => XS.aloadN X1.here hx rfl (hb hby d2_4) rfl rfl k) ?_
  refine OD.go (B := (T1.setTop (mkF m 6 #[.val (.ref a1), .val (.double x1), .second] [(.double x1), (.ref a1)]))) (fun t k => XS.dloadN X1.here hx rfl (hb hby d2_5) rfl k) ?_
  obtain ⟨T2, h2, X2, e2, W2, st2⟩ := putF X1 hx hZ hown (host := "") (Or.inl (W19 hw)) Via.refl e1 F1 E1 (Or.inr ⟨(W20 hw), rfl, hnm⟩) (W5 hw) (ty := .double) (by decide) rfl rfl (g := (mkF m 6 #[.val (.ref a1), .val (.double x1), .second] [(.double x1), (.ref a1)])) rfl rfl (hb hby d2_6)
  have F2 := F1.same W2
  have N2 := Fr.snoc X2 N1 g1
  refine OD.go (B := (T2.setTop (mkF m 9 #[.val (.ref a1), .val (.double x1), .second] []))) st2 ?_
  exact OD.retV X2 hx hlk Bd.returns (hb hby d2_9) (Nat.le_of_ble_eq_true rfl) (Nat.le_of_ble_eq_true rfl) ⟨rfl, N2, by rw [e2]; exact ((Keep.refl h0 [a1]).wr W2 (Or.inl (List.mem_of_getElem? (i := 0) rfl))), by rw [e2]; exact F2⟩
def Q_rmV (Z : State) (x0 : UInt64) (h0 : Heap) (n0 : Nat) (v : Option Value) (h : Heap) (L : List Loc) : Prop := ∃ b, v = some (.ref b) ∧ Fr n0 L ∧ Keep h0 h [] ∧ h0.size ≤ b ∧ Exa Z h b "java/lang/Double" ∧ Fld Z h b "java/lang/Double" "value" "D" (.double x0)
set_option maxRecDepth 65536 in
set_option maxHeartbeats 40000000 in
theorem rmV (l : Launch) (Z : State) (a0 : Array Value) (hw : ∀ d ∈ tables_1, d.before a0 Z = true) (ws : List Jvm.Cond) (x0 : UInt64) (h0 : Heap) (n0 : Nat) (Z0 : n0 ≤ h0.size) :
    MetFree l (⟨"java/lang/Double", "valueOf", "(D)Ljava/lang/Double;"⟩ : MethodName) (head1 (Jvm.Cond.code (⟨"java/lang/Double", "valueOf", "(D)Ljava/lang/Double;"⟩ : MethodName) jdk_117_method_4_code 2 (some (.object "java/lang/Double")) :: ws) ({ frames := 3, cells := 1, slots := 1, locals := 39 } : Room)) (fun a U => a = #[(.double x0)] ∧ Z.Warmed39 U.vm ∧ U.heap = h0) (fun _ _ _ _ _ => True) (fun _ U o U' => ∃ v L, o = .returned v ∧ Q_rmV Z x0 h0 n0 v U'.heap L ∧ FrameEnd U o U' L ({ frames := 3, cells := 1, slots := 1, locals := 39 } : Room).cells ({ frames := 3, cells := 1, slots := 1, locals := 39 } : Room).slots) := by
  refine MetFree.of_bodySF (plainFor_of_name pn1) hisR ?_
  intro p e s m args below meth c s₁ Bd hml0 hP hK
  obtain ⟨rfl, hZ, hh⟩ := hP
  have hx := Bd.exec
  have hby := Bd.bytes
  have hlk : meth.locks = false := Bd.notSynchronized
  have hml : c.maxLocals = 2 := hml0
  have hown : s.vm.findClass "java/lang/Double" = some m.cls := findClass_of_methodNamed Bd.named
  have hnm := (name_of_methodNamed Bd.named Bd.method).1
  have X0 : Stand p l e ({ frames := 3, cells := 1, slots := 1, locals := 39 } : Room) s m #[(.double x0)] below meth c s₁ [] 0 0 := Stand.of_body Bd
  have e0 : s₁.heap = h0 := by rw [← hh, Bd.state]; rfl
  have N0 := Fr.nil n0
  suffices hgo : OD p e s below (Q_rmV Z x0 h0 n0) ({ frames := 3, cells := 1, slots := 1, locals := 39 } : Room).cells ({ frames := 3, cells := 1, slots := 1, locals := 39 } : Room).slots (s₁.setTop (mkF m 0 #[.val (.double x0), .second] [])) by
    obtain ⟨s₂, o, q1, q2⟩ := hgo
    exact ⟨s₂, o, castTop (ef2 m x0) q1, q2⟩
  obtain ⟨T1, h1, X1, e1, E1, A1, D1, -, st1⟩ := newO X0 hx hZ hown (W4 hw) (W5 hw) (W2 hw) e0 (g := (mkF m 0 #[.val (.double x0), .second] [])) rfl (hb hby d1_0) (Nat.le_of_ble_eq_true rfl) (Nat.le_of_ble_eq_true rfl)
  obtain ⟨b1, g1⟩ : ∃ z, z = h0.size := ⟨_, rfl⟩
  rw [← g1] at A1 D1 st1
  have F2 : Fld Z h1 b1 "java/lang/Double" "value" "D" (.double (0 : UInt64)) := D1 (Or.inr (W20 hw)) (ty := .double) (by decide)
  refine OD.go (B := (T1.setTop (mkF m 3 #[.val (.double x0), .second] [(.ref b1)]))) st1 ?_
  refine OD.go (B := (T1.setTop (mkF m 4 #[.val (.double x0), .second] [(.ref b1), (.ref b1)]))) (fun t k => XS.dup X1.here hx rfl (hb hby d1_3) rfl rfl k) ?_
  refine OD.go (B := (T1.setTop (mkF m 5 #[.val (.double x0), .second] [(.double x0), (.ref b1), (.ref b1)]))) (fun t k => XS.dloadN X1.here hx rfl (hb hby d1_4) rfl k) ?_
  obtain ⟨_, _, ⟨T3, L3, k3, n3⟩, -, X3, ⟨Lc3, hQ3, l3, y3, z3⟩, st3⟩ := X1.specialBack hx (y := (⟨"java/lang/Double", "<init>", "(D)V"⟩ : MethodName)) rfl hown (mvT hZ (W6 hw)) (mvT hZ (W7 hw)) (mvT hZ (W9 hw)) (by decide) (backOf (W := 1) (rmD l Z a0 hw [] b1 x0 h1 n0 (Nat.le_trans Z0 E1.1) (0 : UInt64) A1 F2 (Nat.le_trans Z0 (Nat.le_of_eq g1.symm))) hZ (W9 hw) (W2 hw) (by decide) (by decide)) (g := (mkF m 5 #[.val (.double x0), .second] [(.double x0), (.ref b1), (.ref b1)])) rfl (by rw [hml]; rfl) (Steps.refl _) (a := b1) (argsL := [(.double x0)]) (rest := [(.ref b1)]) (lenOf pd1 rfl) rfl (by show 2 * 0 + _ ≤ _; exact Nat.le_of_eq rfl) (hb hby d1_5) (fun _ _ => ⟨rfl, e1, (Nat.le_of_ble_eq_true rfl), (Nat.le_of_ble_eq_true rfl)⟩)
  dsimp only [Pt.U, Pt.locs, Pt.cells, Pt.slots] at X3 l3 y3 z3 st3 hQ3
  subst l3 y3 z3
  obtain ⟨rfl, Nq3, K3, G3⟩ := hQ3
  have N3 := Fr.app N0 Nq3
  refine OD.via (B := (T3.setTop (mkF m 8 #[.val (.double x0), .second] [(.ref b1)]))) st3 ?_
  exact OD.ret X3 hx hlk (t := (.object "java/lang/Double")) Bd.returns rfl (Or.inr (Or.inr (Or.inr (Or.inr ⟨rfl, rfl, rfl⟩)))) (hb hby d1_8) (Nat.le_of_ble_eq_true rfl) (Nat.le_of_ble_eq_true rfl) ⟨_, rfl, N3, by exact (((Keep.refl h0 []).ext E1).trans K3 (allS (Or.inr (Nat.le_trans (Nat.le_refl _) (Nat.le_of_eq g1.symm))) all0)), (Nat.le_trans (Nat.le_refl _) (Nat.le_of_eq g1.symm)), by exact (A1.keep K3), by exact G3⟩
def Q_rmG (Z : State) (a1 : Addr) (h0 : Heap) (u1 : UInt64) (v : Option Value) (h : Heap) (L : List Loc) : Prop := v = some (.double u1) ∧ L = [] ∧ h = h0
set_option maxRecDepth 65536 in
set_option maxHeartbeats 40000000 in
theorem rmG (l : Launch) (Z : State) (a0 : Array Value) (hw : ∀ d ∈ tables_1, d.before a0 Z = true) (ws : List Jvm.Cond) (a1 : Addr) (h0 : Heap) (u1 : UInt64) (F1 : Fld Z h0 a1 "java/lang/Double" "value" "D" (.double u1)) :
    MetFree l (⟨"java/lang/Double", "doubleValue", "()D"⟩ : MethodName) (head1 (Jvm.Cond.code (⟨"java/lang/Double", "doubleValue", "()D"⟩ : MethodName) jdk_117_method_19_code 1 (some .double) :: ws) ({ frames := 0, cells := 0, slots := 0, locals := 0 } : Room)) (fun a U => a = #[(.ref a1)] ∧ Z.Warmed39 U.vm ∧ U.heap = h0) (fun _ _ _ _ _ => True) (fun _ U o U' => ∃ v L, o = .returned v ∧ Q_rmG Z a1 h0 u1 v U'.heap L ∧ FrameEnd U o U' L ({ frames := 0, cells := 0, slots := 0, locals := 0 } : Room).cells ({ frames := 0, cells := 0, slots := 0, locals := 0 } : Room).slots) := by
  refine MetFree.of_bodySF (plainFor_of_name pn1) hisR ?_
  intro p e s m args below meth c s₁ Bd hml0 hP hK
  obtain ⟨rfl, hZ, hh⟩ := hP
  have hx := Bd.exec
  have hby := Bd.bytes
  have hlk : meth.locks = false := Bd.notSynchronized
  have hml : c.maxLocals = 1 := hml0
  have hown : s.vm.findClass "java/lang/Double" = some m.cls := findClass_of_methodNamed Bd.named
  have hnm := (name_of_methodNamed Bd.named Bd.method).1
  have X0 : Stand p l e ({ frames := 0, cells := 0, slots := 0, locals := 0 } : Room) s m #[(.ref a1)] below meth c s₁ [] 0 0 := Stand.of_body Bd
  have e0 : s₁.heap = h0 := by rw [← hh, Bd.state]; rfl
  suffices hgo : OD p e s below (Q_rmG Z a1 h0 u1) ({ frames := 0, cells := 0, slots := 0, locals := 0 } : Room).cells ({ frames := 0, cells := 0, slots := 0, locals := 0 } : Room).slots (s₁.setTop (mkF m 0 #[.val (.ref a1)] [])) by
    obtain ⟨s₂, o, q1, q2⟩ := hgo
    exact ⟨s₂, o, castTop (ef0 m a1) q1, q2⟩
  refine OD.go (B := (s₁.setTop (mkF m 1 #[.val (.ref a1)] [(.ref a1)]))) (fun t k => XS.aloadN X0.here hx rfl (hb hby d6_0) rfl rfl k) ?_
  obtain ⟨T1, X1, e1, st1⟩ := getF X0 hx hZ hown (host := "") (Or.inl (W19 hw)) Via.refl e0 F1 (g := (mkF m 1 #[.val (.ref a1)] [(.ref a1)])) rfl rfl (hb hby d6_1)
  refine OD.go (B := (T1.setTop (mkF m 4 #[.val (.ref a1)] [(.double u1)]))) st1 ?_
  exact OD.ret X1 hx hlk (t := .double) Bd.returns rfl (Or.inr (Or.inr (Or.inl ⟨rfl, rfl, _, rfl⟩))) (hb hby d6_4) (Nat.le_of_ble_eq_true rfl) (Nat.le_of_ble_eq_true rfl) ⟨rfl, rfl, e1⟩
def Q_rmC0 (Z : State) (x1 : UInt64) (h0 : Heap) (v : Option Value) (h : Heap) (L : List Loc) : Prop := v = some (.double x1) ∧ L = [] ∧ h = h0
set_option maxRecDepth 65536 in
set_option maxHeartbeats 40000000 in
theorem rmC0 (l : Launch) (Z : State) (a0 : Array Value) (hw : ∀ d ∈ tables_1, d.before a0 Z = true) (ws : List Jvm.Cond) (x1 : UInt64) (h0 : Heap)  :
    MetFree l (⟨"operand/expression/MapEvaluation", "constant", "(Ljava/lang/Object;D)D"⟩ : MethodName) (head1 (Jvm.Cond.code (⟨"operand/expression/MapEvaluation", "constant", "(Ljava/lang/Object;D)D"⟩ : MethodName) prog_35_method_4_code 3 (some .double) :: ws) ({ frames := 0, cells := 0, slots := 0, locals := 0 } : Room)) (fun a U => a = #[.null, (.double x1)] ∧ Z.Warmed39 U.vm ∧ U.heap = h0) (fun _ _ _ _ _ => True) (fun _ U o U' => ∃ v L, o = .returned v ∧ Q_rmC0 Z x1 h0 v U'.heap L ∧ FrameEnd U o U' L ({ frames := 0, cells := 0, slots := 0, locals := 0 } : Room).cells ({ frames := 0, cells := 0, slots := 0, locals := 0 } : Room).slots) := by
  refine MetFree.of_bodySF (plainFor_of_name pn2) hisR ?_
  intro p e s m args below meth c s₁ Bd hml0 hP hK
  obtain ⟨rfl, hZ, hh⟩ := hP
  have hx := Bd.exec
  have hby := Bd.bytes
  have hlk : meth.locks = false := Bd.notSynchronized
  have hml : c.maxLocals = 3 := hml0
  have hown : s.vm.findClass "operand/expression/MapEvaluation" = some m.cls := findClass_of_methodNamed Bd.named
  have hnm := (name_of_methodNamed Bd.named Bd.method).1
  have X0 : Stand p l e ({ frames := 0, cells := 0, slots := 0, locals := 0 } : Room) s m #[.null, (.double x1)] below meth c s₁ [] 0 0 := Stand.of_body Bd
  have e0 : s₁.heap = h0 := by rw [← hh, Bd.state]; rfl
  suffices hgo : OD p e s below (Q_rmC0 Z x1 h0) ({ frames := 0, cells := 0, slots := 0, locals := 0 } : Room).cells ({ frames := 0, cells := 0, slots := 0, locals := 0 } : Room).slots (s₁.setTop (mkF m 0 #[.val .null, .val (.double x1), .second] [])) by
    obtain ⟨s₂, o, q1, q2⟩ := hgo
    exact ⟨s₂, o, castTop (ef3 m x1) q1, q2⟩
  refine OD.go (B := (s₁.setTop (mkF m 1 #[.val .null, .val (.double x1), .second] [.null]))) (fun t k => XS.aloadN X0.here hx rfl (hb hby d5_0) rfl rfl k) ?_
  refine OD.go (B := (s₁.setTop (mkF m 4 #[.val .null, .val (.double x1), .second] []))) (fun t k => XS.ifnonnullNo X0.here hx rfl (hb hby d5_1) rfl k) ?_
  refine OD.go (B := (s₁.setTop (mkF m 5 #[.val .null, .val (.double x1), .second] [(.double x1)]))) (fun t k => XS.dloadN X0.here hx rfl (hb hby d5_4) rfl k) ?_
  refine OD.go (B := (s₁.setTop (mkF m 15 #[.val .null, .val (.double x1), .second] [(.double x1)]))) (fun t k => XS.goto X0.here hx rfl (pc0 := 5) (pc' := 15) rfl (hb hby d5_5) (by decide) (by decide) k) ?_
  exact OD.ret X0 hx hlk (t := .double) Bd.returns rfl (Or.inr (Or.inr (Or.inl ⟨rfl, rfl, _, rfl⟩))) (hb hby d5_15) (Nat.le_of_ble_eq_true rfl) (Nat.le_of_ble_eq_true rfl) ⟨rfl, rfl, e0⟩
def Q_rmC1 (Z : State) (a1 : Addr) (x1 : UInt64) (h0 : Heap) (u1 : UInt64) (v : Option Value) (h : Heap) (L : List Loc) : Prop := v = some (.double u1) ∧ L = [] ∧ h = h0
set_option maxRecDepth 65536 in
set_option maxHeartbeats 40000000 in
theorem rmC1 (l : Launch) (Z : State) (a0 : Array Value) (hw : ∀ d ∈ tables_1, d.before a0 Z = true) (ws : List Jvm.Cond) (a1 : Addr) (x1 : UInt64) (h0 : Heap) (u1 : UInt64) (E1 : Exa Z h0 a1 "java/lang/Double") (F1 : Fld Z h0 a1 "java/lang/Double" "value" "D" (.double u1)) :
    MetFree l (⟨"operand/expression/MapEvaluation", "constant", "(Ljava/lang/Object;D)D"⟩ : MethodName) (head1 (Jvm.Cond.code (⟨"operand/expression/MapEvaluation", "constant", "(Ljava/lang/Object;D)D"⟩ : MethodName) prog_35_method_4_code 3 (some .double) :: ws) ({ frames := 1, cells := 0, slots := 0, locals := 12 } : Room)) (fun a U => a = #[(.ref a1), (.double x1)] ∧ Z.Warmed39 U.vm ∧ U.heap = h0) (fun _ _ _ _ _ => True) (fun _ U o U' => ∃ v L, o = .returned v ∧ Q_rmC1 Z a1 x1 h0 u1 v U'.heap L ∧ FrameEnd U o U' L ({ frames := 1, cells := 0, slots := 0, locals := 12 } : Room).cells ({ frames := 1, cells := 0, slots := 0, locals := 12 } : Room).slots) := by
  refine MetFree.of_bodySF (plainFor_of_name pn2) hisR ?_
  intro p e s m args below meth c s₁ Bd hml0 hP hK
  obtain ⟨rfl, hZ, hh⟩ := hP
  have hx := Bd.exec
  have hby := Bd.bytes
  have hlk : meth.locks = false := Bd.notSynchronized
  have hml : c.maxLocals = 3 := hml0
  have hown : s.vm.findClass "operand/expression/MapEvaluation" = some m.cls := findClass_of_methodNamed Bd.named
  have hnm := (name_of_methodNamed Bd.named Bd.method).1
  have X0 : Stand p l e ({ frames := 1, cells := 0, slots := 0, locals := 12 } : Room) s m #[(.ref a1), (.double x1)] below meth c s₁ [] 0 0 := Stand.of_body Bd
  have e0 : s₁.heap = h0 := by rw [← hh, Bd.state]; rfl
  suffices hgo : OD p e s below (Q_rmC1 Z a1 x1 h0 u1) ({ frames := 1, cells := 0, slots := 0, locals := 12 } : Room).cells ({ frames := 1, cells := 0, slots := 0, locals := 12 } : Room).slots (s₁.setTop (mkF m 0 #[.val (.ref a1), .val (.double x1), .second] [])) by
    obtain ⟨s₂, o, q1, q2⟩ := hgo
    exact ⟨s₂, o, castTop (ef1 m a1 x1) q1, q2⟩
  refine OD.go (B := (s₁.setTop (mkF m 1 #[.val (.ref a1), .val (.double x1), .second] [(.ref a1)]))) (fun t k => XS.aloadN X0.here hx rfl (hb hby d5_0) rfl rfl k) ?_
  refine OD.go (B := (s₁.setTop (mkF m 8 #[.val (.ref a1), .val (.double x1), .second] []))) (fun t k => XS.ifnonnullYes X0.here hx rfl (pc0 := 1) (pc' := 8) rfl (hb hby d5_1) rfl (by decide) (by decide) k) ?_
  refine OD.go (B := (s₁.setTop (mkF m 9 #[.val (.ref a1), .val (.double x1), .second] [(.ref a1)]))) (fun t k => XS.aloadN X0.here hx rfl (hb hby d5_8) rfl rfl k) ?_
  obtain ⟨T1, X1, e1, st1⟩ := castY X0 hx hZ hown (W25 hw) e0 (Ins.self E1) (g := (mkF m 9 #[.val (.ref a1), .val (.double x1), .second] [(.ref a1)])) rfl rfl (hb hby d5_9)
  refine OD.go (B := (T1.setTop (mkF m 12 #[.val (.ref a1), .val (.double x1), .second] [(.ref a1)]))) st1 ?_
  obtain ⟨cq2, kq2, qa2, qb2, qc2⟩ := isOf hZ e1 E1
  obtain ⟨_, _, ⟨T2, L2, k2, n2⟩, -, X2, ⟨Lc2, hQ2, l2, y2, z2⟩, st2⟩ := X1.virtualBack hx (y := (⟨"java/lang/Double", "doubleValue", "()D"⟩ : MethodName)) (z := (⟨"java/lang/Double", "doubleValue", "()D"⟩ : MethodName)) hown (mvT hZ (W26 hw)) (mvT hZ (W27 hw)) (notFace_of_selects (args := #[]) (mvT hZ (W29 hw))) (mvT hZ (W29 hw)) (mvT hZ (W28 hw)) (by decide) (backOf (W := 0) (rmG l Z a0 hw [] a1 h0 u1 F1) hZ (W30 hw) (W2 hw) (by decide) (by decide)) qa2 qc2 (g := (mkF m 12 #[.val (.ref a1), .val (.double x1), .second] [(.ref a1)])) rfl (by rw [hml]; rfl) (Steps.refl _) (argsL := []) (rest := []) (lenOf pd2 rfl) rfl (by show 2 * 0 + _ ≤ _; exact Nat.le_of_eq rfl) (hb hby d5_12) (fun _ _ => ⟨rfl, e1, (Nat.le_of_ble_eq_true rfl), (Nat.le_of_ble_eq_true rfl)⟩)
  dsimp only [Pt.U, Pt.locs, Pt.cells, Pt.slots] at X2 l2 y2 z2 st2 hQ2
  subst l2 y2 z2
  obtain ⟨rfl, rfl, e2⟩ := hQ2
  refine OD.via (B := (T2.setTop (mkF m 15 #[.val (.ref a1), .val (.double x1), .second] [(.double u1)]))) st2 ?_
  exact OD.ret X2 hx hlk (t := .double) Bd.returns rfl (Or.inr (Or.inr (Or.inl ⟨rfl, rfl, _, rfl⟩))) (hb hby d5_15) (Nat.le_of_ble_eq_true rfl) (Nat.le_of_ble_eq_true rfl) ⟨rfl, rfl, e2⟩
def Q_rm0 (Z : State) (p0 : Int32) (p1 : Int32) (p2 : Int32) (h0 : Heap) (v : Option Value) (h : Heap) (L : List Loc) : Prop := v = some (.int 1) ∧ Fr h0.size L
set_option maxRecDepth 65536 in
set_option maxHeartbeats 40000000 in
theorem rm0 (l : Launch) (Z : State) (a0 : Array Value) (hw : ∀ d ∈ tables_1, d.before a0 Z = true) (ws : List Jvm.Cond) (p0 : Int32) (p1 : Int32) (p2 : Int32) (h0 : Heap)  :
    MetFree l x (head1 (Jvm.Cond.code x code maxLocals ret :: ws) room_1) (fun a U => a = #[(.int p0), (.int p1), (.int p2)] ∧ Z.Warmed39 U.vm ∧ U.heap = h0) (fun _ _ _ _ _ => True) (fun _ U o U' => ∃ v L, o = .returned v ∧ Q_rm0 Z p0 p1 p2 h0 v U'.heap L ∧ FrameEnd U o U' L 16 128) := by
  refine MetFree.of_bodySF (plainFor_of_name pn3) hisR ?_
  intro p e s m args below meth c s₁ Bd hml0 hP hK
  obtain ⟨rfl, hZ, hh⟩ := hP
  have hx := Bd.exec
  have hby := Bd.bytes
  have hlk : meth.locks = false := Bd.notSynchronized
  have hml : c.maxLocals = 13 := hml0
  have hown : s.vm.findClass "operand/expression/MapEvaluationConstantPinLaw" = some m.cls := findClass_of_methodNamed Bd.named
  have hnm := (name_of_methodNamed Bd.named Bd.method).1
  have X0 : Stand p l e room_1 s m #[(.int p0), (.int p1), (.int p2)] below meth c s₁ [] 0 0 := Stand.of_body Bd
  have e0 : s₁.heap = h0 := by rw [← hh, Bd.state]; rfl
  have N0 := Fr.nil h0.size
  suffices hgo : OD p e s below (Q_rm0 Z p0 p1 p2 h0) 16 128 (s₁.setTop (mkF m 0 #[.val (.int p0), .val (.int p1), .val (.int p2), .unset, .unset, .unset, .unset, .unset, .unset, .unset, .unset, .unset, .unset] [])) by
    obtain ⟨s₂, o, q1, q2⟩ := hgo
    exact ⟨s₂, o, castTop (ef4 m p0 p1 p2) q1, q2⟩
  refine OD.go (B := (s₁.setTop (mkF m 1 #[.val (.int p0), .val (.int p1), .val (.int p2), .unset, .unset, .unset, .unset, .unset, .unset, .unset, .unset, .unset, .unset] [(.int p0)]))) (fun t k => XS.iloadN X0.here hx rfl (hb hby at_0) rfl k) ?_
  refine OD.go (B := (s₁.setTop (mkF m 2 #[.val (.int p0), .val (.int p1), .val (.int p2), .unset, .unset, .unset, .unset, .unset, .unset, .unset, .unset, .unset, .unset] [(.double (FP.i2d p0))]))) (fun t k => XS.i2dS X0.here hx rfl (hb hby at_1) rfl (v := (FP.i2d p0)) rfl k) ?_
  refine OD.go (B := (s₁.setTop (mkF m 3 #[.val (.int p0), .val (.int p1), .val (.int p2), .val (.double (FP.i2d p0)), .second, .unset, .unset, .unset, .unset, .unset, .unset, .unset, .unset] []))) (fun t k => XS.dstoreN X0.here hx rfl (hb hby at_2) rfl (l' := #[.val (.int p0), .val (.int p1), .val (.int p2), .val (.double (FP.i2d p0)), .second, .unset, .unset, .unset, .unset, .unset, .unset, .unset, .unset]) rfl k) ?_
  generalize hu2_1 : (FP.i2d p0) = u2_1
  refine OD.go (B := (s₁.setTop (mkF m 4 #[.val (.int p0), .val (.int p1), .val (.int p2), .val (.double u2_1), .second, .unset, .unset, .unset, .unset, .unset, .unset, .unset, .unset] [(.int p1)]))) (fun t k => XS.iloadN X0.here hx rfl (hb hby at_3) rfl k) ?_
  refine OD.go (B := (s₁.setTop (mkF m 5 #[.val (.int p0), .val (.int p1), .val (.int p2), .val (.double u2_1), .second, .unset, .unset, .unset, .unset, .unset, .unset, .unset, .unset] [(.double (FP.i2d p1))]))) (fun t k => XS.i2dS X0.here hx rfl (hb hby at_4) rfl (v := (FP.i2d p1)) rfl k) ?_
  refine OD.go (B := (s₁.setTop (mkF m 7 #[.val (.int p0), .val (.int p1), .val (.int p2), .val (.double u2_1), .second, .val (.double (FP.i2d p1)), .second, .unset, .unset, .unset, .unset, .unset, .unset] []))) (fun t k => XS.dstore X0.here hx rfl (hb hby at_5) rfl (l' := #[.val (.int p0), .val (.int p1), .val (.int p2), .val (.double u2_1), .second, .val (.double (FP.i2d p1)), .second, .unset, .unset, .unset, .unset, .unset, .unset]) rfl k) ?_
  generalize hu5_2 : (FP.i2d p1) = u5_2
  refine OD.go (B := (s₁.setTop (mkF m 8 #[.val (.int p0), .val (.int p1), .val (.int p2), .val (.double u2_1), .second, .val (.double u5_2), .second, .unset, .unset, .unset, .unset, .unset, .unset] [(.int p2)]))) (fun t k => XS.iloadN X0.here hx rfl (hb hby at_7) rfl k) ?_
  refine OD.go (B := (s₁.setTop (mkF m 9 #[.val (.int p0), .val (.int p1), .val (.int p2), .val (.double u2_1), .second, .val (.double u5_2), .second, .unset, .unset, .unset, .unset, .unset, .unset] [(.int (1 : Int32)), (.int p2)]))) (fun t k => XS.iconst X0.here hx rfl (hb hby at_8) k) ?_
  refine OD.go (B := (s₁.setTop (mkF m 10 #[.val (.int p0), .val (.int p1), .val (.int p2), .val (.double u2_1), .second, .val (.double u5_2), .second, .unset, .unset, .unset, .unset, .unset, .unset] [(.int (p2 &&& (1 : Int32)))]))) (fun t k => XS.iand X0.here hx rfl (hb hby at_9) rfl k) ?_
  obtain ⟨v18_3, hv18_3⟩ : ∃ z : Int32, z = (if (p2 &&& (1 : Int32)) = (0 : Int32) then (0 : Int32) else (1 : Int32)) := ⟨_, rfl⟩
  refine OD.cut (B := (s₁.setTop (mkF m 18 #[.val (.int p0), .val (.int p1), .val (.int p2), .val (.double u2_1), .second, .val (.double u5_2), .second, .unset, .unset, .unset, .unset, .unset, .unset] [(.int v18_3)]))) (fun J18_4 => ?_) ?_
  · skip
    by_cases c10_5 : (p2 &&& (1 : Int32)) = (0 : Int32)
    · refine OD.go (B := (s₁.setTop (mkF m 17 #[.val (.int p0), .val (.int p1), .val (.int p2), .val (.double u2_1), .second, .val (.double u5_2), .second, .unset, .unset, .unset, .unset, .unset, .unset] []))) (fun t k => XS.ifYes X0.here hx rfl (pc0 := 10) (pc' := 17) rfl (hb hby at_10) rfl (by rw [if0]; exact (teq c10_5).1) (by decide) (by decide) k) ?_
      refine OD.go (B := (s₁.setTop (mkF m 18 #[.val (.int p0), .val (.int p1), .val (.int p2), .val (.double u2_1), .second, .val (.double u5_2), .second, .unset, .unset, .unset, .unset, .unset, .unset] [(.int (0 : Int32))]))) (fun t k => XS.iconst X0.here hx rfl (hb hby at_17) k) ?_
      rw [if_pos c10_5] at hv18_3
      rw [hv18_3] at J18_4
      exact J18_4
    · refine OD.go (B := (s₁.setTop (mkF m 13 #[.val (.int p0), .val (.int p1), .val (.int p2), .val (.double u2_1), .second, .val (.double u5_2), .second, .unset, .unset, .unset, .unset, .unset, .unset] []))) (fun t k => XS.ifNo X0.here hx rfl (hb hby at_10) rfl (by rw [if0]; exact (feq c10_5).1) k) ?_
      refine OD.go (B := (s₁.setTop (mkF m 14 #[.val (.int p0), .val (.int p1), .val (.int p2), .val (.double u2_1), .second, .val (.double u5_2), .second, .unset, .unset, .unset, .unset, .unset, .unset] [(.int (1 : Int32))]))) (fun t k => XS.iconst X0.here hx rfl (hb hby at_13) k) ?_
      refine OD.go (B := (s₁.setTop (mkF m 18 #[.val (.int p0), .val (.int p1), .val (.int p2), .val (.double u2_1), .second, .val (.double u5_2), .second, .unset, .unset, .unset, .unset, .unset, .unset] [(.int (1 : Int32))]))) (fun t k => XS.goto X0.here hx rfl (pc0 := 14) (pc' := 18) rfl (hb hby at_14) (by decide) (by decide) k) ?_
      rw [if_neg c10_5] at hv18_3
      rw [hv18_3] at J18_4
      exact J18_4
  refine OD.go (B := (s₁.setTop (mkF m 20 #[.val (.int p0), .val (.int p1), .val (.int p2), .val (.double u2_1), .second, .val (.double u5_2), .second, .val (.int v18_3), .unset, .unset, .unset, .unset, .unset] []))) (fun t k => XS.istore X0.here hx rfl (hb hby at_18) rfl (l' := #[.val (.int p0), .val (.int p1), .val (.int p2), .val (.double u2_1), .second, .val (.double u5_2), .second, .val (.int v18_3), .unset, .unset, .unset, .unset, .unset]) rfl k) ?_
  refine OD.go (B := (s₁.setTop (mkF m 22 #[.val (.int p0), .val (.int p1), .val (.int p2), .val (.double u2_1), .second, .val (.double u5_2), .second, .val (.int v18_3), .unset, .unset, .unset, .unset, .unset] [(.int v18_3)]))) (fun t k => XS.iload X0.here hx rfl (hb hby at_20) rfl k) ?_
  by_cases c22_6 : v18_3 = (0 : Int32)
  · refine OD.go (B := (s₁.setTop (mkF m 29 #[.val (.int p0), .val (.int p1), .val (.int p2), .val (.double u2_1), .second, .val (.double u5_2), .second, .val (.int v18_3), .unset, .unset, .unset, .unset, .unset] []))) (fun t k => XS.ifYes X0.here hx rfl (pc0 := 22) (pc' := 29) rfl (hb hby at_22) rfl (by rw [if0]; exact (teq c22_6).1) (by decide) (by decide) k) ?_
    refine OD.go (B := (s₁.setTop (mkF m 30 #[.val (.int p0), .val (.int p1), .val (.int p2), .val (.double u2_1), .second, .val (.double u5_2), .second, .val (.int v18_3), .unset, .unset, .unset, .unset, .unset] [(.double u2_1)]))) (fun t k => XS.dloadN X0.here hx rfl (hb hby at_29) rfl k) ?_
    obtain ⟨_, _, ⟨T7, L7, k7, n7⟩, -, X7, ⟨Lc7, hQ7, l7, y7, z7⟩, st7⟩ := Jvm.LawKit.callS X0 hx (y := (⟨"java/lang/Double", "valueOf", "(D)Ljava/lang/Double;"⟩ : MethodName)) hown (mvT hZ (W0 hw)) (mvT hZ (W1 hw)) (mvT hZ (W2 hw)) (mvT hZ (W3 hw)) (by decide) (backOf (W := 0) (rmV l Z a0 hw [] u2_1 h0 h0.size (Nat.le_refl _)) hZ (W3 hw) (W2 hw) (by decide) (by decide)) (g := (mkF m 30 #[.val (.int p0), .val (.int p1), .val (.int p2), .val (.double u2_1), .second, .val (.double u5_2), .second, .val (.int v18_3), .unset, .unset, .unset, .unset, .unset] [(.double u2_1)])) rfl (by rw [hml]; rfl) (argsL := [(.double u2_1)]) (rest := []) (lenOf pd3 rfl) rfl (by show 2 * 0 + _ ≤ _; exact Nat.le_of_eq rfl) (hb hby at_30) (fun _ _ => ⟨rfl, e0, (Nat.le_of_ble_eq_true rfl), (Nat.le_of_ble_eq_true rfl)⟩)
    dsimp only [Pt.U, Pt.locs, Pt.cells, Pt.slots] at X7 l7 y7 z7 st7 hQ7
    subst l7 y7 z7
    obtain ⟨b7, rfl, Nq7, K7, gb7, E7, G7⟩ := hQ7
    have N7 := Fr.app N0 Nq7
    refine OD.go (B := (T7.setTop (mkF m 33 #[.val (.int p0), .val (.int p1), .val (.int p2), .val (.double u2_1), .second, .val (.double u5_2), .second, .val (.int v18_3), .unset, .unset, .unset, .unset, .unset] [(.ref b7)]))) st7 ?_
    refine OD.go (B := (T7.setTop (mkF m 35 #[.val (.int p0), .val (.int p1), .val (.int p2), .val (.double u2_1), .second, .val (.double u5_2), .second, .val (.int v18_3), .val (.ref b7), .unset, .unset, .unset, .unset] []))) (fun t k => XS.astore X7.here hx rfl (hb hby at_33) rfl rfl (l' := #[.val (.int p0), .val (.int p1), .val (.int p2), .val (.double u2_1), .second, .val (.double u5_2), .second, .val (.int v18_3), .val (.ref b7), .unset, .unset, .unset, .unset]) rfl k) ?_
    refine OD.go (B := (T7.setTop (mkF m 37 #[.val (.int p0), .val (.int p1), .val (.int p2), .val (.double u2_1), .second, .val (.double u5_2), .second, .val (.int v18_3), .val (.ref b7), .unset, .unset, .unset, .unset] [(.ref b7)]))) (fun t k => XS.aload X7.here hx rfl (hb hby at_35) rfl rfl k) ?_
    refine OD.go (B := (T7.setTop (mkF m 39 #[.val (.int p0), .val (.int p1), .val (.int p2), .val (.double u2_1), .second, .val (.double u5_2), .second, .val (.int v18_3), .val (.ref b7), .unset, .unset, .unset, .unset] [(.double u5_2), (.ref b7)]))) (fun t k => XS.dload X7.here hx rfl (hb hby at_37) rfl k) ?_
    obtain ⟨_, _, ⟨T8, L8, k8, n8⟩, -, X8, ⟨Lc8, hQ8, l8, y8, z8⟩, st8⟩ := Jvm.LawKit.callS X7 hx (y := (⟨"operand/expression/MapEvaluation", "constant", "(Ljava/lang/Object;D)D"⟩ : MethodName)) hown (mvT hZ (W21 hw)) (mvT hZ (W22 hw)) (mvT hZ (W23 hw)) (mvT hZ (W24 hw)) (by decide) (backOf (W := 0) (rmC1 l Z a0 hw [] b7 u5_2 T7.heap u2_1 E7 G7) hZ (W24 hw) (W23 hw) (by decide) (by decide)) (g := (mkF m 39 #[.val (.int p0), .val (.int p1), .val (.int p2), .val (.double u2_1), .second, .val (.double u5_2), .second, .val (.int v18_3), .val (.ref b7), .unset, .unset, .unset, .unset] [(.double u5_2), (.ref b7)])) rfl (by rw [hml]; rfl) (argsL := [(.ref b7), (.double u5_2)]) (rest := []) (lenOf pd4 rfl) rfl (by show 2 * 0 + _ ≤ _; exact Nat.le_of_eq rfl) (hb hby at_39) (fun _ _ => ⟨rfl, rfl, (Nat.le_of_ble_eq_true rfl), (Nat.le_of_ble_eq_true rfl)⟩)
    dsimp only [Pt.U, Pt.locs, Pt.cells, Pt.slots] at X8 l8 y8 z8 st8 hQ8
    subst l8 y8 z8
    obtain ⟨rfl, rfl, e8⟩ := hQ8
    have N8 := Fr.app N7 (Fr.nil _)
    refine OD.go (B := (T8.setTop (mkF m 42 #[.val (.int p0), .val (.int p1), .val (.int p2), .val (.double u2_1), .second, .val (.double u5_2), .second, .val (.int v18_3), .val (.ref b7), .unset, .unset, .unset, .unset] [(.double u2_1)]))) st8 ?_
    refine OD.go (B := (T8.setTop (mkF m 44 #[.val (.int p0), .val (.int p1), .val (.int p2), .val (.double u2_1), .second, .val (.double u5_2), .second, .val (.int v18_3), .val (.ref b7), .val (.double u2_1), .second, .unset, .unset] []))) (fun t k => XS.dstore X8.here hx rfl (hb hby at_42) rfl (l' := #[.val (.int p0), .val (.int p1), .val (.int p2), .val (.double u2_1), .second, .val (.double u5_2), .second, .val (.int v18_3), .val (.ref b7), .val (.double u2_1), .second, .unset, .unset]) rfl k) ?_
    refine OD.go (B := (T8.setTop (mkF m 46 #[.val (.int p0), .val (.int p1), .val (.int p2), .val (.double u2_1), .second, .val (.double u5_2), .second, .val (.int v18_3), .val (.ref b7), .val (.double u2_1), .second, .unset, .unset] [(.int v18_3)]))) (fun t k => XS.iload X8.here hx rfl (hb hby at_44) rfl k) ?_
    refine OD.go (B := (T8.setTop (mkF m 56 #[.val (.int p0), .val (.int p1), .val (.int p2), .val (.double u2_1), .second, .val (.double u5_2), .second, .val (.int v18_3), .val (.ref b7), .val (.double u2_1), .second, .unset, .unset] []))) (fun t k => XS.ifYes X8.here hx rfl (pc0 := 46) (pc' := 56) rfl (hb hby at_46) rfl (by rw [if0]; exact (teq c22_6).1) (by decide) (by decide) k) ?_
    refine OD.go (B := (T8.setTop (mkF m 57 #[.val (.int p0), .val (.int p1), .val (.int p2), .val (.double u2_1), .second, .val (.double u5_2), .second, .val (.int v18_3), .val (.ref b7), .val (.double u2_1), .second, .unset, .unset] [(.double u2_1)]))) (fun t k => XS.dloadN X8.here hx rfl (hb hby at_56) rfl k) ?_
    refine OD.go (B := (T8.setTop (mkF m 59 #[.val (.int p0), .val (.int p1), .val (.int p2), .val (.double u2_1), .second, .val (.double u5_2), .second, .val (.int v18_3), .val (.ref b7), .val (.double u2_1), .second, .val (.double u2_1), .second] []))) (fun t k => XS.dstore X8.here hx rfl (hb hby at_57) rfl (l' := #[.val (.int p0), .val (.int p1), .val (.int p2), .val (.double u2_1), .second, .val (.double u5_2), .second, .val (.int v18_3), .val (.ref b7), .val (.double u2_1), .second, .val (.double u2_1), .second]) rfl k) ?_
    refine OD.go (B := (T8.setTop (mkF m 61 #[.val (.int p0), .val (.int p1), .val (.int p2), .val (.double u2_1), .second, .val (.double u5_2), .second, .val (.int v18_3), .val (.ref b7), .val (.double u2_1), .second, .val (.double u2_1), .second] [(.double u2_1)]))) (fun t k => XS.dload X8.here hx rfl (hb hby at_59) rfl k) ?_
    refine OD.go (B := (T8.setTop (mkF m 63 #[.val (.int p0), .val (.int p1), .val (.int p2), .val (.double u2_1), .second, .val (.double u5_2), .second, .val (.int v18_3), .val (.ref b7), .val (.double u2_1), .second, .val (.double u2_1), .second] [(.double u2_1), (.double u2_1)]))) (fun t k => XS.dload X8.here hx rfl (hb hby at_61) rfl k) ?_
    refine OD.go (B := (T8.setTop (mkF m 64 #[.val (.int p0), .val (.int p1), .val (.int p2), .val (.double u2_1), .second, .val (.double u5_2), .second, .val (.int v18_3), .val (.ref b7), .val (.double u2_1), .second, .val (.double u2_1), .second] [(.int (cmpValue (FP.dcmp u2_1 u2_1) .l))]))) (fun t k => XS.dcmpS X8.here hx rfl (hb hby at_63) rfl (v := (cmpValue (FP.dcmp u2_1 u2_1) .l)) rfl k) ?_
    obtain ⟨v72_9, hv72_9⟩ : ∃ z : Int32, z = (if (cmpValue (FP.dcmp u2_1 u2_1) .l) = (0 : Int32) then (1 : Int32) else (0 : Int32)) := ⟨_, rfl⟩
    refine OD.cut (B := (T8.setTop (mkF m 72 #[.val (.int p0), .val (.int p1), .val (.int p2), .val (.double u2_1), .second, .val (.double u5_2), .second, .val (.int v18_3), .val (.ref b7), .val (.double u2_1), .second, .val (.double u2_1), .second] [(.int v72_9)]))) (fun J72_10 => ?_) ?_
    · skip
      by_cases c64_11 : (cmpValue (FP.dcmp u2_1 u2_1) .l) = (0 : Int32)
      · refine OD.go (B := (T8.setTop (mkF m 67 #[.val (.int p0), .val (.int p1), .val (.int p2), .val (.double u2_1), .second, .val (.double u5_2), .second, .val (.int v18_3), .val (.ref b7), .val (.double u2_1), .second, .val (.double u2_1), .second] []))) (fun t k => XS.ifNo X8.here hx rfl (hb hby at_64) rfl (by rw [if0]; exact (teq c64_11).2) k) ?_
        refine OD.go (B := (T8.setTop (mkF m 68 #[.val (.int p0), .val (.int p1), .val (.int p2), .val (.double u2_1), .second, .val (.double u5_2), .second, .val (.int v18_3), .val (.ref b7), .val (.double u2_1), .second, .val (.double u2_1), .second] [(.int (1 : Int32))]))) (fun t k => XS.iconst X8.here hx rfl (hb hby at_67) k) ?_
        refine OD.go (B := (T8.setTop (mkF m 72 #[.val (.int p0), .val (.int p1), .val (.int p2), .val (.double u2_1), .second, .val (.double u5_2), .second, .val (.int v18_3), .val (.ref b7), .val (.double u2_1), .second, .val (.double u2_1), .second] [(.int (1 : Int32))]))) (fun t k => XS.goto X8.here hx rfl (pc0 := 68) (pc' := 72) rfl (hb hby at_68) (by decide) (by decide) k) ?_
        rw [if_pos c64_11] at hv72_9
        rw [hv72_9] at J72_10
        exact J72_10
      · refine OD.go (B := (T8.setTop (mkF m 71 #[.val (.int p0), .val (.int p1), .val (.int p2), .val (.double u2_1), .second, .val (.double u5_2), .second, .val (.int v18_3), .val (.ref b7), .val (.double u2_1), .second, .val (.double u2_1), .second] []))) (fun t k => XS.ifYes X8.here hx rfl (pc0 := 64) (pc' := 71) rfl (hb hby at_64) rfl (by rw [if0]; exact (feq c64_11).2) (by decide) (by decide) k) ?_
        refine OD.go (B := (T8.setTop (mkF m 72 #[.val (.int p0), .val (.int p1), .val (.int p2), .val (.double u2_1), .second, .val (.double u5_2), .second, .val (.int v18_3), .val (.ref b7), .val (.double u2_1), .second, .val (.double u2_1), .second] [(.int (0 : Int32))]))) (fun t k => XS.iconst X8.here hx rfl (hb hby at_71) k) ?_
        rw [if_neg c64_11] at hv72_9
        rw [hv72_9] at J72_10
        exact J72_10
    have fin : v72_9 = 1 := by
      rw [hv72_9, if_pos]
      first | (rw [← hu2_1]; exact dcmpV_self (Fl.i2d_fin _).noNaN _) | skip
    rw [fin]
    exact OD.ret X8 hx hlk (t := .boolean) Bd.returns rfl (Or.inl ⟨rfl, Or.inr (Or.inl rfl), _, rfl⟩) (hb hby at_72) (Nat.le_of_ble_eq_true rfl) (Nat.le_of_ble_eq_true rfl) ⟨rfl, N8⟩
  · refine OD.go (B := (s₁.setTop (mkF m 25 #[.val (.int p0), .val (.int p1), .val (.int p2), .val (.double u2_1), .second, .val (.double u5_2), .second, .val (.int v18_3), .unset, .unset, .unset, .unset, .unset] []))) (fun t k => XS.ifNo X0.here hx rfl (hb hby at_22) rfl (by rw [if0]; exact (feq c22_6).1) k) ?_
    refine OD.go (B := (s₁.setTop (mkF m 26 #[.val (.int p0), .val (.int p1), .val (.int p2), .val (.double u2_1), .second, .val (.double u5_2), .second, .val (.int v18_3), .unset, .unset, .unset, .unset, .unset] [.null]))) (fun t k => XS.aconstNull X0.here hx rfl (hb hby at_25) k) ?_
    refine OD.go (B := (s₁.setTop (mkF m 33 #[.val (.int p0), .val (.int p1), .val (.int p2), .val (.double u2_1), .second, .val (.double u5_2), .second, .val (.int v18_3), .unset, .unset, .unset, .unset, .unset] [.null]))) (fun t k => XS.goto X0.here hx rfl (pc0 := 26) (pc' := 33) rfl (hb hby at_26) (by decide) (by decide) k) ?_
    refine OD.go (B := (s₁.setTop (mkF m 35 #[.val (.int p0), .val (.int p1), .val (.int p2), .val (.double u2_1), .second, .val (.double u5_2), .second, .val (.int v18_3), .val .null, .unset, .unset, .unset, .unset] []))) (fun t k => XS.astore X0.here hx rfl (hb hby at_33) rfl rfl (l' := #[.val (.int p0), .val (.int p1), .val (.int p2), .val (.double u2_1), .second, .val (.double u5_2), .second, .val (.int v18_3), .val .null, .unset, .unset, .unset, .unset]) rfl k) ?_
    refine OD.go (B := (s₁.setTop (mkF m 37 #[.val (.int p0), .val (.int p1), .val (.int p2), .val (.double u2_1), .second, .val (.double u5_2), .second, .val (.int v18_3), .val .null, .unset, .unset, .unset, .unset] [.null]))) (fun t k => XS.aload X0.here hx rfl (hb hby at_35) rfl rfl k) ?_
    refine OD.go (B := (s₁.setTop (mkF m 39 #[.val (.int p0), .val (.int p1), .val (.int p2), .val (.double u2_1), .second, .val (.double u5_2), .second, .val (.int v18_3), .val .null, .unset, .unset, .unset, .unset] [(.double u5_2), .null]))) (fun t k => XS.dload X0.here hx rfl (hb hby at_37) rfl k) ?_
    obtain ⟨_, _, ⟨T12, L12, k12, n12⟩, -, X12, ⟨Lc12, hQ12, l12, y12, z12⟩, st12⟩ := Jvm.LawKit.callS X0 hx (y := (⟨"operand/expression/MapEvaluation", "constant", "(Ljava/lang/Object;D)D"⟩ : MethodName)) hown (mvT hZ (W21 hw)) (mvT hZ (W22 hw)) (mvT hZ (W23 hw)) (mvT hZ (W24 hw)) (by decide) (backOf (W := 0) (rmC0 l Z a0 hw [] u5_2 h0) hZ (W24 hw) (W23 hw) (by decide) (by decide)) (g := (mkF m 39 #[.val (.int p0), .val (.int p1), .val (.int p2), .val (.double u2_1), .second, .val (.double u5_2), .second, .val (.int v18_3), .val .null, .unset, .unset, .unset, .unset] [(.double u5_2), .null])) rfl (by rw [hml]; rfl) (argsL := [.null, (.double u5_2)]) (rest := []) (lenOf pd4 rfl) rfl (by show 2 * 0 + _ ≤ _; exact Nat.le_of_eq rfl) (hb hby at_39) (fun _ _ => ⟨rfl, e0, (Nat.le_of_ble_eq_true rfl), (Nat.le_of_ble_eq_true rfl)⟩)
    dsimp only [Pt.U, Pt.locs, Pt.cells, Pt.slots] at X12 l12 y12 z12 st12 hQ12
    subst l12 y12 z12
    obtain ⟨rfl, rfl, e12⟩ := hQ12
    have N12 := Fr.app N0 (Fr.nil _)
    refine OD.go (B := (T12.setTop (mkF m 42 #[.val (.int p0), .val (.int p1), .val (.int p2), .val (.double u2_1), .second, .val (.double u5_2), .second, .val (.int v18_3), .val .null, .unset, .unset, .unset, .unset] [(.double u5_2)]))) st12 ?_
    refine OD.go (B := (T12.setTop (mkF m 44 #[.val (.int p0), .val (.int p1), .val (.int p2), .val (.double u2_1), .second, .val (.double u5_2), .second, .val (.int v18_3), .val .null, .val (.double u5_2), .second, .unset, .unset] []))) (fun t k => XS.dstore X12.here hx rfl (hb hby at_42) rfl (l' := #[.val (.int p0), .val (.int p1), .val (.int p2), .val (.double u2_1), .second, .val (.double u5_2), .second, .val (.int v18_3), .val .null, .val (.double u5_2), .second, .unset, .unset]) rfl k) ?_
    refine OD.go (B := (T12.setTop (mkF m 46 #[.val (.int p0), .val (.int p1), .val (.int p2), .val (.double u2_1), .second, .val (.double u5_2), .second, .val (.int v18_3), .val .null, .val (.double u5_2), .second, .unset, .unset] [(.int v18_3)]))) (fun t k => XS.iload X12.here hx rfl (hb hby at_44) rfl k) ?_
    refine OD.go (B := (T12.setTop (mkF m 49 #[.val (.int p0), .val (.int p1), .val (.int p2), .val (.double u2_1), .second, .val (.double u5_2), .second, .val (.int v18_3), .val .null, .val (.double u5_2), .second, .unset, .unset] []))) (fun t k => XS.ifNo X12.here hx rfl (hb hby at_46) rfl (by rw [if0]; exact (feq c22_6).1) k) ?_
    refine OD.go (B := (T12.setTop (mkF m 51 #[.val (.int p0), .val (.int p1), .val (.int p2), .val (.double u2_1), .second, .val (.double u5_2), .second, .val (.int v18_3), .val .null, .val (.double u5_2), .second, .unset, .unset] [(.double u5_2)]))) (fun t k => XS.dload X12.here hx rfl (hb hby at_49) rfl k) ?_
    refine OD.go (B := (T12.setTop (mkF m 53 #[.val (.int p0), .val (.int p1), .val (.int p2), .val (.double u2_1), .second, .val (.double u5_2), .second, .val (.int v18_3), .val .null, .val (.double u5_2), .second, .val (.double u5_2), .second] []))) (fun t k => XS.dstore X12.here hx rfl (hb hby at_51) rfl (l' := #[.val (.int p0), .val (.int p1), .val (.int p2), .val (.double u2_1), .second, .val (.double u5_2), .second, .val (.int v18_3), .val .null, .val (.double u5_2), .second, .val (.double u5_2), .second]) rfl k) ?_
    refine OD.go (B := (T12.setTop (mkF m 59 #[.val (.int p0), .val (.int p1), .val (.int p2), .val (.double u2_1), .second, .val (.double u5_2), .second, .val (.int v18_3), .val .null, .val (.double u5_2), .second, .val (.double u5_2), .second] []))) (fun t k => XS.goto X12.here hx rfl (pc0 := 53) (pc' := 59) rfl (hb hby at_53) (by decide) (by decide) k) ?_
    refine OD.go (B := (T12.setTop (mkF m 61 #[.val (.int p0), .val (.int p1), .val (.int p2), .val (.double u2_1), .second, .val (.double u5_2), .second, .val (.int v18_3), .val .null, .val (.double u5_2), .second, .val (.double u5_2), .second] [(.double u5_2)]))) (fun t k => XS.dload X12.here hx rfl (hb hby at_59) rfl k) ?_
    refine OD.go (B := (T12.setTop (mkF m 63 #[.val (.int p0), .val (.int p1), .val (.int p2), .val (.double u2_1), .second, .val (.double u5_2), .second, .val (.int v18_3), .val .null, .val (.double u5_2), .second, .val (.double u5_2), .second] [(.double u5_2), (.double u5_2)]))) (fun t k => XS.dload X12.here hx rfl (hb hby at_61) rfl k) ?_
    refine OD.go (B := (T12.setTop (mkF m 64 #[.val (.int p0), .val (.int p1), .val (.int p2), .val (.double u2_1), .second, .val (.double u5_2), .second, .val (.int v18_3), .val .null, .val (.double u5_2), .second, .val (.double u5_2), .second] [(.int (cmpValue (FP.dcmp u5_2 u5_2) .l))]))) (fun t k => XS.dcmpS X12.here hx rfl (hb hby at_63) rfl (v := (cmpValue (FP.dcmp u5_2 u5_2) .l)) rfl k) ?_
    obtain ⟨v72_13, hv72_13⟩ : ∃ z : Int32, z = (if (cmpValue (FP.dcmp u5_2 u5_2) .l) = (0 : Int32) then (1 : Int32) else (0 : Int32)) := ⟨_, rfl⟩
    refine OD.cut (B := (T12.setTop (mkF m 72 #[.val (.int p0), .val (.int p1), .val (.int p2), .val (.double u2_1), .second, .val (.double u5_2), .second, .val (.int v18_3), .val .null, .val (.double u5_2), .second, .val (.double u5_2), .second] [(.int v72_13)]))) (fun J72_14 => ?_) ?_
    · skip
      by_cases c64_15 : (cmpValue (FP.dcmp u5_2 u5_2) .l) = (0 : Int32)
      · refine OD.go (B := (T12.setTop (mkF m 67 #[.val (.int p0), .val (.int p1), .val (.int p2), .val (.double u2_1), .second, .val (.double u5_2), .second, .val (.int v18_3), .val .null, .val (.double u5_2), .second, .val (.double u5_2), .second] []))) (fun t k => XS.ifNo X12.here hx rfl (hb hby at_64) rfl (by rw [if0]; exact (teq c64_15).2) k) ?_
        refine OD.go (B := (T12.setTop (mkF m 68 #[.val (.int p0), .val (.int p1), .val (.int p2), .val (.double u2_1), .second, .val (.double u5_2), .second, .val (.int v18_3), .val .null, .val (.double u5_2), .second, .val (.double u5_2), .second] [(.int (1 : Int32))]))) (fun t k => XS.iconst X12.here hx rfl (hb hby at_67) k) ?_
        refine OD.go (B := (T12.setTop (mkF m 72 #[.val (.int p0), .val (.int p1), .val (.int p2), .val (.double u2_1), .second, .val (.double u5_2), .second, .val (.int v18_3), .val .null, .val (.double u5_2), .second, .val (.double u5_2), .second] [(.int (1 : Int32))]))) (fun t k => XS.goto X12.here hx rfl (pc0 := 68) (pc' := 72) rfl (hb hby at_68) (by decide) (by decide) k) ?_
        rw [if_pos c64_15] at hv72_13
        rw [hv72_13] at J72_14
        exact J72_14
      · refine OD.go (B := (T12.setTop (mkF m 71 #[.val (.int p0), .val (.int p1), .val (.int p2), .val (.double u2_1), .second, .val (.double u5_2), .second, .val (.int v18_3), .val .null, .val (.double u5_2), .second, .val (.double u5_2), .second] []))) (fun t k => XS.ifYes X12.here hx rfl (pc0 := 64) (pc' := 71) rfl (hb hby at_64) rfl (by rw [if0]; exact (feq c64_15).2) (by decide) (by decide) k) ?_
        refine OD.go (B := (T12.setTop (mkF m 72 #[.val (.int p0), .val (.int p1), .val (.int p2), .val (.double u2_1), .second, .val (.double u5_2), .second, .val (.int v18_3), .val .null, .val (.double u5_2), .second, .val (.double u5_2), .second] [(.int (0 : Int32))]))) (fun t k => XS.iconst X12.here hx rfl (hb hby at_71) k) ?_
        rw [if_neg c64_15] at hv72_13
        rw [hv72_13] at J72_14
        exact J72_14
    have fin : v72_13 = 1 := by
      rw [hv72_13, if_pos]
      first | (rw [← hu5_2]; exact dcmpV_self (Fl.i2d_fin _).noNaN _) | skip
    rw [fin]
    exact OD.ret X12 hx hlk (t := .boolean) Bd.returns rfl (Or.inl ⟨rfl, Or.inr (Or.inl rfl), _, rfl⟩) (hb hby at_72) (Nat.le_of_ble_eq_true rfl) (Nat.le_of_ble_eq_true rfl) ⟨rfl, N12⟩
set_option maxRecDepth 65536 in
set_option maxHeartbeats 40000000 in
theorem comes_1 {Post : Tables → Env → Array Value → State → Outcome → State → Prop} (hpost : ∀ tb e args s v u, (limb_1_1.after args s (.returned v) u = true ∧ limb_1_2.after args s (.returned v) u = true ∧ True) → FrameEnd s (.returned v) u (Jvm.fieldLocs frame_1_writes args s ++ Jvm.arrayLocs frame_1_arrays args s ++ Jvm.staticLocs frame_1_statics s) 16 128 → Post tb e args s (.returned v) u) :
    ArmFor flags0 classFile x code maxLocals ret World_1 tables_1 room_1 Calls_1 rest_1 Pre_1 Post := by
  intro l hfl _ _ p e ha hc hk s m args below hf hA hF happ hP
  obtain ⟨hcalls, hrest, hpre⟩ := hP
  obtain ⟨-, -, -, hnamed, -, -, -, hat⟩ := (Spec.applies_iff hf).mp happ
  obtain ⟨hg, hn⟩ := and_e (Cond.before_iff.mp (show (Jvm.Cond.and given_1 narrow_1).before args s = true from hpre))
  obtain ⟨hg0, hr0⟩ := and_e hg
  obtain ⟨hg1, hr1⟩ := and_e hr0
  obtain ⟨hg2, hr2⟩ := and_e hr1
  obtain ⟨w0, w1, w2, rfl⟩ : ∃ w0 w1 w2 : Value, args = #[w0, w1, w2] := by
    have hs : args.size = 3 := by simpa [Cond.value, given_1] using hg0
    obtain ⟨L⟩ := args
    match L, hs with
    | [w0, w1, w2], _ => exact ⟨w0, w1, w2, rfl⟩
  have hw := fun d (hd : d ∈ tables_1) => atoms_spec (ws := Jvm.Cond.code x code maxLocals ret :: tables_1) hat d (List.mem_cons_of_mem _ hd)
  obtain ⟨i0, ei0⟩ := is_v hg1
  obtain rfl : w0 = (.int i0) := Option.some.inj ei0
  obtain ⟨i1, ei1⟩ := is_v hg2
  obtain rfl : w1 = (.int i1) := Option.some.inj ei1
  obtain ⟨i2, ei2⟩ := is_v hr2
  obtain rfl : w2 = (.int i2) := Option.some.inj ei2
  obtain ⟨n, o, h1, h2, h3, _, L, rfl, ⟨rfl, N⟩, hq⟩ := rm0 l s _ hw tables_1 i0 i1 i2 s.heap  p e ha hc hk s m _ below hf ((Spec.applies_iff_loose hf).mp happ).1 ⟨rfl, State.Warmed39.refl s, rfl⟩ trivial
  refine ⟨n, _, h1, h2, h3, hpost _ _ _ _ _ _ ⟨Cond.after_iff.mpr rfl, Cond.after_iff.mpr (eq_i res_at (Term.int_eval (1)) rfl), trivial⟩ ⟨hq.1, hq.2.1, (hq.2.2.sift fun y hy => Or.inr (N y hy)).mono (by decide) (by decide)⟩⟩
theorem main_1_1 : Claimed_1_1 := comes_1 fun _ _ _ _ _ _ h hF => ⟨h.1, hF⟩
theorem main_1_2 : Claimed_1_2 := comes_1 fun _ _ _ _ _ _ h hF => ⟨h.2.1, hF⟩
end Jvm.Pilot.@@N@@
namespace Jvm.Pilot.@@N@@
open Jvm Jvm.ClassFile Sem Op Lib Jvm.Free Jvm.Stand Jvm.Pilot.@@N@@.Jvm.D
/-! MADE BY PROGRAM (witnessworld.py) out of the Statement's table words and the real class files: 14 classes; the members and pool entries that the words name. The judged class is class 1, her method 1. -/
namespace start1
open Jvm.ClassFile
def u (s : String) : CpInfo := .utf8 (stringToUtf16 s)
/-- a pool by its gaps: so many unusable entries, then the entry; so many at the end -/
def gap : Nat → List CpInfo → List CpInfo
  | 0, r => r
  | n + 1, r => .unusable :: gap n r
def poolList (es : List (Nat × CpInfo)) (last : Nat) : List CpInfo := es.foldr (fun e r => gap e.1 (e.2 :: r)) (gap last [])
def pool (es : List (Nat × CpInfo)) (last : Nat) : Array CpInfo := ⟨poolList es last⟩
def fileOf (pool : Array CpInfo) (this : Nat) (attrs : Array Attribute := #[]) (ms : Array MethodInfo := #[]) (fl : Nat := 33) (sup : Nat := 0) (ifs : Array Nat := #[]) (fds : Array FieldInfo := #[]) : ClassFile where
  minorVersion := 0
  majorVersion := 65
  constantPool := pool
  accessFlags := fl
  thisClass := this
  superClass := sup
  interfaces := ifs
  fields := fds
  methods := ms
  attributes := attrs
def plain (name : String) (sup : Option ClassId) : Class where
  name := name
  kind := .ordinary
  loader := none
  accessFlags := 33
  super := sup
  interfaces := #[]
  cf := none
  fields := #[]
  methods := #[]
  instanceTypes := #[]
  staticTypes := #[]
  resolved := #[]
  callSites := []
  init := .initialized
  statics := none
  mirror := none

def pool0 : Array CpInfo := pool [(5, u "<init>"), (0, u "()V"), (1, .class_ 10), (1, u "java/lang/Object")] 113

def k0c0 : Code := { maxStack := 0, maxLocals := 1, code := object_method_1_code, exceptionTable := #[], attributes := #[] }
def k0m0 : Method := { name := "<init>", desc := "()V", sig := { parameters := [], returnType := none }, accessFlags := 1, code := some k0c0 }
/-- java/lang/Object -/
def k0 : Class := { plain "java/lang/Object" none with
  accessFlags := 33
  interfaces := #[]
  cf := some (fileOf pool0 8 #[] #[{ accessFlags := 1, nameIndex := 5, descriptorIndex := 6, attributes := #[] }] 33 0 #[] #[])
  fields := #[]
  methods := #[k0m0]
  instanceTypes := #[]
  staticTypes := #[]
  resolved := Array.replicate 124 none
  statics := none }

def pool1 : Array CpInfo := pool [(2, .class_ 4), (1, u "java/lang/Object"), (0, u "<init>"), (0, u "()V"), (0, .methodref 8 9), (0, .class_ 10), (0, .nameAndType 11 12), (0, u "java/lang/Double"), (0, u "valueOf"), (0, u "(D)Ljava/lang/Double;"), (0, .methodref 14 15), (0, .class_ 16), (0, .nameAndType 17 18), (0, u "operand/expression/MapEvaluation"), (0, u "constant"), (0, u "(Ljava/lang/Object;D)D"), (0, .class_ 20), (0, u "operand/expression/MapEvaluationConstantPinLaw"), (2, u "law"), (0, u "(III)Z")] 3

def k1m0 : Method := { name := "<init>", desc := "()V", sig := { parameters := [], returnType := none }, accessFlags := 1, code := none }
def k1c1 : Code := { maxStack := 4, maxLocals := 13, code := code, exceptionTable := #[], attributes := #[] }
def k1m1 : Method := { name := "law", desc := "(III)Z", sig := { parameters := [.int, .int, .int], returnType := some .boolean }, accessFlags := 9, code := some k1c1 }
/-- operand/expression/MapEvaluationConstantPinLaw -/
def k1 : Class := { plain "operand/expression/MapEvaluationConstantPinLaw" (some 0) with
  accessFlags := 49
  interfaces := #[]
  cf := some (fileOf pool1 19 #[] #[{ accessFlags := 1, nameIndex := 5, descriptorIndex := 6, attributes := #[] }, { accessFlags := 9, nameIndex := 23, descriptorIndex := 24, attributes := #[] }] 49 2 #[] #[])
  fields := #[]
  methods := #[k1m0, k1m1]
  instanceTypes := #[]
  staticTypes := #[]
  resolved := Array.replicate 28 none
  statics := none }

def pool2 : Array CpInfo := pool [(1, .class_ 2), (0, u "java/io/Serializable"), (0, .class_ 4), (0, u "java/lang/Object")] 2

/-- java/io/Serializable -/
def k2 : Class := { plain "java/io/Serializable" (some 0) with
  accessFlags := 1537
  interfaces := #[]
  cf := some (fileOf pool2 1 #[] #[] 1537 3 #[] #[])
  fields := #[]
  methods := #[]
  instanceTypes := #[]
  staticTypes := #[]
  resolved := Array.replicate 7 none
  statics := none }

def pool3 : Array CpInfo := pool [(1, .methodref 2 3), (0, .class_ 4), (0, .nameAndType 5 6), (0, u "java/lang/Object"), (0, u "<init>"), (0, u "()V"), (1, .class_ 10), (1, u "java/lang/Number"), (2, .class_ 14), (0, u "java/io/Serializable"), (0, u "serialVersionUID"), (0, u "J")] 20

def k3c0 : Code := { maxStack := 1, maxLocals := 1, code := jdk_18_method_1_code, exceptionTable := #[], attributes := #[] }
def k3m0 : Method := { name := "<init>", desc := "()V", sig := { parameters := [], returnType := none }, accessFlags := 1, code := some k3c0 }
/-- java/lang/Number -/
def k3 : Class := { plain "java/lang/Number" (some 0) with
  accessFlags := 1057
  interfaces := #[2]
  cf := some (fileOf pool3 8 #[] #[{ accessFlags := 1, nameIndex := 5, descriptorIndex := 6, attributes := #[] }] 1057 2 #[13] #[{ accessFlags := 26, nameIndex := 15, descriptorIndex := 16, attributes := #[] }])
  fields := #[{ name := "serialVersionUID", type := .long, accessFlags := 26, slot := 0, constantValue := 0 }]
  methods := #[k3m0]
  instanceTypes := #[]
  staticTypes := #[.long]
  resolved := Array.replicate 37 none
  statics := none }

def pool4 : Array CpInfo := pool [(1, .class_ 2), (0, u "java/lang/Comparable"), (0, .class_ 4), (0, u "java/lang/Object")] 7

/-- java/lang/Comparable -/
def k4 : Class := { plain "java/lang/Comparable" (some 0) with
  accessFlags := 1537
  interfaces := #[]
  cf := some (fileOf pool4 1 #[] #[] 1537 3 #[] #[])
  fields := #[]
  methods := #[]
  instanceTypes := #[]
  staticTypes := #[]
  resolved := Array.replicate 12 none
  statics := none }

def pool5 : Array CpInfo := pool [(1, .class_ 2), (0, u "java/lang/constant/Constable"), (0, .class_ 4), (0, u "java/lang/Object")] 6

/-- java/lang/constant/Constable -/
def k5 : Class := { plain "java/lang/constant/Constable" (some 0) with
  accessFlags := 1537
  interfaces := #[]
  cf := some (fileOf pool5 1 #[] #[] 1537 3 #[] #[])
  fields := #[]
  methods := #[]
  instanceTypes := #[]
  staticTypes := #[]
  resolved := Array.replicate 11 none
  statics := none }

def pool6 : Array CpInfo := pool [(1, .class_ 2), (0, u "java/lang/constant/ConstantDesc"), (0, .class_ 4), (0, u "java/lang/Object")] 32

/-- java/lang/constant/ConstantDesc -/
def k6 : Class := { plain "java/lang/constant/ConstantDesc" (some 0) with
  accessFlags := 1537
  interfaces := #[]
  cf := some (fileOf pool6 1 #[] #[] 1537 3 #[] #[])
  fields := #[]
  methods := #[]
  instanceTypes := #[]
  staticTypes := #[]
  resolved := Array.replicate 37 none
  statics := none }

def pool7 : Array CpInfo := pool [(1, .class_ 2), (0, u "java/lang/Double"), (17, u "<init>"), (84, .methodref 1 106), (0, .nameAndType 20 107), (0, u "(D)V"), (5, .methodref 114 115), (0, .class_ 116), (0, .nameAndType 20 117), (0, u "java/lang/Number"), (0, u "()V"), (0, .fieldref 1 119), (0, .nameAndType 120 121), (0, u "value"), (0, u "D"), (51, u "TYPE"), (0, u "Ljava/lang/Class;"), (0, .class_ 176), (0, u "java/lang/Comparable"), (0, .class_ 178), (0, u "java/lang/constant/Constable"), (0, .class_ 180), (0, u "java/lang/constant/ConstantDesc"), (0, u "POSITIVE_INFINITY"), (3, u "NEGATIVE_INFINITY"), (2, u "NaN"), (2, u "MAX_VALUE"), (0, u "MIN_NORMAL"), (0, u "MIN_VALUE"), (2, u "SIZE"), (0, u "I"), (1, u "PRECISION"), (1, u "MAX_EXPONENT"), (1, u "MIN_EXPONENT"), (1, u "BYTES"), (3, u "serialVersionUID"), (0, u "J"), (14, u "valueOf"), (5, u "(D)Ljava/lang/Double;"), (23, u "doubleValue"), (0, u "()D")] 33

def k7c0 : Code := { maxStack := 4, maxLocals := 2, code := jdk_117_method_4_code, exceptionTable := #[], attributes := #[] }
def k7m0 : Method := { name := "valueOf", desc := "(D)Ljava/lang/Double;", sig := { parameters := [.double], returnType := some (.object "java/lang/Double") }, accessFlags := 9, code := some k7c0 }
def k7c1 : Code := { maxStack := 3, maxLocals := 3, code := jdk_117_method_9_code, exceptionTable := #[], attributes := #[] }
def k7m1 : Method := { name := "<init>", desc := "(D)V", sig := { parameters := [.double], returnType := none }, accessFlags := 1, code := some k7c1 }
def k7c2 : Code := { maxStack := 2, maxLocals := 1, code := jdk_117_method_19_code, exceptionTable := #[], attributes := #[] }
def k7m2 : Method := { name := "doubleValue", desc := "()D", sig := { parameters := [], returnType := some .double }, accessFlags := 1, code := some k7c2 }
/-- java/lang/Double -/
def k7 : Class := { plain "java/lang/Double" (some 3) with
  accessFlags := 49
  interfaces := #[4, 5, 6]
  cf := some (fileOf pool7 1 #[] #[{ accessFlags := 9, nameIndex := 225, descriptorIndex := 231, attributes := #[] }, { accessFlags := 1, nameIndex := 20, descriptorIndex := 107, attributes := #[] }, { accessFlags := 1, nameIndex := 255, descriptorIndex := 256, attributes := #[] }] 49 114 #[175, 177, 179] #[{ accessFlags := 25, nameIndex := 181, descriptorIndex := 121, attributes := #[] }, { accessFlags := 25, nameIndex := 185, descriptorIndex := 121, attributes := #[] }, { accessFlags := 25, nameIndex := 188, descriptorIndex := 121, attributes := #[] }, { accessFlags := 25, nameIndex := 191, descriptorIndex := 121, attributes := #[] }, { accessFlags := 25, nameIndex := 192, descriptorIndex := 121, attributes := #[] }, { accessFlags := 25, nameIndex := 193, descriptorIndex := 121, attributes := #[] }, { accessFlags := 25, nameIndex := 196, descriptorIndex := 197, attributes := #[] }, { accessFlags := 25, nameIndex := 199, descriptorIndex := 197, attributes := #[] }, { accessFlags := 25, nameIndex := 201, descriptorIndex := 197, attributes := #[] }, { accessFlags := 25, nameIndex := 203, descriptorIndex := 197, attributes := #[] }, { accessFlags := 25, nameIndex := 205, descriptorIndex := 197, attributes := #[] }, { accessFlags := 25, nameIndex := 173, descriptorIndex := 174, attributes := #[] }, { accessFlags := 18, nameIndex := 120, descriptorIndex := 121, attributes := #[] }, { accessFlags := 26, nameIndex := 209, descriptorIndex := 210, attributes := #[] }])
  fields := #[{ name := "POSITIVE_INFINITY", type := .double, accessFlags := 25, slot := 0, constantValue := 0 }, { name := "NEGATIVE_INFINITY", type := .double, accessFlags := 25, slot := 1, constantValue := 0 }, { name := "NaN", type := .double, accessFlags := 25, slot := 2, constantValue := 0 }, { name := "MAX_VALUE", type := .double, accessFlags := 25, slot := 3, constantValue := 0 }, { name := "MIN_NORMAL", type := .double, accessFlags := 25, slot := 4, constantValue := 0 }, { name := "MIN_VALUE", type := .double, accessFlags := 25, slot := 5, constantValue := 0 }, { name := "SIZE", type := .int, accessFlags := 25, slot := 6, constantValue := 0 }, { name := "PRECISION", type := .int, accessFlags := 25, slot := 7, constantValue := 0 }, { name := "MAX_EXPONENT", type := .int, accessFlags := 25, slot := 8, constantValue := 0 }, { name := "MIN_EXPONENT", type := .int, accessFlags := 25, slot := 9, constantValue := 0 }, { name := "BYTES", type := .int, accessFlags := 25, slot := 10, constantValue := 0 }, { name := "TYPE", type := (.object "java/lang/Class"), accessFlags := 25, slot := 11, constantValue := 0 }, { name := "value", type := .double, accessFlags := 18, slot := 0, constantValue := 0 }, { name := "serialVersionUID", type := .long, accessFlags := 26, slot := 12, constantValue := 0 }]
  methods := #[k7m0, k7m1, k7m2]
  instanceTypes := #[.double]
  staticTypes := #[.double, .double, .double, .double, .double, .double, .int, .int, .int, .int, .int, (.object "java/lang/Class"), .long]
  resolved := Array.replicate 290 none
  statics := none }

def pool8 : Array CpInfo := pool [(2, .class_ 4), (1, u "java/lang/Object"), (0, u "<init>"), (0, u "()V"), (5, .class_ 13), (0, u "java/lang/Double"), (0, .methodref 12 15), (0, .nameAndType 16 17), (0, u "doubleValue"), (0, u "()D"), (0, .class_ 19), (0, u "operand/expression/MapEvaluation$Program"), (2, .class_ 24), (1, u "operand/expression/MapEvaluation"), (0, u "PROGRAM"), (0, u "Loperand/expression/MapEvaluation;"), (9, u "constant"), (0, u "(Ljava/lang/Object;D)D")] 6

def k8m0 : Method := { name := "<init>", desc := "()V", sig := { parameters := [], returnType := none }, accessFlags := 0, code := none }
def k8c1 : Code := { maxStack := 2, maxLocals := 3, code := prog_35_method_4_code, exceptionTable := #[], attributes := #[] }
def k8m1 : Method := { name := "constant", desc := "(Ljava/lang/Object;D)D", sig := { parameters := [(.object "java/lang/Object"), .double], returnType := some .double }, accessFlags := 8, code := some k8c1 }
/-- operand/expression/MapEvaluation -/
def k8 : Class := { plain "operand/expression/MapEvaluation" (some 0) with
  accessFlags := 1056
  interfaces := #[]
  cf := some (fileOf pool8 22 #[.nestMembers #[18]] #[{ accessFlags := 0, nameIndex := 5, descriptorIndex := 6, attributes := #[] }, { accessFlags := 8, nameIndex := 36, descriptorIndex := 37, attributes := #[] }] 1056 2 #[] #[{ accessFlags := 24, nameIndex := 25, descriptorIndex := 26, attributes := #[] }])
  fields := #[{ name := "PROGRAM", type := (.object "operand/expression/MapEvaluation"), accessFlags := 24, slot := 0, constantValue := 0 }]
  methods := #[k8m0, k8m1]
  instanceTypes := #[]
  staticTypes := #[(.object "operand/expression/MapEvaluation")]
  resolved := Array.replicate 44 none
  statics := none }

def pool9 : Array CpInfo := pool [(1, u "java/lang/Cloneable"), (0, .class_ 1), (0, u "java/lang/Object"), (0, .class_ 3)] 3

/-- java/lang/Cloneable -/
def k9 : Class := { plain "java/lang/Cloneable" (some 0) with
  accessFlags := 1537
  interfaces := #[]
  cf := some (fileOf pool9 2 #[] #[] 1537 4 #[] #[])
  fields := #[]
  methods := #[]
  instanceTypes := #[]
  staticTypes := #[]
  resolved := Array.replicate 8 none
  statics := none }

/-- the primitive byte -/
def k10 : Class := { plain "byte" none with kind := .primitive 'B', accessFlags := 0x411 }
/-- [B -/
def k11 : Class := { plain "[B" (some 0) with kind := .array 10 .byte, interfaces := #[9, 2], accessFlags := 1041 }

/-- the primitive int -/
def k12 : Class := { plain "int" none with kind := .primitive 'I', accessFlags := 0x411 }
/-- [I -/
def k13 : Class := { plain "[I" (some 0) with kind := .array 12 .int, interfaces := #[9, 2], accessFlags := 1041 }

def heap : Heap := #[]
def classes : Array Class := #[k0, k1, k2, k3, k4, k5, k6, k7, k8, k9, k10, k11, k12, k13]
def interned : List (Array UInt16 × Addr) := []
def slotsUsed : Nat := 0
def theMethod : MethodId := ⟨1, 1⟩
def args0 : Array Value := #[.int 5, .int 7, .int 1]
def aboutOver (below : List Frame) : State where
  vm := { classes := classes, interned := interned.toArray }
  heap := heap
  slotsUsed := slotsUsed
  threads := #[{ frames := .invoking theMethod args0 :: below }]
def below0 : List Frame := [.native { method := ⟨0, 0⟩, args := #[] }]
def about1 : State := aboutOver below0
def p0 : Program := .bare "" "" ""
def e0 : Env := launch0.env 0 0 0
theorem w_frames : about1.frames = Frame.invoking theMethod args0 :: below0 := rfl
set_option maxRecDepth 65536 in
theorem w_args : argsFit about1.vm theMethod args0 = true := by decide +kernel
set_option maxRecDepth 65536 in
theorem w_heap : heapFits about1 = true := by decide +kernel
set_option maxRecDepth 65536 in
theorem w_runnable : about1.curStatus? = some .runnable := by decide +kernel
set_option maxRecDepth 65536 in
theorem w_alone : about1.alone = true := by decide +kernel
set_option maxRecDepth 65536 in
theorem w_named : about1.methodNamed? x = some theMethod := by decide +kernel
set_option maxRecDepth 65536 in
theorem w_hears : about1.hears theMethod below0 = true := by decide +kernel
set_option maxRecDepth 65536 in
theorem w_ripe : about1.ripe theMethod args0 below0 = true := by decide +kernel
theorem w_running : about1.status = .running := rfl
set_option maxRecDepth 65536 in
theorem w_room : about1.hasRoom e0.platform room_1 = true :=
  launch0.hasRoom_least _ room_1 (by decide +kernel) (by decide +kernel) (by decide +kernel) (by decide +kernel) (by decide +kernel) (by decide +kernel)
theorem allAtoms_all (ts : List Jvm.Cond) (a : Array Jvm.Value) (st : Jvm.State) : (allAtoms ts).before a st = ts.all (fun c => c.before a st) := by
  induction ts with
  | nil => rfl
  | cons c t ih =>
    show (Jvm.Cond.and c (allAtoms t)).before a st = _
    rw [Jvm.Cond.before_and, ih, List.all_cons]
def words1 : List Jvm.Cond := Jvm.Cond.code x code maxLocals ret :: tables_1
/-- a 'code' word, met by the world's own term for the bytes: nothing is compared byte by byte -/
theorem code_word {y : MethodName} {bytes : ByteArray} {mx : Nat} {rt : Option FieldType} {a : Array Value} {s : State} {m : MethodId} {meth : Method} {c : Code} (h1 : s.methodNamed? y = some m) (h2 : s.vm.method? m = some meth) (h3 : meth.code = some c) (h4 : c.code = bytes)
    (h5 : (c.maxLocals == mx && c.exceptionTable.isEmpty && decide (c.maxStack ≤ mostOperands) && decide (meth.sig.returnType = rt) && !meth.locks && decide (parseMethodDescriptor y.desc = some meth.sig)) = true) : (Jvm.Cond.code y bytes mx rt).before a s = true := by
  simp only [Bool.and_eq_true, beq_iff_eq, Bool.not_eq_true', decide_eq_true_eq] at h5
  obtain ⟨⟨⟨⟨⟨g1, g2⟩, g3⟩, g4⟩, g5⟩, g6⟩ := h5
  simp [Cond.before, Cond.holds, Cond.value, h1, h2, h3, h4, g1, g2, g3, g4, g5, g6]
def isCode : Jvm.Cond → Bool
  | .code _ _ _ _ => true
  | _ => false
theorem all_split {L : List Jvm.Cond} {P : Jvm.Cond → Bool} (h1 : L.all (fun c => isCode c || P c) = true) (h2 : ∀ c ∈ L.filter isCode, P c = true) : L.all P = true := by
  refine List.all_eq_true.mpr fun c hc => ?_
  have h := List.all_eq_true.mp h1 c hc
  rcases Bool.eq_false_or_eq_true (isCode c) with hi | hi
  · exact h2 c (List.mem_filter.mpr ⟨hc, hi⟩)
  · simpa [hi] using h
set_option maxRecDepth 65536 in
theorem w_c0 : (Jvm.Cond.code x code maxLocals ret).before args0 about1 = true := code_word (m := ⟨1, 1⟩) (meth := k1m1) (c := k1c1) (by decide +kernel) rfl rfl rfl (by decide +kernel)
set_option maxRecDepth 65536 in
theorem w_c1 : (Jvm.Cond.code ({ cls := "java/lang/Double", name := "valueOf", desc := "(D)Ljava/lang/Double;" } : Jvm.MethodName) jdk_117_method_4_code (2 : Nat) (Option.some (Jvm.ClassFile.FieldType.object "java/lang/Double"))).before args0 about1 = true := code_word (m := ⟨7, 0⟩) (meth := k7m0) (c := k7c0) (by decide +kernel) rfl rfl rfl (by decide +kernel)
set_option maxRecDepth 65536 in
theorem w_c2 : (Jvm.Cond.code ({ cls := "java/lang/Double", name := "<init>", desc := "(D)V" } : Jvm.MethodName) jdk_117_method_9_code (3 : Nat) (Option.none : Option Jvm.ClassFile.FieldType)).before args0 about1 = true := code_word (m := ⟨7, 1⟩) (meth := k7m1) (c := k7c1) (by decide +kernel) rfl rfl rfl (by decide +kernel)
set_option maxRecDepth 65536 in
theorem w_c3 : (Jvm.Cond.code ({ cls := "java/lang/Number", name := "<init>", desc := "()V" } : Jvm.MethodName) jdk_18_method_1_code (1 : Nat) (Option.none : Option Jvm.ClassFile.FieldType)).before args0 about1 = true := code_word (m := ⟨3, 0⟩) (meth := k3m0) (c := k3c0) (by decide +kernel) rfl rfl rfl (by decide +kernel)
set_option maxRecDepth 65536 in
theorem w_c4 : (Jvm.Cond.code ({ cls := "java/lang/Object", name := "<init>", desc := "()V" } : Jvm.MethodName) object_method_1_code (1 : Nat) (Option.none : Option Jvm.ClassFile.FieldType)).before args0 about1 = true := code_word (m := ⟨0, 0⟩) (meth := k0m0) (c := k0c0) (by decide +kernel) rfl rfl rfl (by decide +kernel)
set_option maxRecDepth 65536 in
theorem w_c5 : (Jvm.Cond.code ({ cls := "operand/expression/MapEvaluation", name := "constant", desc := "(Ljava/lang/Object;D)D" } : Jvm.MethodName) prog_35_method_4_code (3 : Nat) (Option.some Jvm.ClassFile.FieldType.double)).before args0 about1 = true := code_word (m := ⟨8, 1⟩) (meth := k8m1) (c := k8c1) (by decide +kernel) rfl rfl rfl (by decide +kernel)
set_option maxRecDepth 65536 in
theorem w_c6 : (Jvm.Cond.code ({ cls := "java/lang/Double", name := "doubleValue", desc := "()D" } : Jvm.MethodName) jdk_117_method_19_code (1 : Nat) (Option.some Jvm.ClassFile.FieldType.double)).before args0 about1 = true := code_word (m := ⟨7, 2⟩) (meth := k7m2) (c := k7c2) (by decide +kernel) rfl rfl rfl (by decide +kernel)
def codes1 : List Jvm.Cond := [Jvm.Cond.code x code maxLocals ret, Jvm.Cond.code ({ cls := "java/lang/Double", name := "valueOf", desc := "(D)Ljava/lang/Double;" } : Jvm.MethodName) jdk_117_method_4_code (2 : Nat) (Option.some (Jvm.ClassFile.FieldType.object "java/lang/Double")), Jvm.Cond.code ({ cls := "java/lang/Double", name := "<init>", desc := "(D)V" } : Jvm.MethodName) jdk_117_method_9_code (3 : Nat) (Option.none : Option Jvm.ClassFile.FieldType), Jvm.Cond.code ({ cls := "java/lang/Number", name := "<init>", desc := "()V" } : Jvm.MethodName) jdk_18_method_1_code (1 : Nat) (Option.none : Option Jvm.ClassFile.FieldType), Jvm.Cond.code ({ cls := "java/lang/Object", name := "<init>", desc := "()V" } : Jvm.MethodName) object_method_1_code (1 : Nat) (Option.none : Option Jvm.ClassFile.FieldType), Jvm.Cond.code ({ cls := "operand/expression/MapEvaluation", name := "constant", desc := "(Ljava/lang/Object;D)D" } : Jvm.MethodName) prog_35_method_4_code (3 : Nat) (Option.some Jvm.ClassFile.FieldType.double), Jvm.Cond.code ({ cls := "java/lang/Double", name := "doubleValue", desc := "()D" } : Jvm.MethodName) jdk_117_method_19_code (1 : Nat) (Option.some Jvm.ClassFile.FieldType.double)]
set_option maxRecDepth 65536 in
theorem codes_eq : words1.filter isCode = codes1 := rfl
theorem w_codes : ∀ c ∈ words1.filter isCode, c.before args0 about1 = true := by
  rw [codes_eq]
  intro c hc
  simp only [codes1, List.mem_cons, List.not_mem_nil, or_false] at hc
  rcases hc with rfl | rfl | rfl | rfl | rfl | rfl | rfl
  · exact w_c0
  · exact w_c1
  · exact w_c2
  · exact w_c3
  · exact w_c4
  · exact w_c5
  · exact w_c6
set_option maxRecDepth 65536 in
theorem w_t1 : (words1.take 24).all (fun c => isCode c || c.before args0 about1) = true := by decide +kernel
set_option maxRecDepth 65536 in
theorem w_t2 : (words1.drop 24).all (fun c => isCode c || c.before args0 about1) = true := by decide +kernel
theorem w_tables : (allAtoms (Jvm.Cond.code x code maxLocals ret :: tables_1)).before args0 about1 = true := by
  rw [allAtoms_all]
  show words1.all (fun c => c.before args0 about1) = true
  refine all_split ?_ w_codes
  rw [← List.take_append_drop 24 words1, List.all_append, w_t1, w_t2]
  rfl
set_option maxRecDepth 65536 in
theorem w_case : (Jvm.Cond.and given_1 narrow_1).before args0 about1 = true := by decide +kernel
theorem w_applies : (headSpec (Jvm.Cond.code x code maxLocals ret :: tables_1) room_1).applies x e0.platform about1 = true :=
  (Spec.applies_iff w_frames).mpr ⟨w_running, w_runnable, w_alone, w_named, w_hears, w_ripe, w_room, w_tables⟩
theorem atStart : AtStart classFile x code maxLocals ret World_1 tables_1 room_1 Calls_1 rest_1 Pre_1 launch0 p0 e0 about1 theMethod args0 below0 :=
  ⟨lists_1, trivial, launch0.admits_env _ _ _, launch0.least_env, fairChoices_fair.cas, fairChoices_fair.clock, w_frames, w_args, w_heap, w_applies, trivial, trivial, w_case⟩
end start1
theorem witness_1 : WitnessClaimed_1 := ⟨start1.p0, start1.e0, start1.about1, start1.theMethod, start1.args0, start1.below0, start1.atStart⟩
end Jvm.Pilot.@@N@@
