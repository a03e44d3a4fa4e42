import JvmDerived
import JvmDerived.Pilot.@@N@@Statement
import JvmDerived.Pilot.@@N@@Code
set_option linter.unusedVariables false
set_option linter.unusedSimpArgs false
namespace Jvm.Pilot.@@N@@
open Jvm Jvm.ClassFile Sem Op Lib Jvm.Free Jvm.Stand Jvm.LawKit Jvm.RoadKit Bundle Jvm.Pilot.@@N@@.Jvm.D
set_option maxRecDepth 65536
set_option maxHeartbeats 40000000

abbrev HW (a0 : Array Value) (Z : State) : Prop := ∀ d ∈ tables_1, d.before a0 Z = true
abbrev WT (d : Jvm.Cond) : Prop := ∀ {Z : State} {a0 : Array Value}, HW a0 Z → d.before a0 Z = true
theorem wA (i : Nat) {d : Jvm.Cond} (q : tables_1[i]? = some d) : WT d := fun hw => hw _ (List.mem_of_getElem? q)
abbrev rO (f c s l : Nat) : Room := { frames := f, cells := c, slots := s, locals := l }
theorem nl {a b : Nat} (q : Nat.ble a b = true) : a ≤ b := Nat.le_of_ble_eq_true q
theorem nT {a b c : Nat} (q : a ≤ b) (r : b ≤ c) : a ≤ c := Nat.le_trans q r
theorem nE {a b : Nat} (q : b = a) : a ≤ b := Nat.le_of_eq q.symm
theorem nU {a b c : Nat} (q : a < b) (r : b ≤ c) : a < c := Nat.lt_of_lt_of_le q r
theorem nN {a b c : Nat} (q : a < b) (r : b ≤ c) : a ≠ c := Nat.ne_of_lt (Nat.lt_of_lt_of_le q r)
theorem mG {α : Type} {l : List α} {a : α} (i : Nat) (q : l[i]? = some a) : a ∈ l := List.mem_of_getElem? q
abbrev vR (a : Addr) : Slot := .val (.ref a)
abbrev vI (x : Int32) : Slot := .val (.int x)
abbrev QT := Option Value → Heap → List Loc → Prop
def Pu (w : Option Value) (h0 : Heap) : QT := fun v h L => v = w ∧ L = [] ∧ h = h0
abbrev MF (l : Launch) {Z : State} {a0 : Array Value} (hw : HW a0 Z) (y : MethodName) (code : ByteArray) (ml : Nat) (ret : Option FieldType) (R : Room) (as : Array Value) (h0 : Heap) (Q : QT) : Prop :=
  MetFree l y (head1 [Jvm.Cond.code y code ml ret] R) (fun a U => a = as ∧ Z.Warmed39 U.vm ∧ U.heap = h0) (fun _ _ _ _ _ => True) (fun _ U o U' => ∃ v L, o = .returned v ∧ Q v U'.heap L ∧ FrameEnd U o U' L R.cells R.slots)
abbrev DE := Nat × Instr × Nat
def dN : List DE → Nat → DE → DE
  | [], _, d => d
  | a :: _, 0, _ => a
  | _ :: L, k + 1, d => dN L k d
def dG (L : List DE) (k : Nat) : DE := dN L k (L.headD (0, .nop, 1))
theorem dN_mem : ∀ (L : List DE) (k : Nat) (d : DE), dN L k d ∈ L ∨ dN L k d = d
  | [], _, _ => Or.inr rfl
  | _ :: _, 0, _ => Or.inl (List.mem_cons_self ..)
  | _ :: L, k + 1, d => (dN_mem L k d).imp (List.mem_cons_of_mem _) id
theorem dk {code : ByteArray} {L : List DE} (h : L.isEmpty = false ∧ ∀ z ∈ L, decode code z.1 = .ok z.2) (k : Nat) : decode code (dG L k).1 = .ok (dG L k).2 := by
  rcases dN_mem L k (L.headD (0, .nop, 1)) with q | q
  · exact h.2 _ q
  · have q' : dG L k = L.headD (0, .nop, 1) := q
    rw [q']
    cases L with
    | nil => exact absurd h.1 (by simp)
    | cons a L => exact h.2 _ (List.mem_cons_self ..)
abbrev DO (L : List DE) (c : ByteArray) : Prop := L.isEmpty = false ∧ ∀ z ∈ L, decode c z.1 = .ok z.2
theorem pF {x : MethodName} (h : plainName x.cls = true) : plainFor x = true := plainFor_of_name h
def DX (p : Program) (c : Code) (z : DE) : Prop := p.tables.exec = Jvm.exec ∧ decode c.code z.1 = .ok z.2

section OwnKit
variable {p : Program} {l : Launch} {e : Env} {R : Room} {s : State} {m : MethodId} {args : Array Value} {below : List Frame} {meth : Method} {c : Code} {T : State} {locs : List Loc} {cells slots : Nat}
/-- from A the invocation ends, and what it leaves is Q, within K cells and N slots -/
def OD (p : Program) (e : Env) (s : State) (below : List Frame) (Q : Option Value → Heap → List Loc → Prop) (K N : Nat) (A : State) : Prop :=
  ∃ s₂ o, Steps p.tables e below A s₂ ∧ s₂.status = .running ∧ Ended s₂ below o ∧ ∃ v L, o = .returned v ∧ Q v s₂.heap L ∧ FrameEnd s o s₂ L K N
theorem OD.go {Q : Option Value → Heap → List Loc → Prop} {K N : Nat} {A B : State} (h : ∀ t, Steps p.tables e below B t → Steps p.tables e below A t) (k : OD p e s below Q K N B) : OD p e s below Q K N A := by
  obtain ⟨s₂, o, h1, r⟩ := k
  exact ⟨s₂, o, h _ h1, r⟩
theorem OD.via {Q : Option Value → Heap → List Loc → Prop} {K N : Nat} {A B : State} (h : Steps p.tables e below A B) (k : OD p e s below Q K N B) : OD p e s below Q K N A := OD.go (fun _ q => h.trans q) k
theorem OD.cut {Q : Option Value → Heap → List Loc → Prop} {K N : Nat} {A B : State} (f : OD p e s below Q K N B → OD p e s below Q K N A) (g : OD p e s below Q K N B) : OD p e s below Q K N A := f g
theorem OD.cutA {Q : Option Value → Heap → List Loc → Prop} {K N : Nat} {A : State} {P : State → Prop} {B : State → State} (f : (∀ T, P T → OD p e s below Q K N (B T)) → OD p e s below Q K N A) (g : ∀ T, P T → OD p e s below Q K N (B T)) : OD p e s below Q K N A := f g
theorem OD.cutX {Q : Option Value → Heap → List Loc → Prop} {K N : Nat} {A s' T0 : State} {h : Heap} (X : Stand p l e R s' m args below meth c T0 locs cells slots) {B : State → State} (f : (∀ T, (Stand p l e R s' m args below meth c T locs cells slots ∧ T.heap = h) → OD p e s below Q K N (B T)) → OD p e s below Q K N A) (g : ∀ T, (Stand p l e R s' m args below meth c T locs cells slots ∧ T.heap = h) → OD p e s below Q K N (B T)) : OD p e s below Q K N A := f g
theorem OD.ret {Q : Option Value → Heap → List Loc → Prop} {K N : Nat} (X : Stand p l e R s m args below meth c T locs cells slots) (hx : p.tables.exec = Jvm.exec) (hlk : meth.locks = false) {pc : Nat} {Ls : Array Slot} {w : Value} {t : FieldType} {i : Instr} {rest : List Value} (hret : meth.sig.returnType = some t) (hn : narrow t w = w)
    (hi : (i = .ireturn ∧ (t = .int ∨ t = .boolean ∨ t = .byte ∨ t = .char ∨ t = .short) ∧ ∃ z, w = .int z) ∨ (i = .lreturn ∧ t = .long ∧ ∃ z, w = .long z) ∨ (i = .dreturn ∧ t = .double ∧ ∃ z, w = .double z) ∨ (i = .freturn ∧ t = .float ∧ ∃ z, w = .float z) ∨ (i = .areturn ∧ t.isReference = true ∧ w.isRef = true))
    (hd : decode c.code pc = .ok (i, 1)) (hk : cells ≤ K) (hs : slots ≤ N) (hQ : Q (some w) T.heap locs) : OD p e s below Q K N (T.setTop (mkF m pc Ls (w :: rest))) := by
  obtain ⟨fs, hr, hrun, hended, hW, hsame⟩ := X.leave (v := some w) (fun h => by rw [hret] at h; cases h) hlk
  exact ⟨_, _, retOut X hx hret hn hi hd hr, hrun, hended, _, _, rfl, hQ, ⟨_, rfl⟩, hW, hsame.mono hk hs⟩
theorem OD.retV {Q : Option Value → Heap → List Loc → Prop} {K N : Nat} (X : Stand p l e R s m args below meth c T locs cells slots) (hx : p.tables.exec = Jvm.exec) (hlk : meth.locks = false) {pc : Nat} {Ls : Array Slot} (hret : meth.sig.returnType = none)
    (hd : decode c.code pc = .ok (.return_, 1)) (hk : cells ≤ K) (hs : slots ≤ N) (hQ : Q none T.heap locs) : OD p e s below Q K N (T.setTop (mkF m pc Ls [])) := by
  obtain ⟨fs, hr, hrun, hended, hW, hsame⟩ := X.leave (v := none) (fun _ => rfl) hlk
  exact ⟨_, _, X.returnOut hx hret hd hr, hrun, hended, _, _, rfl, hQ, ⟨_, rfl⟩, hW, hsame.mono hk hs⟩
theorem own_len {Z : State} {h : Heap} {a : Addr} {k : ClassId} {ty : FieldType} {z : Int32} {vs : List Value} {dv : Value} (F : Arv Z h a k ty z vs dv) : ∃ cl : Cell, Arr Z h a cl ty ∧ cl.slots.size.toInt32 = z := by
  obtain ⟨cl, A, -, S, M, -⟩ := F
  exact ⟨cl, A, len_of S M⟩
theorem own_at {Z : State} {h : Heap} {a : Addr} {k : ClassId} {ty : FieldType} {z j : Int32} {vs : List Value} {dv v : Value} (F : Arv Z h a k ty z vs dv) (q : ¬ j < 0 ∧ j < z) (u : vs.getD j.toNatClampNeg dv = v) : ∃ cl : Cell, Arr Z h a cl ty ∧ ¬ (j < 0 ∨ cl.slots.size ≤ j.toNatClampNeg) ∧ cl.slots[j.toNatClampNeg]? = some v := by
  obtain ⟨cl, A, -, S, M, H, -⟩ := F
  exact ⟨cl, A, inb_of S q, H.at (inb_of S q) u⟩
theorem own_inst {Z : State} {a0 : Array Value} {h : Heap} {own C K : String} {index : Nat} {a : Addr} (X : Stand p l e R s m args below meth c T locs cells slots) (hZ : Z.Warmed39 s.vm) (hown : s.vm.findClass own = some m.cls) (w : (Jvm.Cond.classLink own index K).before a0 Z = true) (E : Exa Z h a C) : Ins Z h a K true ∨ ∃ c t, Z.vm.findClass C = some c ∧ Z.vm.findClass K = some t ∧ Z.vm.assignable c t = false := by
  have hpl : e.platform.magicAccessors = ({} : Platform).magicAccessors := by rw [X.admits.platform]
  obtain ⟨c', hc', -⟩ := Cond.classLink_spec (args := args) hown (mv hZ w) e.platform hpl
  rw [hZ.alike.findClass] at hc'
  obtain ⟨cell, k, h1, h2, h3, h4, -⟩ := E
  cases ha : Z.vm.assignable cell.cls c' with
  | true => exact Or.inl ⟨cell, c', h1, hc', by rw [ha, h4]; rfl⟩
  | false => exact Or.inr ⟨_, _, h2, hc', ha⟩
end OwnKit

theorem nfs {Z s : State} {a0 : Array Value} {y : MethodName} {C : String} (hZ : Z.Warmed39 s.vm) (w : (Jvm.Cond.selects C y y).before a0 Z = true) : NotFace s y := notFace_of_selects (args := #[]) (mvT hZ w)
theorem nfo {Z s : State} {a0 : Array Value} {y y' : MethodName} {C : String} (hZ : Z.Warmed39 s.vm) (w : (Jvm.Cond.selects C y' y').before a0 Z = true) (w' : (Jvm.Cond.instanceMethod y').before a0 Z = true) (e : y'.cls = y.cls) : NotFace s y := fun r0 h0 => by
  obtain ⟨mk, -, hn, -, -, -⟩ := Cond.instanceMethod_spec (mvT (args := #[]) hZ w')
  obtain ⟨kr, h1, h2⟩ := nfs hZ w mk hn
  have hc := findClass_of_methodNamed hn
  rw [e] at hc
  have q : r0.cls = mk.cls := Option.some.inj ((findClass_of_methodNamed h0).symm.trans hc)
  exact ⟨kr, by rw [q]; exact h1, h2⟩
theorem own_same {Z : State} {a0 : Array Value} {y y' : MethodName} {C : String} (ws : (Jvm.Cond.selects C y' y').before a0 Z = true) (w' : (Jvm.Cond.instanceMethod y').before a0 Z = true) (w : (Jvm.Cond.instanceMethod y).before a0 Z = true) (e : y'.cls = y.cls) (hy : y.cls ≠ "java/lang/invoke/MethodHandle" ∧ y.cls ≠ "java/lang/invoke/VarHandle") : (Jvm.Cond.sameMethod y.cls y.cls y.name y.desc).before a0 Z = true := by
  obtain ⟨mk, -, hn', -, -, -⟩ := Cond.instanceMethod_spec w'
  obtain ⟨kr, h1, h2⟩ := notFace_of_selects ws mk hn'
  obtain ⟨m2, -, hn, -, -, -⟩ := Cond.instanceMethod_spec w
  have hc' := findClass_of_methodNamed hn'
  rw [e] at hc'
  have hf := State.methodFound?_of_named hn hy
  have hn2 : Z.methodNamed? ⟨y.cls, y.name, y.desc⟩ = some m2 := hn
  simp [Cond.before, Cond.holds, Cond.value, hc', hf, hn2, h1, h2]
section OwnShort
variable {p : Program} {l : Launch} {e : Env} {R : Room} {s s0 : State} {m : MethodId} {args : Array Value} {below : List Frame} {meth : Method} {c : Code} {T : State} {locs : List Loc} {cells slots : Nat} {t : State} {pc : Nat} {Ls : Array Slot} {S : List Value}
theorem MF.of {Z : State} {a0 : Array Value} {hw : HW a0 Z} {y : MethodName} {code : ByteArray} {ml : Nat} {ret : Option FieldType} {as : Array Value} {h0 : Heap} {Q : QT} {DT : List DE} (hp : plainFor y = true) (ef : ∀ m, entryFrame m as ml = mkF m 0 Ls []) (D : DT.isEmpty = false ∧ ∀ z ∈ DT, decode code z.1 = .ok z.2)
    (k : ∀ p e s m below meth c s₁, (∀ k, DX p c (dG DT k)) → meth.locks = false → c.maxLocals = ml → s.vm.findClass y.cls = some m.cls → meth.name = y.name → meth.sig.returnType = ret → Z.Warmed39 s.vm → Stand p l e R s m as below meth c s₁ [] 0 0 → s₁.heap = h0 → OD p e s below Q R.cells R.slots (s₁.setTop (mkF m 0 Ls []))) : MF l hw y code ml ret R as h0 Q := by
  refine MetFree.of_bodySF hp hisR ?_
  intro p e s m args below meth c s₁ Bd hml0 hP hK
  obtain ⟨rfl, hZ, hh⟩ := hP
  obtain ⟨s₂, o, h1, h2⟩ := k p e s m below meth c s₁ (fun k => ⟨Bd.exec, hb Bd.bytes (dk D k)⟩) Bd.notSynchronized hml0 (findClass_of_methodNamed Bd.named) (name_of_methodNamed Bd.named Bd.method).1 Bd.returns hZ (Stand.of_body Bd) (by rw [← hh, Bd.state]; rfl)
  exact ⟨s₂, o, castTop (ef m) h1, h2⟩
theorem zaN (X : Stand p l e R s m args below meth c T locs cells slots) {k : Fin 4} {v : Value} (hd : DX p c (pc, .aload_n k, 1)) (hl : Ls[k.val]? = some (.val v)) (hv : v.isRef = true) (q : Steps p.tables e below (T.setTop (mkF m (pc + 1) Ls (v :: S))) t) : Steps p.tables e below (T.setTop (mkF m pc Ls S)) t := XS.aloadN X.here hd.1 rfl hd.2 hl hv q
theorem zaL (X : Stand p l e R s m args below meth c T locs cells slots) {k : Nat} {v : Value} (hd : DX p c (pc, .aload k, 2)) (hl : Ls[k]? = some (.val v)) (hv : v.isRef = true) (q : Steps p.tables e below (T.setTop (mkF m (pc + 2) Ls (v :: S))) t) : Steps p.tables e below (T.setTop (mkF m pc Ls S)) t := XS.aload X.here hd.1 rfl hd.2 hl hv q
theorem ziN (X : Stand p l e R s m args below meth c T locs cells slots) {k : Fin 4} {v : Int32} (hd : DX p c (pc, .iload_n k, 1)) (hl : Ls[k.val]? = some (.val (.int v))) (q : Steps p.tables e below (T.setTop (mkF m (pc + 1) Ls (.int v :: S))) t) : Steps p.tables e below (T.setTop (mkF m pc Ls S)) t := XS.iloadN X.here hd.1 rfl hd.2 hl q
theorem ziL (X : Stand p l e R s m args below meth c T locs cells slots) {k : Nat} {v : Int32} (hd : DX p c (pc, .iload k, 2)) (hl : Ls[k]? = some (.val (.int v))) (q : Steps p.tables e below (T.setTop (mkF m (pc + 2) Ls (.int v :: S))) t) : Steps p.tables e below (T.setTop (mkF m pc Ls S)) t := XS.iload X.here hd.1 rfl hd.2 hl q
theorem zcI (X : Stand p l e R s m args below meth c T locs cells slots) {i : Int} (hd : DX p c (pc, .iconst i, 1)) (n : Int32) (hn : Int32.ofInt i = n) (q : Steps p.tables e below (T.setTop (mkF m (pc + 1) Ls (.int n :: S))) t) : Steps p.tables e below (T.setTop (mkF m pc Ls S)) t := XS.iconst X.here hd.1 rfl hd.2 (by rw [hn]; exact q)
theorem zcB (X : Stand p l e R s m args below meth c T locs cells slots) {i : Int} (hd : DX p c (pc, .bipush i, 2)) (n : Int32) (hn : (Int8.ofInt i).toInt32 = n) (q : Steps p.tables e below (T.setTop (mkF m (pc + 2) Ls (.int n :: S))) t) : Steps p.tables e below (T.setTop (mkF m pc Ls S)) t := XS.bipush X.here hd.1 rfl hd.2 (by rw [hn]; exact q)
theorem zcS (X : Stand p l e R s m args below meth c T locs cells slots) {i : Int} (hd : DX p c (pc, .sipush i, 3)) (n : Int32) (hn : (Int16.ofInt i).toInt32 = n) (q : Steps p.tables e below (T.setTop (mkF m (pc + 3) Ls (.int n :: S))) t) : Steps p.tables e below (T.setTop (mkF m pc Ls S)) t := XS.sipush X.here hd.1 rfl hd.2 (by rw [hn]; exact q)
theorem zsN (X : Stand p l e R s m args below meth c T locs cells slots) {k : Fin 4} {x : Int32} (hd : DX p c (pc, .istore_n k, 1)) (l' : Array Slot) (hl : storeLocals Ls k.val (.int x) = some l') (q : Steps p.tables e below (T.setTop (mkF m (pc + 1) l' S)) t) : Steps p.tables e below (T.setTop (mkF m pc Ls (.int x :: S))) t := XS.istoreN X.here hd.1 rfl hd.2 rfl hl q
theorem zsI (X : Stand p l e R s m args below meth c T locs cells slots) {k : Nat} {x : Int32} (hd : DX p c (pc, .istore k, 2)) (l' : Array Slot) (hl : storeLocals Ls k (.int x) = some l') (q : Steps p.tables e below (T.setTop (mkF m (pc + 2) l' S)) t) : Steps p.tables e below (T.setTop (mkF m pc Ls (.int x :: S))) t := XS.istore X.here hd.1 rfl hd.2 rfl hl q
theorem zaT (X : Stand p l e R s m args below meth c T locs cells slots) {k : Fin 4} {x : Value} (hd : DX p c (pc, .astore_n k, 1)) (hv : x.isRef = true) (l' : Array Slot) (hl : storeLocals Ls k.val x = some l') (q : Steps p.tables e below (T.setTop (mkF m (pc + 1) l' S)) t) : Steps p.tables e below (T.setTop (mkF m pc Ls (x :: S))) t := XS.astoreN X.here hd.1 rfl hd.2 rfl hv hl q
theorem zaS (X : Stand p l e R s m args below meth c T locs cells slots) {k : Nat} {x : Value} (hd : DX p c (pc, .astore k, 2)) (hv : x.isRef = true) (l' : Array Slot) (hl : storeLocals Ls k x = some l') (q : Steps p.tables e below (T.setTop (mkF m (pc + 2) l' S)) t) : Steps p.tables e below (T.setTop (mkF m pc Ls (x :: S))) t := XS.astore X.here hd.1 rfl hd.2 rfl hv hl q
theorem zic (X : Stand p l e R s m args below meth c T locs cells slots) {k : Nat} {i : Int} {x : Int32} (hd : DX p c (pc, .iinc k i, 3)) (hv : Ls[k]? = some (.val (.int x))) (l' : Array Slot) (hl : storeLocals Ls k (.int (x + Int32.ofInt i)) = some l') (q : Steps p.tables e below (T.setTop (mkF m (pc + 3) l' S)) t) : Steps p.tables e below (T.setTop (mkF m pc Ls S)) t := XS.iinc X.here hd.1 rfl hd.2 hv hl q
theorem zgO (X : Stand p l e R s m args below meth c T locs cells slots) {o : Int} (hd : DX p c (pc, .goto o, 3)) (pc' : Nat) (q : Steps p.tables e below (T.setTop (mkF m pc' Ls S)) t) (ho : decide (0 ≤ (pc : Int) + o) = true := by rfl) (hp : ((pc : Int) + o).toNat = pc' := by rfl) : Steps p.tables e below (T.setTop (mkF m pc Ls S)) t := XS.goto X.here hd.1 rfl (pc0 := pc) (pc' := pc') rfl hd.2 (of_decide_eq_true ho) hp q
theorem zjY (X : Stand p l e R s m args below meth c T locs cells slots) {cd : ClassFile.Cond} {o : Int} {x : Int32} (hd : DX p c (pc, .ifCond cd o, 3)) (pc' : Nat) (hc : if_icmp.holds cd x 0 = true) (q : Steps p.tables e below (T.setTop (mkF m pc' Ls S)) t) (ho : decide (0 ≤ (pc : Int) + o) = true := by rfl) (hp : ((pc : Int) + o).toNat = pc' := by rfl) : Steps p.tables e below (T.setTop (mkF m pc Ls (.int x :: S))) t := XS.ifYes X.here hd.1 rfl (pc0 := pc) (pc' := pc') rfl hd.2 rfl (by rw [if0]; exact hc) (of_decide_eq_true ho) hp q
theorem zjN (X : Stand p l e R s m args below meth c T locs cells slots) {cd : ClassFile.Cond} {o : Int} {x : Int32} (hd : DX p c (pc, .ifCond cd o, 3)) (hc : if_icmp.holds cd x 0 = false) (q : Steps p.tables e below (T.setTop (mkF m (pc + 3) Ls S)) t) : Steps p.tables e below (T.setTop (mkF m pc Ls (.int x :: S))) t := XS.ifNo X.here hd.1 rfl hd.2 rfl (by rw [if0]; exact hc) q
theorem zkY (X : Stand p l e R s m args below meth c T locs cells slots) {cd : ClassFile.Cond} {o : Int} {x y : Int32} (hd : DX p c (pc, .if_icmp cd o, 3)) (pc' : Nat) (hc : if_icmp.holds cd x y = true) (q : Steps p.tables e below (T.setTop (mkF m pc' Ls S)) t) (ho : decide (0 ≤ (pc : Int) + o) = true := by rfl) (hp : ((pc : Int) + o).toNat = pc' := by rfl) : Steps p.tables e below (T.setTop (mkF m pc Ls (.int y :: .int x :: S))) t := XS.icmpYes X.here hd.1 rfl (pc0 := pc) (pc' := pc') rfl hd.2 rfl hc (of_decide_eq_true ho) hp q
theorem zkN (X : Stand p l e R s m args below meth c T locs cells slots) {cd : ClassFile.Cond} {o : Int} {x y : Int32} (hd : DX p c (pc, .if_icmp cd o, 3)) (hc : if_icmp.holds cd x y = false) (q : Steps p.tables e below (T.setTop (mkF m (pc + 3) Ls S)) t) : Steps p.tables e below (T.setTop (mkF m pc Ls (.int y :: .int x :: S))) t := XS.icmpNo X.here hd.1 rfl hd.2 rfl hc q
theorem zal {Z : State} {h : Heap} {a : Addr} {k : ClassId} {ty : FieldType} {z : Int32} {vs : List Value} {dv : Value} (X : Stand p l e R s m args below meth c T locs cells slots) (hd : DX p c (pc, .arraylength, 1)) (hZ : Z.Warmed39 s.vm) (eT : T.heap = h) (F : Arv Z h a k ty z vs dv) (q : Steps p.tables e below (T.setTop (mkF m (pc + 1) Ls (.int z :: S))) t) : Steps p.tables e below (T.setTop (mkF m pc Ls (.ref a :: S))) t := by
  obtain ⟨cl, Ar, hl⟩ := own_len F
  exact X.arraylength hd.1 (by rw [eT]; exact Ar.1) (State.isArrayOf_alike hZ.alike Ar.2.1) (g := mkF m pc Ls (.ref a :: S)) rfl rfl hd.2 _ (by rw [hl]; exact q)
theorem ziadd (X : Stand p l e R s m args below meth c T locs cells slots) {x y : Int32} (hd : DX p c (pc, .iadd, 1)) (q : Steps p.tables e below (T.setTop (mkF m (pc + 1) Ls (.int (x + y) :: S))) t) : Steps p.tables e below (T.setTop (mkF m pc Ls (.int y :: .int x :: S))) t := XS.iadd X.here hd.1 rfl hd.2 rfl q
theorem zisub (X : Stand p l e R s m args below meth c T locs cells slots) {x y : Int32} (hd : DX p c (pc, .isub, 1)) (q : Steps p.tables e below (T.setTop (mkF m (pc + 1) Ls (.int (x - y) :: S))) t) : Steps p.tables e below (T.setTop (mkF m pc Ls (.int y :: .int x :: S))) t := XS.isub X.here hd.1 rfl hd.2 rfl q
theorem zimul (X : Stand p l e R s m args below meth c T locs cells slots) {x y : Int32} (hd : DX p c (pc, .imul, 1)) (q : Steps p.tables e below (T.setTop (mkF m (pc + 1) Ls (.int (x * y) :: S))) t) : Steps p.tables e below (T.setTop (mkF m pc Ls (.int y :: .int x :: S))) t := XS.imul X.here hd.1 rfl hd.2 rfl q
theorem ziand (X : Stand p l e R s m args below meth c T locs cells slots) {x y : Int32} (hd : DX p c (pc, .iand, 1)) (q : Steps p.tables e below (T.setTop (mkF m (pc + 1) Ls (.int (x &&& y) :: S))) t) : Steps p.tables e below (T.setTop (mkF m pc Ls (.int y :: .int x :: S))) t := XS.iand X.here hd.1 rfl hd.2 rfl q
theorem zior (X : Stand p l e R s m args below meth c T locs cells slots) {x y : Int32} (hd : DX p c (pc, .ior, 1)) (q : Steps p.tables e below (T.setTop (mkF m (pc + 1) Ls (.int (x ||| y) :: S))) t) : Steps p.tables e below (T.setTop (mkF m pc Ls (.int y :: .int x :: S))) t := XS.ior X.here hd.1 rfl hd.2 rfl q
theorem zishl (X : Stand p l e R s m args below meth c T locs cells slots) {x y : Int32} (hd : DX p c (pc, .ishl, 1)) (q : Steps p.tables e below (T.setTop (mkF m (pc + 1) Ls (.int (x <<< (y &&& 31)) :: S))) t) : Steps p.tables e below (T.setTop (mkF m pc Ls (.int y :: .int x :: S))) t := XS.ishl X.here hd.1 rfl hd.2 rfl q
theorem zishr (X : Stand p l e R s m args below meth c T locs cells slots) {x y : Int32} (hd : DX p c (pc, .ishr, 1)) (q : Steps p.tables e below (T.setTop (mkF m (pc + 1) Ls (.int (x >>> (y &&& 31)) :: S))) t) : Steps p.tables e below (T.setTop (mkF m pc Ls (.int y :: .int x :: S))) t := XS.ishr X.here hd.1 rfl hd.2 rfl q
theorem ziushr (X : Stand p l e R s m args below meth c T locs cells slots) {x y : Int32} (hd : DX p c (pc, .iushr, 1)) (q : Steps p.tables e below (T.setTop (mkF m (pc + 1) Ls (.int ((x.toUInt32 >>> (y &&& 31).toUInt32).toInt32) :: S))) t) : Steps p.tables e below (T.setTop (mkF m pc Ls (.int y :: .int x :: S))) t := XS.iushr X.here hd.1 rfl hd.2 rfl q
theorem zi2b (X : Stand p l e R s m args below meth c T locs cells slots) {x : Int32} (hd : DX p c (pc, .i2b, 1)) (q : Steps p.tables e below (T.setTop (mkF m (pc + 1) Ls (.int (x.toInt8.toInt32) :: S))) t) : Steps p.tables e below (T.setTop (mkF m pc Ls (.int x :: S))) t := XS.i2b X.here hd.1 rfl hd.2 rfl q
theorem zi2c (X : Stand p l e R s m args below meth c T locs cells slots) {x : Int32} (hd : DX p c (pc, .i2c, 1)) (q : Steps p.tables e below (T.setTop (mkF m (pc + 1) Ls (.int (x.toUInt32.toUInt16.toUInt32.toInt32) :: S))) t) : Steps p.tables e below (T.setTop (mkF m pc Ls (.int x :: S))) t := XS.i2c X.here hd.1 rfl hd.2 rfl q
theorem OD.rI {Q : QT} {K N : Nat} {w : Int32} (X : Stand p l e R s m args below meth c T locs cells slots) (hd : DX p c (pc, .ireturn, 1)) (hlk : meth.locks = false) (hret : meth.sig.returnType = some .int) (hn : narrow .int (.int w) = .int w) (hQ : Q (some (.int w)) T.heap locs) (hk : cells ≤ K := by exact nl rfl) (hs : slots ≤ N := by exact nl rfl) : OD p e s below Q K N (T.setTop (mkF m pc Ls (.int w :: S))) := OD.ret X hd.1 hlk (t := .int) hret hn (Or.inl ⟨rfl, Or.inl rfl, _, rfl⟩) hd.2 hk hs hQ
theorem OD.rZ {Q : QT} {K N : Nat} {w : Int32} (X : Stand p l e R s m args below meth c T locs cells slots) (hd : DX p c (pc, .ireturn, 1)) (hlk : meth.locks = false) (hret : meth.sig.returnType = some .boolean) (hn : narrow .boolean (.int w) = .int w) (hQ : Q (some (.int w)) T.heap locs) (hk : cells ≤ K := by exact nl rfl) (hs : slots ≤ N := by exact nl rfl) : OD p e s below Q K N (T.setTop (mkF m pc Ls (.int w :: S))) := OD.ret X hd.1 hlk (t := .boolean) hret hn (Or.inl ⟨rfl, Or.inr (Or.inl rfl), _, rfl⟩) hd.2 hk hs hQ
theorem OD.rB {Q : QT} {K N : Nat} {w : Int32} (X : Stand p l e R s m args below meth c T locs cells slots) (hd : DX p c (pc, .ireturn, 1)) (hlk : meth.locks = false) (hret : meth.sig.returnType = some .byte) (hn : narrow .byte (.int w) = .int w) (hQ : Q (some (.int w)) T.heap locs) (hk : cells ≤ K := by exact nl rfl) (hs : slots ≤ N := by exact nl rfl) : OD p e s below Q K N (T.setTop (mkF m pc Ls (.int w :: S))) := OD.ret X hd.1 hlk (t := .byte) hret hn (Or.inl ⟨rfl, Or.inr (Or.inr (Or.inl rfl)), _, rfl⟩) hd.2 hk hs hQ
theorem OD.rC {Q : QT} {K N : Nat} {w : Int32} (X : Stand p l e R s m args below meth c T locs cells slots) (hd : DX p c (pc, .ireturn, 1)) (hlk : meth.locks = false) (hret : meth.sig.returnType = some .char) (hn : narrow .char (.int w) = .int w) (hQ : Q (some (.int w)) T.heap locs) (hk : cells ≤ K := by exact nl rfl) (hs : slots ≤ N := by exact nl rfl) : OD p e s below Q K N (T.setTop (mkF m pc Ls (.int w :: S))) := OD.ret X hd.1 hlk (t := .char) hret hn (Or.inl ⟨rfl, Or.inr (Or.inr (Or.inr (Or.inl rfl))), _, rfl⟩) hd.2 hk hs hQ
theorem OD.rA {Q : QT} {K N : Nat} {w : Value} {ty : FieldType} (X : Stand p l e R s m args below meth c T locs cells slots) (hd : DX p c (pc, .areturn, 1)) (hlk : meth.locks = false) (hret : meth.sig.returnType = some ty) (hn : narrow ty w = w) (hi : ty.isReference = true) (hv : w.isRef = true) (hQ : Q (some w) T.heap locs) (hk : cells ≤ K := by exact nl rfl) (hs : slots ≤ N := by exact nl rfl) : OD p e s below Q K N (T.setTop (mkF m pc Ls (w :: S))) := OD.ret X hd.1 hlk hret hn (Or.inr (Or.inr (Or.inr (Or.inr ⟨rfl, hi, hv⟩)))) hd.2 hk hs hQ
theorem OD.rV {Q : QT} {K N : Nat} (X : Stand p l e R s m args below meth c T locs cells slots) (hd : DX p c (pc, .return_, 1)) (hlk : meth.locks = false) (hret : meth.sig.returnType = none) (hQ : Q none T.heap locs) (hk : cells ≤ K := by exact nl rfl) (hs : slots ≤ N := by exact nl rfl) : OD p e s below Q K N (T.setTop (mkF m pc Ls [])) := OD.retV X hd.1 hlk hret hd.2 hk hs hQ

theorem OD.at {Q : QT} {K N : Nat} {A : State} {T' : State} (n : Nat) (h : ∀ t, Steps p.tables e below (T'.setTop (mkF m n Ls S)) t → Steps p.tables e below A t) (k : OD p e s0 below Q K N (T'.setTop (mkF m n Ls S))) : OD p e s0 below Q K N A := OD.go h k
theorem OD.gF {Q : QT} {K N : Nat} {Z : State} {a0 : Array Value} {h : Heap} {own R0 O n d : String} {index : Nat} {a : Addr} {v : Value} (X : Stand p l e R s m args below meth c T locs cells slots) (hd : DX p c (pc, .getfield index, 3)) (hZ : Z.Warmed39 s.vm) (hown : s.vm.findClass own = some m.cls) (hw : HW a0 Z) (w : WT (Jvm.Cond.fieldLink own index R0 n d)) (via : Via Z R0 O n d) (eT : T.heap = h) (F : Fld Z h a O n d v)
    (k : ∀ T', Stand p l e R s m args below meth c T' locs cells slots → T'.heap = h → OD p e s0 below Q K N (T'.setTop (mkF m (pc + 3) Ls (v :: S)))) : OD p e s0 below Q K N (T.setTop (mkF m pc Ls (.ref a :: S))) := by
  obtain ⟨T', X', e', st⟩ := getF X hd.1 hZ (host := "") hown (Or.inl (w hw)) via eT F (g := mkF m pc Ls (.ref a :: S)) rfl rfl hd.2
  exact OD.go st (k T' X' e')
theorem OD.gS {Q : QT} {K N : Nat} {Z : State} {a0 : Array Value} {h : Heap} {own R0 O n d : String} {index : Nat} {v : Value} (X : Stand p l e R s m args below meth c T locs cells slots) (hd : DX p c (pc, .getstatic index, 3)) (hZ : Z.Warmed39 s.vm) (hown : s.vm.findClass own = some m.cls) (hw : HW a0 Z) (w : WT (Jvm.Cond.fieldLink own index R0 n d)) (via : Via Z R0 O n d) (eT : T.heap = h) (F : Sta Z h O n d v)
    (k : ∀ T', Stand p l e R s m args below meth c T' locs cells slots → T'.heap = h → OD p e s0 below Q K N (T'.setTop (mkF m (pc + 3) Ls (v :: S)))) : OD p e s0 below Q K N (T.setTop (mkF m pc Ls S)) := by
  obtain ⟨T', X', e', st⟩ := getS2 X hd.1 hZ (host := "") hown (Or.inl (w hw)) via eT F (g := mkF m pc Ls S) rfl hd.2
  exact OD.go st (k T' X' e')
theorem OD.cS {Q Q' : QT} {K N : Nat} {Z : State} {a0 : Array Value} {h : Heap} {own : String} {index : Nat} {y : MethodName} {bytes : ByteArray} {maxL : Nat} {ret : Option FieldType} {rm : Room} {al rest : List Value} {ps : List FieldType} {r : Option FieldType} (X : Stand p l e R s m args below meth c T locs cells slots) (hd : DX p c (pc, .invokestatic index, 3)) (hZ : Z.Warmed39 s.vm) (hown : s.vm.findClass own = some m.cls) (hml : c.maxLocals = Ls.size) {hw : HW a0 Z} (wl : WT (Jvm.Cond.methodLink own index y)) (ws : WT (Jvm.Cond.static y)) (wi : WT (Jvm.Cond.initialized y.cls)) (wc : WT (Jvm.Cond.code y bytes maxL ret)) (hp : parseMethodDescriptor y.desc = some ⟨ps, r⟩)
    (hM : MF l hw y bytes maxL ret rm al.toArray h Q') (he : T.heap = h) (hst : S = al.reverse ++ rest) (k : ∀ v T' L', Stand p l e R s m args below meth c T' (locs ++ L') (cells + rm.cells) (slots + rm.slots) → Q' v T'.heap L' → OD p e s0 below Q K N (T'.setTop (mkF m (pc + 3) Ls (v.toList ++ rest))))
    (hln : al.length = ps.length := by rfl) (hy : y.cls ≠ "java/lang/invoke/MethodHandle" ∧ y.cls ≠ "java/lang/invoke/VarHandle" := by decide) (hf : rm.frames + 1 ≤ R.frames := by exact nl rfl) (hl : (rest.map fun v => v.category).sum + (maxL + 11) + rm.locals ≤ R.locals := by exact nl rfl) (hc : cells + rm.cells ≤ R.cells := by first | exact nl rfl | omega | (dsimp only [rO, room_1]; omega)) (hs : slots + rm.slots ≤ R.slots := by first | exact nl rfl | omega | (dsimp only [rO, room_1]; omega)) : OD p e s0 below Q K N (T.setTop (mkF m pc Ls S)) := by
  obtain ⟨v, _, ⟨T', L', k', n'⟩, -, X', ⟨L2, hQ, h1, h2, h3⟩, st⟩ := Jvm.LawKit.callS X hd.1 (y := y) hown (mvT hZ (wl hw)) (mvT hZ (ws hw)) (mvT hZ (wi hw)) (mvT hZ (wc hw)) hy (backOf (W := (rest.map fun v => v.category).sum) hM hZ (wc hw) (wi hw) hf hl) (g := mkF m pc Ls S) rfl hml.symm (argsL := al) (rest := rest) (lenOf hp hln) hst (by show 2 * 0 + _ ≤ _; exact Nat.le_of_eq (by rw [Nat.mul_zero, Nat.zero_add])) hd.2 (fun _ _ => ⟨rfl, he, hc, hs⟩)
  dsimp only [Pt.U, Pt.locs, Pt.cells, Pt.slots] at X' h1 h2 h3 st hQ
  subst h1 h2 h3
  exact OD.go st (k v T' L2 X' hQ)
theorem OD.cV {Q Q' : QT} {K N : Nat} {Z : State} {a0 : Array Value} {h : Heap} {own C : String} {index : Nat} {y z : MethodName} {bytes : ByteArray} {maxL : Nat} {ret : Option FieldType} {rm : Room} {al rest : List Value} {b : Addr} {ps : List FieldType} {r : Option FieldType} (X : Stand p l e R s m args below meth c T locs cells slots) (hd : DX p c (pc, .invokevirtual index, 3)) (hZ : Z.Warmed39 s.vm) (hown : s.vm.findClass own = some m.cls) (hml : c.maxLocals = Ls.size) {hw : HW a0 Z} (wl : WT (Jvm.Cond.methodLink own index y)) (wd : WT (Jvm.Cond.declares y)) (nf : NotFace s y) (wsel : WT (Jvm.Cond.selects C y z)) (wi : WT (Jvm.Cond.instanceMethod z)) (wn : WT (Jvm.Cond.initialized z.cls)) (wc : WT (Jvm.Cond.code z bytes maxL ret)) (hp : parseMethodDescriptor y.desc = some ⟨ps, r⟩)
    (hM : MF l hw z bytes maxL ret rm (.ref b :: al).toArray h Q') (he : T.heap = h) (E : Exa Z h b C) (hst : S = al.reverse ++ .ref b :: rest) (k : ∀ v T' L', Stand p l e R s m args below meth c T' (locs ++ L') (cells + rm.cells) (slots + rm.slots) → Q' v T'.heap L' → OD p e s0 below Q K N (T'.setTop (mkF m (pc + 3) Ls (v.toList ++ rest))))
    (hln : al.length = ps.length := by rfl) (hy : y.cls ≠ "java/lang/invoke/MethodHandle" ∧ y.cls ≠ "java/lang/invoke/VarHandle" := by decide) (hf : rm.frames + 1 ≤ R.frames := by exact nl rfl) (hl : (rest.map fun v => v.category).sum + (maxL + 11) + rm.locals ≤ R.locals := by exact nl rfl) (hc : cells + rm.cells ≤ R.cells := by first | exact nl rfl | omega | (dsimp only [rO, room_1]; omega)) (hs : slots + rm.slots ≤ R.slots := by first | exact nl rfl | omega | (dsimp only [rO, room_1]; omega)) : OD p e s0 below Q K N (T.setTop (mkF m pc Ls S)) := by
  obtain ⟨cq, kq, qa, qb, qc⟩ := isOf hZ he E
  obtain ⟨v, _, ⟨T', L', k', n'⟩, -, X', ⟨L2, hQ, h1, h2, h3⟩, st⟩ := X.virtualBack hd.1 (y := y) (z := z) hown (mvT hZ (wl hw)) (mvT hZ (wd hw)) nf (mvT hZ (wsel hw)) (mvT hZ (wi hw)) hy (backOf (W := (rest.map fun v => v.category).sum) hM hZ (wc hw) (wn hw) hf hl) qa qc (g := mkF m pc Ls S) rfl hml.symm (Steps.refl _) (argsL := al) (rest := rest) (lenOf hp hln) hst (by show 2 * 0 + _ ≤ _; exact Nat.le_of_eq (by rw [Nat.mul_zero, Nat.zero_add])) hd.2 (fun _ _ => ⟨rfl, he, hc, hs⟩)
  dsimp only [Pt.U, Pt.locs, Pt.cells, Pt.slots] at X' h1 h2 h3 st hQ
  subst h1 h2 h3
  exact OD.via st (k v T' L2 X' hQ)
theorem OD.cI {Q Q' : QT} {K N : Nat} {Z : State} {a0 : Array Value} {h : Heap} {own : String} {index : Nat} {y : MethodName} {bytes : ByteArray} {maxL : Nat} {rm : Room} {al rest : List Value} {b : Addr} {ps : List FieldType} {r : Option FieldType} (X : Stand p l e R s m args below meth c T locs cells slots) (hd : DX p c (pc, .invokespecial index, 3)) (hZ : Z.Warmed39 s.vm) (hown : s.vm.findClass own = some m.cls) (hml : c.maxLocals = Ls.size) {hw : HW a0 Z} (wl : WT (Jvm.Cond.methodLink own index y)) (wi : WT (Jvm.Cond.instanceMethod y)) (wn : WT (Jvm.Cond.initialized y.cls)) (wc : WT (Jvm.Cond.code y bytes maxL none)) (hp : parseMethodDescriptor y.desc = some ⟨ps, r⟩)
    (hM : MF l hw y bytes maxL none rm (.ref b :: al).toArray h Q') (he : T.heap = h) (hst : S = al.reverse ++ .ref b :: rest) (k : ∀ v T' L', Stand p l e R s m args below meth c T' (locs ++ L') (cells + rm.cells) (slots + rm.slots) → Q' v T'.heap L' → OD p e s0 below Q K N (T'.setTop (mkF m (pc + 3) Ls (v.toList ++ rest))))
    (hln : al.length = ps.length := by rfl) (hy1 : y.name = "<init>" := by rfl) (hy : y.cls ≠ "java/lang/invoke/MethodHandle" ∧ y.cls ≠ "java/lang/invoke/VarHandle" := by decide) (hf : rm.frames + 1 ≤ R.frames := by exact nl rfl) (hl : (rest.map fun v => v.category).sum + (maxL + 11) + rm.locals ≤ R.locals := by exact nl rfl) (hc : cells + rm.cells ≤ R.cells := by first | exact nl rfl | omega | (dsimp only [rO, room_1]; omega)) (hs : slots + rm.slots ≤ R.slots := by first | exact nl rfl | omega | (dsimp only [rO, room_1]; omega)) : OD p e s0 below Q K N (T.setTop (mkF m pc Ls S)) := by
  obtain ⟨v, _, ⟨T', L', k', n'⟩, -, X', ⟨L2, hQ, h1, h2, h3⟩, st⟩ := X.specialBack hd.1 (y := y) hy1 hown (mvT hZ (wl hw)) (mvT hZ (wi hw)) (mvT hZ (wc hw)) hy (backOf (W := (rest.map fun v => v.category).sum) hM hZ (wc hw) (wn hw) hf hl) (g := mkF m pc Ls S) rfl hml.symm (Steps.refl _) (a := b) (argsL := al) (rest := rest) (lenOf hp hln) hst (by show 2 * 0 + _ ≤ _; exact Nat.le_of_eq (by rw [Nat.mul_zero, Nat.zero_add])) hd.2 (fun _ _ => ⟨rfl, he, hc, hs⟩)
  dsimp only [Pt.U, Pt.locs, Pt.cells, Pt.slots] at X' h1 h2 h3 st hQ
  subst h1 h2 h3
  exact OD.via st (k v T' L2 X' hQ)
theorem OD.cU {Q Q' : QT} {K N : Nat} {Z : State} {a0 : Array Value} {h : Heap} {own C : String} {index : Nat} {y : MethodName} {bytes : ByteArray} {maxL : Nat} {ret : Option FieldType} {rm : Room} {al rest : List Value} {b : Addr} {ps : List FieldType} {r : Option FieldType} (X : Stand p l e R s m args below meth c T locs cells slots) (hd : DX p c (pc, .invokespecial index, 3)) (hZ : Z.Warmed39 s.vm) (hown : s.vm.findClass own = some m.cls) (hml : c.maxLocals = Ls.size) {hw : HW a0 Z} (wl : WT (Jvm.Cond.methodLink own index y)) (w2 : (Jvm.Cond.sameMethod y.cls y.cls y.name y.desc).before a0 Z = true) (wi : WT (Jvm.Cond.instanceMethod y)) (w4 : WT (Jvm.Cond.superclass own y.cls)) (wn : WT (Jvm.Cond.initialized y.cls)) (wc : WT (Jvm.Cond.code y bytes maxL ret)) (hp : parseMethodDescriptor y.desc = some ⟨ps, r⟩)
    (hM : MF l hw y bytes maxL ret rm (.ref b :: al).toArray h Q') (he : T.heap = h) (E : Exa Z h b C) (hst : S = al.reverse ++ .ref b :: rest) (k : ∀ v T' L', Stand p l e R s m args below meth c T' (locs ++ L') (cells + rm.cells) (slots + rm.slots) → Q' v T'.heap L' → OD p e s0 below Q K N (T'.setTop (mkF m (pc + 3) Ls (v.toList ++ rest))))
    (hln : al.length = ps.length := by rfl) (hy1 : y.name ≠ "<init>" := by decide) (hf : rm.frames + 1 ≤ R.frames := by exact nl rfl) (hl : (rest.map fun v => v.category).sum + (maxL + 11) + rm.locals ≤ R.locals := by exact nl rfl) (hc : cells + rm.cells ≤ R.cells := by first | exact nl rfl | omega | (dsimp only [rO, room_1]; omega)) (hs : slots + rm.slots ≤ R.slots := by first | exact nl rfl | omega | (dsimp only [rO, room_1]; omega)) : OD p e s0 below Q K N (T.setTop (mkF m pc Ls S)) := by
  obtain ⟨v, _, ⟨T', L', k', n'⟩, -, X', ⟨L2, hQ, h1, h2, h3⟩, st⟩ := superBack X hd.1 hZ (y := y) hown (wl hw) w2 (wi hw) (w4 hw) hy1 (backOf (W := (rest.map fun v => v.category).sum) hM hZ (wc hw) (wn hw) hf hl) he (Ins.self E) (g := mkF m pc Ls S) rfl hml.symm (wc hw) (argsL := al) (rest := rest) (lenOf hp hln) hst (by show 2 * 0 + _ ≤ _; exact Nat.le_of_eq (by rw [Nat.mul_zero, Nat.zero_add])) hd.2 (fun _ _ => ⟨rfl, he, hc, hs⟩)
  dsimp only [Pt.U, Pt.locs, Pt.cells, Pt.slots] at X' h1 h2 h3 st hQ
  subst h1 h2 h3
  exact OD.via st (k v T' L2 X' hQ)
end OwnShort

theorem wS_in {Z : State} {a0 : Array Value} (hw : ∀ d ∈ tables_1, d.before a0 Z = true) : ∀ a ∈ Bundle.stringAtoms, a.before a0 Z = true := fun a ha => hw _ ((by decide +kernel : ∀ w ∈ Bundle.stringAtoms, w ∈ tables_1) a ha)

section OwnKitH
open Jvm.Free.SB Jvm.Free.SBG
variable {p : Program} {l : Launch} {e : Env} {R : Room} {s : State} {m : MethodId} {args : Array Value} {below : List Frame} {meth : Method} {c : Code} {T : State} {locs : List Loc} {cells slots : Nat} {Z : State} {EL : List (String × Nat)}
/-- ODW that keeps the invariant of the held constants -/
def ODH (Z : State) (EL : List (String × Nat)) (p : Program) (e : Env) (s : State) (below : List Frame) (Q : Option Value → Heap → List Loc → Prop) (K N : Nat) (A : State) : Prop :=
  ∃ s₂ o, Steps p.tables e below A s₂ ∧ s₂.status = .running ∧ Ended s₂ below o ∧ ∃ v L, o = .returned v ∧ Q v s₂.heap L ∧ CHr Z EL s.vm s.heap s₂.vm s₂.heap ∧ ReturnedEndW s o s₂ L K N
theorem ODH.go {Q : Option Value → Heap → List Loc → Prop} {K N : Nat} {A B : State} (h : ∀ t, Steps p.tables e below B t → Steps p.tables e below A t) (k : ODH Z EL p e s below Q K N B) : ODH Z EL p e s below Q K N A := by
  obtain ⟨s₂, o, h1, r⟩ := k
  exact ⟨s₂, o, h _ h1, r⟩
theorem ODH.via {Q : Option Value → Heap → List Loc → Prop} {K N : Nat} {A B : State} (h : Steps p.tables e below A B) (k : ODH Z EL p e s below Q K N B) : ODH Z EL p e s below Q K N A := ODH.go (fun _ q => h.trans q) k
theorem ODH.cut {Q : Option Value → Heap → List Loc → Prop} {K N : Nat} {A B : State} (f : ODH Z EL p e s below Q K N B → ODH Z EL p e s below Q K N A) (g : ODH Z EL p e s below Q K N B) : ODH Z EL p e s below Q K N A := f g
theorem ODH.cutA {Q : Option Value → Heap → List Loc → Prop} {K N : Nat} {A : State} {P : State → Prop} {B : State → State} (f : (∀ T, P T → ODH Z EL p e s below Q K N (B T)) → ODH Z EL p e s below Q K N A) (g : ∀ T, P T → ODH Z EL p e s below Q K N (B T)) : ODH Z EL p e s below Q K N A := f g
theorem ODH.cutX {Q : Option Value → Heap → List Loc → Prop} {K N : Nat} {A s' T0 : State} {h : Heap} (X : Stand p l e R s' m args below meth c T0 locs cells slots) {B : State → State} (f : (∀ T, (Stand p l e R s' m args below meth c T locs cells slots ∧ T.heap = h) → ODH Z EL p e s below Q K N (B T)) → ODH Z EL p e s below Q K N A) (g : ∀ T, (Stand p l e R s' m args below meth c T locs cells slots ∧ T.heap = h) → ODH Z EL p e s below Q K N (B T)) : ODH Z EL p e s below Q K N A := f g
theorem ODH.ret {Q : Option Value → Heap → List Loc → Prop} {K N : Nat} {vm₁ : Vm} (X : Stand p l e R (s.setVm vm₁) m args below meth c T locs cells slots) (hx : p.tables.exec = Jvm.exec) (hlk : meth.locks = false) {n : Nat} (hS : s.Since vm₁ n) (hnn : n ≤ T.heap.size) (hch : CHr Z EL s.vm s.heap T.vm T.heap) {pc : Nat} {Ls : Array Slot} {w : Value} {t : FieldType} {i : Instr} {rest : List Value} (hret : meth.sig.returnType = some t) (hn : narrow t w = w)
    (hi : (i = .ireturn ∧ (t = .int ∨ t = .boolean ∨ t = .byte ∨ t = .char ∨ t = .short) ∧ ∃ z, w = .int z) ∨ (i = .lreturn ∧ t = .long ∧ ∃ z, w = .long z) ∨ (i = .dreturn ∧ t = .double ∧ ∃ z, w = .double z) ∨ (i = .freturn ∧ t = .float ∧ ∃ z, w = .float z) ∨ (i = .areturn ∧ t.isReference = true ∧ w.isRef = true))
    (hd : decode c.code pc = .ok (i, 1)) (hk : cells ≤ K) (hs : slots ≤ N) (hQ : Q (some w) T.heap locs) : ODH Z EL p e s below Q K N (T.setTop (mkF m pc Ls (w :: rest))) := by
  obtain ⟨fs, hr, hrun, hended, h1, h2, h3, h4⟩ := X.leaveW hS hnn (v := some w) (fun h => by rw [hret] at h; cases h) hlk
  exact ⟨_, _, retOut X hx hret hn hi hd hr, hrun, hended, _, _, rfl, hQ, hch, h1, h2, h3, h4.mono hk hs⟩
theorem ODH.retV {Q : Option Value → Heap → List Loc → Prop} {K N : Nat} {vm₁ : Vm} (X : Stand p l e R (s.setVm vm₁) m args below meth c T locs cells slots) (hx : p.tables.exec = Jvm.exec) (hlk : meth.locks = false) {n : Nat} (hS : s.Since vm₁ n) (hnn : n ≤ T.heap.size) (hch : CHr Z EL s.vm s.heap T.vm T.heap) {pc : Nat} {Ls : Array Slot} (hret : meth.sig.returnType = none)
    (hd : decode c.code pc = .ok (.return_, 1)) (hk : cells ≤ K) (hs : slots ≤ N) (hQ : Q none T.heap locs) : ODH Z EL p e s below Q K N (T.setTop (mkF m pc Ls [])) := by
  obtain ⟨fs, hr, hrun, hended, h1, h2, h3, h4⟩ := X.leaveW hS hnn (v := none) (fun _ => rfl) hlk
  exact ⟨_, _, X.returnOut hx hret hd hr, hrun, hended, _, _, rfl, hQ, hch, h1, h2, h3, h4.mono hk hs⟩
/-- a String whose value is still null is no booked one -/
theorem own_safeNull {vm : Vm} {h : Heap} {x : Addr} (hal : Z.vm.Alike vm) (E : Exa Z h x "java/lang/String") (F0 : Fld Z h x "java/lang/String" "value" "[B" .null) : Safe Z EL vm h x := fun B => by
  obtain ⟨p, -, u, a, -, q, -, F, rfl | rfl⟩ := B
  · obtain ⟨cell, c, k, i, f, g1, g2, g3, g4, g5, g6, g7⟩ := F0
    cases (show h[q.sa]? = some q.sC from F.ha).symm.trans g1
    obtain ⟨cS, ⟨⟨-, -, -, ⟨c1, k1, i1, f1, -⟩, -, -, -, v1, -⟩, -⟩, -⟩ := F
    obtain ⟨k3, e3, -⟩ := State.fieldFound?_setVm (s := ({ Z with heap := h } : State)) hal g2
    have e4 := (show (Wst Z vm h).fieldFound? _ _ _ = _ from e3).symm.trans f1
    simp only [Option.some.injEq, Prod.mk.injEq] at e4
    rw [← e4.2.2.2, g7] at v1
    cases v1
  · obtain ⟨cell, k, e1, e2, e3, -, -⟩ := E
    cases (show h[q.sd]? = some q.SA from F.hd).symm.trans e1
    obtain ⟨cS, -, -, f, -⟩ := F
    have f' : Z.vm.findClass "[B" = some q.SA.cls := by rw [← hal.findClass]; exact f
    obtain ⟨k1, q1, q2⟩ := Vm.findClass_spec f'
    obtain ⟨k2, q3, q4⟩ := Vm.findClass_spec e2
    cases q1.symm.trans q3
    exact absurd (q2.symm.trans q4) (by decide)
theorem own_safeArv {vm : Vm} {h : Heap} {x : Addr} {k : ClassId} {ty : FieldType} {z : Int32} {vs : List Value} {dv : Value} (hal : Z.vm.Alike vm) (A : Arv Z h x k ty z vs dv) (ht : ty ≠ .byte) : Safe Z EL vm h x := by
  obtain ⟨cl, A, -⟩ := A
  exact Safe.arr hal A ht
end OwnKitH
section OwnShortH
variable {p : Program} {l : Launch} {e : Env} {R : Room} {s s0 : State} {m : MethodId} {args : Array Value} {below : List Frame} {meth : Method} {c : Code} {T : State} {locs : List Loc} {cells slots : Nat} {t : State} {pc : Nat} {Ls : Array Slot} {S : List Value}
theorem ODH.at {ZZ : State} {EE : List (String × Nat)} {Q : QT} {K N : Nat} {A : State} {T' : State} (n : Nat) (h : ∀ t, Steps p.tables e below (T'.setTop (mkF m n Ls S)) t → Steps p.tables e below A t) (k : ODH ZZ EE p e s0 below Q K N (T'.setTop (mkF m n Ls S))) : ODH ZZ EE p e s0 below Q K N A := ODH.go h k
theorem ODH.gF {ZZ : State} {EE : List (String × Nat)} {Q : QT} {K N : Nat} {Z : State} {a0 : Array Value} {h : Heap} {own R0 O n d : String} {index : Nat} {a : Addr} {v : Value} (X : Stand p l e R s m args below meth c T locs cells slots) (hd : DX p c (pc, .getfield index, 3)) (hZ : Z.Warmed39 s.vm) (hown : s.vm.findClass own = some m.cls) (hw : HW a0 Z) (w : WT (Jvm.Cond.fieldLink own index R0 n d)) (via : Via Z R0 O n d) (eT : T.heap = h) (F : Fld Z h a O n d v)
    (k : ∀ T', Stand p l e R s m args below meth c T' locs cells slots → T'.heap = h → ODH ZZ EE p e s0 below Q K N (T'.setTop (mkF m (pc + 3) Ls (v :: S)))) : ODH ZZ EE p e s0 below Q K N (T.setTop (mkF m pc Ls (.ref a :: S))) := by
  obtain ⟨T', X', e', st⟩ := getF X hd.1 hZ (host := "") hown (Or.inl (w hw)) via eT F (g := mkF m pc Ls (.ref a :: S)) rfl rfl hd.2
  exact ODH.go st (k T' X' e')
theorem ODH.gS {ZZ : State} {EE : List (String × Nat)} {Q : QT} {K N : Nat} {Z : State} {a0 : Array Value} {h : Heap} {own R0 O n d : String} {index : Nat} {v : Value} (X : Stand p l e R s m args below meth c T locs cells slots) (hd : DX p c (pc, .getstatic index, 3)) (hZ : Z.Warmed39 s.vm) (hown : s.vm.findClass own = some m.cls) (hw : HW a0 Z) (w : WT (Jvm.Cond.fieldLink own index R0 n d)) (via : Via Z R0 O n d) (eT : T.heap = h) (F : Sta Z h O n d v)
    (k : ∀ T', Stand p l e R s m args below meth c T' locs cells slots → T'.heap = h → ODH ZZ EE p e s0 below Q K N (T'.setTop (mkF m (pc + 3) Ls (v :: S)))) : ODH ZZ EE p e s0 below Q K N (T.setTop (mkF m pc Ls S)) := by
  obtain ⟨T', X', e', st⟩ := getS2 X hd.1 hZ (host := "") hown (Or.inl (w hw)) via eT F (g := mkF m pc Ls S) rfl hd.2
  exact ODH.go st (k T' X' e')
theorem ODH.cS {ZZ : State} {EE : List (String × Nat)} {Q Q' : QT} {K N : Nat} {Z : State} {a0 : Array Value} {h : Heap} {own : String} {index : Nat} {y : MethodName} {bytes : ByteArray} {maxL : Nat} {ret : Option FieldType} {rm : Room} {al rest : List Value} {ps : List FieldType} {r : Option FieldType} (X : Stand p l e R s m args below meth c T locs cells slots) (hd : DX p c (pc, .invokestatic index, 3)) (hZ : Z.Warmed39 s.vm) (hown : s.vm.findClass own = some m.cls) (hml : c.maxLocals = Ls.size) {hw : HW a0 Z} (wl : WT (Jvm.Cond.methodLink own index y)) (ws : WT (Jvm.Cond.static y)) (wi : WT (Jvm.Cond.initialized y.cls)) (wc : WT (Jvm.Cond.code y bytes maxL ret)) (hp : parseMethodDescriptor y.desc = some ⟨ps, r⟩)
    (hM : MF l hw y bytes maxL ret rm al.toArray h Q') (he : T.heap = h) (hst : S = al.reverse ++ rest) (k : ∀ v T' L', Stand p l e R s m args below meth c T' (locs ++ L') (cells + rm.cells) (slots + rm.slots) → Q' v T'.heap L' → ODH ZZ EE p e s0 below Q K N (T'.setTop (mkF m (pc + 3) Ls (v.toList ++ rest))))
    (hln : al.length = ps.length := by rfl) (hy : y.cls ≠ "java/lang/invoke/MethodHandle" ∧ y.cls ≠ "java/lang/invoke/VarHandle" := by decide) (hf : rm.frames + 1 ≤ R.frames := by exact nl rfl) (hl : (rest.map fun v => v.category).sum + (maxL + 11) + rm.locals ≤ R.locals := by exact nl rfl) (hc : cells + rm.cells ≤ R.cells := by first | exact nl rfl | omega | (dsimp only [rO, room_1]; omega)) (hs : slots + rm.slots ≤ R.slots := by first | exact nl rfl | omega | (dsimp only [rO, room_1]; omega)) : ODH ZZ EE p e s0 below Q K N (T.setTop (mkF m pc Ls S)) := by
  obtain ⟨v, _, ⟨T', L', k', n'⟩, -, X', ⟨L2, hQ, h1, h2, h3⟩, st⟩ := Jvm.LawKit.callS X hd.1 (y := y) hown (mvT hZ (wl hw)) (mvT hZ (ws hw)) (mvT hZ (wi hw)) (mvT hZ (wc hw)) hy (backOf (W := (rest.map fun v => v.category).sum) hM hZ (wc hw) (wi hw) hf hl) (g := mkF m pc Ls S) rfl hml.symm (argsL := al) (rest := rest) (lenOf hp hln) hst (by show 2 * 0 + _ ≤ _; exact Nat.le_of_eq (by rw [Nat.mul_zero, Nat.zero_add])) hd.2 (fun _ _ => ⟨rfl, he, hc, hs⟩)
  dsimp only [Pt.U, Pt.locs, Pt.cells, Pt.slots] at X' h1 h2 h3 st hQ
  subst h1 h2 h3
  exact ODH.go st (k v T' L2 X' hQ)
theorem ODH.cV {ZZ : State} {EE : List (String × Nat)} {Q Q' : QT} {K N : Nat} {Z : State} {a0 : Array Value} {h : Heap} {own C : String} {index : Nat} {y z : MethodName} {bytes : ByteArray} {maxL : Nat} {ret : Option FieldType} {rm : Room} {al rest : List Value} {b : Addr} {ps : List FieldType} {r : Option FieldType} (X : Stand p l e R s m args below meth c T locs cells slots) (hd : DX p c (pc, .invokevirtual index, 3)) (hZ : Z.Warmed39 s.vm) (hown : s.vm.findClass own = some m.cls) (hml : c.maxLocals = Ls.size) {hw : HW a0 Z} (wl : WT (Jvm.Cond.methodLink own index y)) (wd : WT (Jvm.Cond.declares y)) (nf : NotFace s y) (wsel : WT (Jvm.Cond.selects C y z)) (wi : WT (Jvm.Cond.instanceMethod z)) (wn : WT (Jvm.Cond.initialized z.cls)) (wc : WT (Jvm.Cond.code z bytes maxL ret)) (hp : parseMethodDescriptor y.desc = some ⟨ps, r⟩)
    (hM : MF l hw z bytes maxL ret rm (.ref b :: al).toArray h Q') (he : T.heap = h) (E : Exa Z h b C) (hst : S = al.reverse ++ .ref b :: rest) (k : ∀ v T' L', Stand p l e R s m args below meth c T' (locs ++ L') (cells + rm.cells) (slots + rm.slots) → Q' v T'.heap L' → ODH ZZ EE p e s0 below Q K N (T'.setTop (mkF m (pc + 3) Ls (v.toList ++ rest))))
    (hln : al.length = ps.length := by rfl) (hy : y.cls ≠ "java/lang/invoke/MethodHandle" ∧ y.cls ≠ "java/lang/invoke/VarHandle" := by decide) (hf : rm.frames + 1 ≤ R.frames := by exact nl rfl) (hl : (rest.map fun v => v.category).sum + (maxL + 11) + rm.locals ≤ R.locals := by exact nl rfl) (hc : cells + rm.cells ≤ R.cells := by first | exact nl rfl | omega | (dsimp only [rO, room_1]; omega)) (hs : slots + rm.slots ≤ R.slots := by first | exact nl rfl | omega | (dsimp only [rO, room_1]; omega)) : ODH ZZ EE p e s0 below Q K N (T.setTop (mkF m pc Ls S)) := by
  obtain ⟨cq, kq, qa, qb, qc⟩ := isOf hZ he E
  obtain ⟨v, _, ⟨T', L', k', n'⟩, -, X', ⟨L2, hQ, h1, h2, h3⟩, st⟩ := X.virtualBack hd.1 (y := y) (z := z) hown (mvT hZ (wl hw)) (mvT hZ (wd hw)) nf (mvT hZ (wsel hw)) (mvT hZ (wi hw)) hy (backOf (W := (rest.map fun v => v.category).sum) hM hZ (wc hw) (wn hw) hf hl) qa qc (g := mkF m pc Ls S) rfl hml.symm (Steps.refl _) (argsL := al) (rest := rest) (lenOf hp hln) hst (by show 2 * 0 + _ ≤ _; exact Nat.le_of_eq (by rw [Nat.mul_zero, Nat.zero_add])) hd.2 (fun _ _ => ⟨rfl, he, hc, hs⟩)
  dsimp only [Pt.U, Pt.locs, Pt.cells, Pt.slots] at X' h1 h2 h3 st hQ
  subst h1 h2 h3
  exact ODH.via st (k v T' L2 X' hQ)
theorem ODH.cI {ZZ : State} {EE : List (String × Nat)} {Q Q' : QT} {K N : Nat} {Z : State} {a0 : Array Value} {h : Heap} {own : String} {index : Nat} {y : MethodName} {bytes : ByteArray} {maxL : Nat} {rm : Room} {al rest : List Value} {b : Addr} {ps : List FieldType} {r : Option FieldType} (X : Stand p l e R s m args below meth c T locs cells slots) (hd : DX p c (pc, .invokespecial index, 3)) (hZ : Z.Warmed39 s.vm) (hown : s.vm.findClass own = some m.cls) (hml : c.maxLocals = Ls.size) {hw : HW a0 Z} (wl : WT (Jvm.Cond.methodLink own index y)) (wi : WT (Jvm.Cond.instanceMethod y)) (wn : WT (Jvm.Cond.initialized y.cls)) (wc : WT (Jvm.Cond.code y bytes maxL none)) (hp : parseMethodDescriptor y.desc = some ⟨ps, r⟩)
    (hM : MF l hw y bytes maxL none rm (.ref b :: al).toArray h Q') (he : T.heap = h) (hst : S = al.reverse ++ .ref b :: rest) (k : ∀ v T' L', Stand p l e R s m args below meth c T' (locs ++ L') (cells + rm.cells) (slots + rm.slots) → Q' v T'.heap L' → ODH ZZ EE p e s0 below Q K N (T'.setTop (mkF m (pc + 3) Ls (v.toList ++ rest))))
    (hln : al.length = ps.length := by rfl) (hy1 : y.name = "<init>" := by rfl) (hy : y.cls ≠ "java/lang/invoke/MethodHandle" ∧ y.cls ≠ "java/lang/invoke/VarHandle" := by decide) (hf : rm.frames + 1 ≤ R.frames := by exact nl rfl) (hl : (rest.map fun v => v.category).sum + (maxL + 11) + rm.locals ≤ R.locals := by exact nl rfl) (hc : cells + rm.cells ≤ R.cells := by first | exact nl rfl | omega | (dsimp only [rO, room_1]; omega)) (hs : slots + rm.slots ≤ R.slots := by first | exact nl rfl | omega | (dsimp only [rO, room_1]; omega)) : ODH ZZ EE p e s0 below Q K N (T.setTop (mkF m pc Ls S)) := by
  obtain ⟨v, _, ⟨T', L', k', n'⟩, -, X', ⟨L2, hQ, h1, h2, h3⟩, st⟩ := X.specialBack hd.1 (y := y) hy1 hown (mvT hZ (wl hw)) (mvT hZ (wi hw)) (mvT hZ (wc hw)) hy (backOf (W := (rest.map fun v => v.category).sum) hM hZ (wc hw) (wn hw) hf hl) (g := mkF m pc Ls S) rfl hml.symm (Steps.refl _) (a := b) (argsL := al) (rest := rest) (lenOf hp hln) hst (by show 2 * 0 + _ ≤ _; exact Nat.le_of_eq (by rw [Nat.mul_zero, Nat.zero_add])) hd.2 (fun _ _ => ⟨rfl, he, hc, hs⟩)
  dsimp only [Pt.U, Pt.locs, Pt.cells, Pt.slots] at X' h1 h2 h3 st hQ
  subst h1 h2 h3
  exact ODH.via st (k v T' L2 X' hQ)
theorem ODH.cU {ZZ : State} {EE : List (String × Nat)} {Q Q' : QT} {K N : Nat} {Z : State} {a0 : Array Value} {h : Heap} {own C : String} {index : Nat} {y : MethodName} {bytes : ByteArray} {maxL : Nat} {ret : Option FieldType} {rm : Room} {al rest : List Value} {b : Addr} {ps : List FieldType} {r : Option FieldType} (X : Stand p l e R s m args below meth c T locs cells slots) (hd : DX p c (pc, .invokespecial index, 3)) (hZ : Z.Warmed39 s.vm) (hown : s.vm.findClass own = some m.cls) (hml : c.maxLocals = Ls.size) {hw : HW a0 Z} (wl : WT (Jvm.Cond.methodLink own index y)) (w2 : (Jvm.Cond.sameMethod y.cls y.cls y.name y.desc).before a0 Z = true) (wi : WT (Jvm.Cond.instanceMethod y)) (w4 : WT (Jvm.Cond.superclass own y.cls)) (wn : WT (Jvm.Cond.initialized y.cls)) (wc : WT (Jvm.Cond.code y bytes maxL ret)) (hp : parseMethodDescriptor y.desc = some ⟨ps, r⟩)
    (hM : MF l hw y bytes maxL ret rm (.ref b :: al).toArray h Q') (he : T.heap = h) (E : Exa Z h b C) (hst : S = al.reverse ++ .ref b :: rest) (k : ∀ v T' L', Stand p l e R s m args below meth c T' (locs ++ L') (cells + rm.cells) (slots + rm.slots) → Q' v T'.heap L' → ODH ZZ EE p e s0 below Q K N (T'.setTop (mkF m (pc + 3) Ls (v.toList ++ rest))))
    (hln : al.length = ps.length := by rfl) (hy1 : y.name ≠ "<init>" := by decide) (hf : rm.frames + 1 ≤ R.frames := by exact nl rfl) (hl : (rest.map fun v => v.category).sum + (maxL + 11) + rm.locals ≤ R.locals := by exact nl rfl) (hc : cells + rm.cells ≤ R.cells := by first | exact nl rfl | omega | (dsimp only [rO, room_1]; omega)) (hs : slots + rm.slots ≤ R.slots := by first | exact nl rfl | omega | (dsimp only [rO, room_1]; omega)) : ODH ZZ EE p e s0 below Q K N (T.setTop (mkF m pc Ls S)) := by
  obtain ⟨v, _, ⟨T', L', k', n'⟩, -, X', ⟨L2, hQ, h1, h2, h3⟩, st⟩ := superBack X hd.1 hZ (y := y) hown (wl hw) w2 (wi hw) (w4 hw) hy1 (backOf (W := (rest.map fun v => v.category).sum) hM hZ (wc hw) (wn hw) hf hl) he (Ins.self E) (g := mkF m pc Ls S) rfl hml.symm (wc hw) (argsL := al) (rest := rest) (lenOf hp hln) hst (by show 2 * 0 + _ ≤ _; exact Nat.le_of_eq (by rw [Nat.mul_zero, Nat.zero_add])) hd.2 (fun _ _ => ⟨rfl, he, hc, hs⟩)
  dsimp only [Pt.U, Pt.locs, Pt.cells, Pt.slots] at X' h1 h2 h3 st hQ
  subst h1 h2 h3
  exact ODH.via st (k v T' L2 X' hQ)
end OwnShortH
theorem own_safeOr {Z : State} {EL : List (String × Nat)} {vm : Vm} {h : Heap} {t t' : Addr} (q : t' = t ∨ h.size ≤ t') (S : Safe Z EL vm h t) : Safe Z EL vm h t' := by
  rcases q with rfl | q
  · exact S
  · exact Safe.new q
abbrev zZ0 : String := "java/lang/String"
abbrev zZ1 : String := "java/lang/StringUTF16"
abbrev zZ2 : String := "java/lang/AbstractStringBuilder"
abbrev zZ3 : String := "java/lang/StringBuilder"
abbrev zZ4 : String := "java/lang/Character"
abbrev zZ5 : String := "com/example/triad/triad/rest/PercentEncodingEncodePinLaw"
abbrev zZ6 : String := "com/example/triad/triad/rest/PercentEncoding"
abbrev zZ7 : String := "java/lang/StringLatin1"
abbrev zZ8 : String := "java/util/Arrays"
abbrev zZ9 : String := "jdk/internal/util/Preconditions"
abbrev zZ10 : String := "java/lang/Math"
abbrev zZ11 : String := "codePointAt"
abbrev zZ12 : String := "checkIndex"
abbrev zZ13 : String := "(C)Ljava/lang/AbstractStringBuilder;"
abbrev zZ14 : String := "java/lang/StringCoding"
abbrev zZ15 : String := "ensureCapacityInternal"
abbrev zZ16 : String := "appendCodePoint"
abbrev zZ17 : String := "COMPACT_STRINGS"
abbrev zZ18 : String := "indexOfChar"
abbrev zZ19 : String := "(C)Ljava/lang/StringBuilder;"
abbrev zZ20 : String := "(IIILjava/util/function/BiFunction;)I"
abbrev zZ21 : String := "checkBoundsBeginEnd"
abbrev zZ22 : String := "checkBoundsOffCount"
abbrev zZ23 : String := "([CI[BII)I"
abbrev zZ24 : String := "java/lang/Object"
abbrev zZ25 : String := "([CIILjava/lang/Void;)V"
abbrev zZ26 : String := "newCapacity"
abbrev zZ27 : String := "([BI[BII)V"
abbrev zZ28 : String := "(Ljava/nio/charset/Charset;)[B"
abbrev zZ29 : String := "()Ljava/lang/Object;"
abbrev zZ30 : String := "jdk/internal/util/ArraysSupport"
abbrev zZ31 : String := "(I)Ljava/lang/StringBuilder;"
abbrev zZ32 : String := "()Ljava/lang/String;"
abbrev zZ33 : String := "maybeLatin1"
abbrev zZ34 : String := "newBytesFor"
abbrev zZ35 : String := "encodeUTF8"
abbrev zZ36 : String := "(Ljava/nio/charset/Charset;B[B)[B"
abbrev zZ37 : String := "(ILjava/lang/String;)Z"
abbrev zZ38 : String := "(Ljava/lang/String;Ljava/lang/String;)Ljava/lang/String;"
abbrev zZ39 : String := "isHighSurrogate"
abbrev zZ40 : String := "isLowSurrogate"
abbrev zZ41 : String := "toCodePoint"
abbrev zZ42 : String := "isValidCodePoint"
abbrev zZ43 : String := "highSurrogate"
abbrev zZ44 : String := "lowSurrogate"
abbrev zZ45 : String := "isBmpCodePoint"
abbrev zZ46 : String := "countPositives"
abbrev zZ47 : String := "hasNegatives"
abbrev zZ48 : String := "encodeUTF8_UTF16"
abbrev zZ49 : String := "appendEncoded"
abbrev zZ50 : String := "(Ljava/lang/StringBuilder;I)V"
abbrev zZ51 : String := "(IILjava/util/function/BiFunction;)I"
abbrev zZ52 : String := "checkFromToIndex"
abbrev zZ53 : String := "checkFromIndexSize"
abbrev zZ54 : String := "indexOfCharUnsafe"
abbrev zZ55 : String := "indexOfSupplementary"
abbrev zZ56 : String := "newBytesLength"
abbrev zZ57 : String := "coderFromArrayLen"
abbrev zZ58 : String := "java/lang/System"
abbrev zZ59 : String := "(I)Ljava/lang/AbstractStringBuilder;"
abbrev zZ60 : String := "copyOfRangeByte"
abbrev zZ61 : String := "(Ljava/lang/AbstractStringBuilder;Ljava/lang/Void;)V"
abbrev zZ62 : String := "(Ljava/lang/StringBuilder;)V"
abbrev zZ63 : String := "(Ljava/lang/String;[CII)Z"
abbrev zZ64 : String := "Ljava/util/function/BiFunction;"
abbrev zZ65 : String := "java/nio/charset/StandardCharsets"
abbrev zZ66 : String := "Ljava/nio/charset/Charset;"
abbrev zZ67 : String := "(Ljava/lang/Object;ILjava/lang/Object;II)V"
abbrev kQ0 := jdk_89_method_12_code
abbrev kQ1 := jdk_89_method_11_code
abbrev kQ2 := jdk_89_method_14_code
abbrev kQ3 := jdk_89_method_15_code
abbrev kQ4 := jdk_89_method_16_code
abbrev kQ5 := jdk_89_method_19_code
abbrev kQ6 := jdk_89_method_29_code
abbrev kQ7 := jdk_89_method_28_code
abbrev kQ8 := jdk_89_method_18_code
abbrev kQ9 := jdk_43_method_3_code
abbrev kQ10 := jdk_43_method_4_code
abbrev kQ11 := jdk_29_method_65_code
abbrev kQ12 := jdk_29_method_69_code
abbrev kQ13 := jdk_41_method_11_code
abbrev kQ14 := jdk_42_method_155_code
abbrev kQ15 := jdk_41_method_12_code
abbrev kQ16 := jdk_42_method_158_code
abbrev kQ17 := jdk_41_method_13_code
abbrev kQ18 := jdk_42_method_157_code
abbrev kQ19 := jdk_52_method_6_code
abbrev kQ20 := jdk_52_method_91_code
abbrev kQ21 := jdk_52_method_93_code
abbrev kQ22 := jdk_52_method_94_code
abbrev kQ23 := jdk_52_method_5_code
abbrev kQ24 := jdk_52_method_4_code
abbrev kQ25 := jdk_42_method_154_code
abbrev kQ26 := jdk_42_method_152_code
abbrev kQ27 := jdk_42_method_54_code
abbrev kQ28 := jdk_43_method_23_code
abbrev kQ29 := jdk_43_method_22_code
abbrev kQ30 := jdk_42_method_80_code
abbrev kQ31 := jdk_42_method_79_code
abbrev kQ32 := jdk_43_method_2_code
abbrev kQ33 := jdk_52_method_83_code
abbrev kQ34 := jdk_42_method_56_code
abbrev kQ35 := jdk_52_method_7_code
abbrev kQ36 := jdk_52_method_8_code
abbrev kQ37 := jdk_42_method_57_code
abbrev kQ38 := jdk_52_method_48_code
abbrev kQ39 := jdk_52_method_47_code
abbrev kQ40 := jdk_52_method_49_code
abbrev kQ41 := jdk_52_method_40_code
abbrev kQ42 := prog_9_method_2_code
abbrev kQ43 := jdk_52_method_3_code
abbrev kQ44 := jdk_52_method_2_code
abbrev kQ45 := jdk_52_method_21_code
abbrev kQ46 := jdk_52_method_14_code
abbrev kQ47 := jdk_52_method_15_code
abbrev kQ48 := jdk_52_method_16_code
abbrev kQ49 := jdk_42_method_149_code
abbrev kQ50 := jdk_42_method_3_code
abbrev kQ51 := jdk_89_method_32_code
abbrev kQ52 := jdk_89_method_31_code
abbrev kQ53 := jdk_65_method_121_code
abbrev kQ54 := jdk_123_method_3_code
abbrev kQ55 := jdk_123_method_2_code
abbrev kQ56 := jdk_42_method_47_code
abbrev kQ57 := jdk_42_method_46_code
abbrev kQ58 := jdk_42_method_18_code
abbrev kQ59 := jdk_42_method_64_code
abbrev kQ60 := jdk_68_method_68_code
abbrev kQ61 := jdk_48_method_27_code
abbrev kQ62 := jdk_68_method_10_code
abbrev kQ63 := jdk_68_method_9_code
abbrev kQ64 := jdk_52_method_71_code
abbrev kQ65 := jdk_52_method_86_code
abbrev kQ66 := jdk_43_method_50_code
abbrev kQ67 := jdk_68_method_11_code
abbrev kQ68 := jdk_68_method_31_code
abbrev kQ69 := jdk_67_method_14_code
abbrev kQ70 := jdk_67_method_73_code
abbrev kQ71 := jdk_68_method_37_code
abbrev kQ72 := jdk_67_method_19_code
abbrev kQ73 := jdk_68_method_2_code
abbrev kQ74 := jdk_67_method_2_code
abbrev kQ75 := jdk_65_method_131_code
abbrev kQ76 := jdk_68_method_64_code
abbrev kQ77 := jdk_68_method_6_code
abbrev kQ78 := jdk_67_method_93_code
abbrev kQ79 := jdk_65_method_133_code
abbrev kQ80 := jdk_65_method_132_code
abbrev kQ81 := jdk_42_method_150_code
abbrev kQ82 := jdk_42_method_53_code
abbrev kQ83 := jdk_67_method_42_code
abbrev kQ84 := prog_9_method_4_code
abbrev kQ85 := prog_9_method_3_code
/-- an array's values by a function of the index -/
def own_rg (N : Nat) (F : Int32 → Value) : List Value := (List.range N).map (fun i => F (Int32.ofNat i))
theorem own_ofNat {j z : Int32} (h : ¬ j < 0 ∧ j < z) : Int32.ofNat j.toNatClampNeg = j ∧ j.toNatClampNeg < z.toNatClampNeg := by
  have e := (back32 h.1).1
  refine ⟨e, ?_⟩
  have h1 := h.1
  have h2 := h.2
  rw [Int32.lt_iff_toInt_lt] at h1 h2
  have e0 : (0 : Int32).toInt = 0 := rfl
  simp only [Int32.toNatClampNeg] at *
  omega
theorem own_rg_at {j z : Int32} (h : ¬ j < 0 ∧ j < z) (F : Int32 → Value) (d : Value) : (own_rg z.toNatClampNeg F).getD j.toNatClampNeg d = F j := by
  obtain ⟨e, l⟩ := own_ofNat h
  simp [own_rg, List.getD_eq_getElem?_getD, l, e]
theorem own_rg_len (N : Nat) (F : Int32 → Value) : (own_rg N F).length = N := by simp [own_rg]
theorem own_rg_set {t z : Int32} (h : ¬ t < 0 ∧ t < z) (F F' : Int32 → Value) {v : Value} (h1 : F' t = v) (h2 : ∀ x, x ≠ t → F' x = F x) : (own_rg z.toNatClampNeg F).set t.toNatClampNeg v = own_rg z.toNatClampNeg F' := by
  obtain ⟨e, l⟩ := own_ofNat h
  have zz : z.toNatClampNeg < 2 ^ 31 := by
    have := z.toInt_lt
    simp only [Int32.toNatClampNeg]
    omega
  refine List.ext_getElem? fun i => ?_
  by_cases c : t.toNatClampNeg = i
  · subst c
    rw [List.getElem?_set_self (by rw [own_rg_len]; exact l)]
    simp [own_rg, l, e, h1]
  · rw [List.getElem?_set_ne c]
    by_cases l2 : i < z.toNatClampNeg
    · have n : Int32.ofNat i ≠ t := by
        intro q
        apply c
        rw [← q]
        have : (Int32.ofNat i).toInt = (i : Int) := toInt_of rfl (by omega)
        simp only [Int32.toNatClampNeg, this]
        omega
      simp [own_rg, l2, h2 _ n]
    · simp [own_rg, l2]
theorem own_pad (N : Nat) (d : Value) : ∀ i, (own_rg N (fun _ => d)).getD i d = ([] : List Value).getD i d := by
  intro i
  simp only [own_rg, List.getD_eq_getElem?_getD]
  by_cases l : i < N <;> simp [l]
theorem own_fill {Z : State} {h : Heap} {a : Addr} {k : ClassId} {ty : FieldType} {z : Int32} {d : Value} (F : Arv Z h a k ty z [] d) : Arv Z h a k ty z (own_rg z.toNatClampNeg (fun _ => d)) d := F.pad (own_pad _ _)
theorem own_put {Z : State} {h h' : Heap} {a : Addr} {k : ClassId} {ty : FieldType} {z t : Int32} {d v : Value} {F : Int32 → Value} (F' : Int32 → Value) {cl : Cell} (A : Arr Z h a cl ty) (q1 : cl.cls = k) (S : cl.slots.size = z.toNatClampNeg) (q3 : ¬ z < 0) (H : Has cl (own_rg z.toNatClampNeg F) d) (G : ∀ i, i < cl.slots.size → fits ty ((own_rg z.toNatClampNeg F).getD i d) = true) (hv : fits ty v = true) (W : Wr h h' a t.toNatClampNeg v) (ht : ¬ t < 0 ∧ t < z) (h1 : F' t = v) (h2 : ∀ x, x ≠ t → F' x = F x) : Arv Z h' a k ty z (own_rg z.toNatClampNeg F') d := by
  have q := Arv.set A q1 S q3 H G hv W t.toNatClampNeg rfl (by rw [own_rg_len]; exact (own_ofNat ht).2)
  rw [own_rg_set ht F F' h1 h2] at q
  exact q
def own_up {α : Type} (G : Int32 → α) (k : Int32) (v : α) : Int32 → α := fun x => if k = x then v else G x
theorem own_up_at {α : Type} (G : Int32 → α) (k : Int32) (v : α) : own_up G k v k = v := if_pos rfl
theorem own_up_ne {α : Type} (G : Int32 → α) {k x : Int32} (v : α) (h : x ≠ k) : own_up G k v x = G x := if_neg (Ne.symm h)

theorem own_add {x k : Int32} (h1 : x.toInt + k.toInt < 2147483648) (h2 : -2147483648 ≤ x.toInt + k.toInt) : (x + k).toInt = x.toInt + k.toInt := by
  have q := c_iadd x k
  have a := (x + k).toInt_lt
  have b := (x + k).le_toInt
  omega

theorem own_in {x z : Int32} (h1 : 0 ≤ x.toInt) (h2 : x.toInt < z.toInt) : ¬ x < 0 ∧ x < z := by
  rw [Int32.lt_iff_toInt_lt, Int32.lt_iff_toInt_lt]
  have e0 : (0 : Int32).toInt = 0 := rfl
  omega

def own_z : Int32 → Int32 := fun _ => 0
/-- two bytes, a char -/
def own_gc (F : Int32 → Int32) (i : Int32) : Int32 := ((((F (i <<< ((1 : Int32) &&& 31))) &&& (255 : Int32)) <<< ((0 : Int32) &&& 31)) ||| (((F ((i <<< ((1 : Int32) &&& 31)) + (1 : Int32))) &&& (255 : Int32)) <<< ((8 : Int32) &&& 31))).toUInt32.toUInt16.toUInt32.toInt32
def own_pc (F : Int32 → Int32) (i c : Int32) : Int32 → Int32 := (own_up (own_up F (i <<< ((1 : Int32) &&& 31)) (c >>> ((0 : Int32) &&& 31)).toInt8.toInt32.toInt8.toInt32) ((i <<< ((1 : Int32) &&& 31)) + (1 : Int32)) (c >>> ((8 : Int32) &&& 31)).toInt8.toInt32.toInt8.toInt32)
def RpL (F : Int32 → Int32) (cs : List Int32) : Prop := ∀ i : Nat, i < cs.length → F (Int32.ofNat i) = (cs.getD i 0).toInt8.toInt32 ∧ 0 ≤ (cs.getD i 0).toInt ∧ (cs.getD i 0).toInt ≤ 255
def RpU (F : Int32 → Int32) (cs : List Int32) : Prop := ∀ i : Nat, i < cs.length → own_gc F (Int32.ofNat i) = cs.getD i 0
theorem own_sr0 (x : Int32) : (x >>> ((0 : Int32) &&& 31)) = x := Int32.toInt_inj.mp (by rw [c_ishr x 0 0 rfl]; simp)
theorem own_sr1 {x n : Int32} (h : x.toInt = 2 * n.toInt) : (x >>> ((1 : Int32) &&& 31)) = n := Int32.toInt_inj.mp (by rw [c_ishr x 1 1 rfl, h]; omega)
theorem own_sl1 {i : Int32} (h1 : 0 ≤ i.toInt) (h2 : i.toInt < 1000000) : (i <<< ((1 : Int32) &&& 31)).toInt = 2 * i.toInt := by
  have q := c_ishl i 1 1 rfl
  have a := (i <<< ((1 : Int32) &&& 31)).toInt_lt
  have b := (i <<< ((1 : Int32) &&& 31)).le_toInt
  omega
theorem own_gb {i z : Int32} (h1 : 0 ≤ i.toInt) (h2 : 2 * i.toInt + 1 < z.toInt) (h3 : i.toInt < 1000000) : (¬ (i <<< ((1 : Int32) &&& 31)) < 0 ∧ (i <<< ((1 : Int32) &&& 31)) < z) ∧ (¬ ((i <<< ((1 : Int32) &&& 31)) + (1 : Int32)) < 0 ∧ ((i <<< ((1 : Int32) &&& 31)) + (1 : Int32)) < z) := by
  have e := own_sl1 h1 h3
  have e1 : (1 : Int32).toInt = 1 := rfl
  have e2 := own_add (x := (i <<< ((1 : Int32) &&& 31))) (k := 1) (by omega) (by omega)
  exact ⟨own_in (by omega) (by omega), own_in (by omega) (by omega)⟩
theorem own_in1 {x z : Int32} (h1 : 0 ≤ x.toInt) (h2 : 2 * x.toInt + 1 < z.toInt) : ¬ x < (0 : Int32) ∧ x < (z >>> ((1 : Int32) &&& 31)) := by
  have q := c_ishr z 1 1 rfl
  exact own_in h1 (by omega)
theorem own_m255 {c : Int32} (h1 : 0 ≤ c.toInt) (h2 : c.toInt ≤ 255) : (c.toInt8.toInt32 &&& (255 : Int32)) = c := by
  have q := c_mask c.toInt8.toInt32 255 8 (by decide) (by decide)
  have r := c_i2b c
  refine Int32.toInt_inj.mp ?_
  rw [q]
  omega
theorem own_i2cid {c : Int32} (h1 : 0 ≤ c.toInt) (h2 : c.toInt ≤ 65535) : c.toUInt32.toUInt16.toUInt32.toInt32 = c := by
  have q := c_i2c c
  exact Int32.toInt_inj.mp (by omega)
theorem own_bb (x : Int32) : x.toInt8.toInt32.toInt8.toInt32 = x.toInt8.toInt32 := by
  have q := c_i2b x
  have r := c_i2b x.toInt8.toInt32
  exact Int32.toInt_inj.mp (by omega)
theorem own_bid {x : Int32} (h1 : -128 ≤ x.toInt) (h2 : x.toInt ≤ 127) : x.toInt8.toInt32 = x := by
  have q := c_i2b x
  exact Int32.toInt_inj.mp (by omega)
theorem own_b255 {x y : Int32} (h1 : 0 ≤ x.toInt) (h2 : x.toInt ≤ 255) (h3 : 0 ≤ y.toInt) (h4 : y.toInt ≤ 255) (q : x.toInt8.toInt32 = y.toInt8.toInt32) : x = y := by rw [← own_m255 h1 h2, q, own_m255 h3 h4]
theorem own_ofc {x : Int32} (h : 0 ≤ x.toInt) : Int32.ofNat x.toNatClampNeg = x := (back32 (fun q => by rw [Int32.lt_iff_toInt_lt] at q; have : (0 : Int32).toInt = 0 := rfl; omega)).1
theorem own_clamp {x : Int32} (h : 0 ≤ x.toInt) : (x.toNatClampNeg : Int) = x.toInt := by
  simp only [Int32.toNatClampNeg]
  omega
theorem own_on {i : Nat} (h : i < 1000000) : (Int32.ofNat i).toInt = i := Int32.toInt_ofNat_of_lt (by omega)
theorem own_onj {i j : Nat} (h : i < 1000000) (h' : j < 1000000) (q : i ≠ j) : Int32.ofNat i ≠ Int32.ofNat j := fun e => q (by
  have := congrArg Int32.toInt e
  rw [own_on h, own_on h'] at this
  omega)
theorem own_gcB (F : Int32 → Int32) (i : Int32) : 0 ≤ (own_gc F i).toInt ∧ (own_gc F i).toInt ≤ 65535 := by
  unfold own_gc
  have := c_i2c ((((F (i <<< ((1 : Int32) &&& 31))) &&& (255 : Int32)) <<< ((0 : Int32) &&& 31)) ||| (((F ((i <<< ((1 : Int32) &&& 31)) + (1 : Int32))) &&& (255 : Int32)) <<< ((8 : Int32) &&& 31)))
  omega
theorem own_gcpc {F : Int32 → Int32} {i c : Int32} (h1 : 0 ≤ c.toInt) (h2 : c.toInt ≤ 65535) : own_gc (own_pc F i c) i = c := by
  have hne : (i <<< ((1 : Int32) &&& 31)) ≠ (i <<< ((1 : Int32) &&& 31)) + (1 : Int32) := fun e => by
    have q := c_iadd (i <<< ((1 : Int32) &&& 31)) 1
    rw [← e] at q
    have e1 : (1 : Int32).toInt = 1 := rfl
    omega
  unfold own_gc own_pc
  rw [own_up_ne _ _ hne, own_up_at, own_up_at, own_bb, own_bb, own_sr0]
  have a1 := c_mask c.toInt8.toInt32 255 8 (by decide) (by decide)
  have a2 := c_i2b c
  have b0 := c_ishr c 8 8 rfl
  have b1 := c_mask (c >>> ((8 : Int32) &&& 31)).toInt8.toInt32 255 8 (by decide) (by decide)
  have b2 := c_i2b (c >>> ((8 : Int32) &&& 31))
  generalize (c.toInt8.toInt32 &&& (255 : Int32)) = u at *
  generalize ((c >>> ((8 : Int32) &&& 31)).toInt8.toInt32 &&& (255 : Int32)) = w at *
  have s0 := c_ishl u 0 0 rfl
  have s0a := (u <<< ((0 : Int32) &&& 31)).toInt_lt
  have s0b := (u <<< ((0 : Int32) &&& 31)).le_toInt
  have s8 := c_ishl w 8 8 rfl
  have s8a := (w <<< ((8 : Int32) &&& 31)).toInt_lt
  have s8b := (w <<< ((8 : Int32) &&& 31)).le_toInt
  generalize (u <<< ((0 : Int32) &&& 31)) = u' at *
  generalize (w <<< ((8 : Int32) &&& 31)) = w' at *
  have o := c_or' u' w' 8 (by decide) 256 (by decide) (by omega) (by omega) (by omega)
  have r := c_i2c (u' ||| w')
  exact Int32.toInt_inj.mp (by omega)
theorem own_gcpn {F : Int32 → Int32} {i j : Nat} {c : Int32} (hi : i < 100000) (hj : j < 100000) (q : i ≠ j) : own_gc (own_pc F (Int32.ofNat i) c) (Int32.ofNat j) = own_gc F (Int32.ofNat j) := by
  have ei := own_on (i := i) (by omega)
  have ej := own_on (i := j) (by omega)
  have a := own_sl1 (i := Int32.ofNat i) (by omega) (by omega)
  have b := own_sl1 (i := Int32.ofNat j) (by omega) (by omega)
  have e1 : (1 : Int32).toInt = 1 := rfl
  have a1 := own_add (x := (Int32.ofNat i <<< ((1 : Int32) &&& 31))) (k := 1) (by omega) (by omega)
  have b1 := own_add (x := (Int32.ofNat j <<< ((1 : Int32) &&& 31))) (k := 1) (by omega) (by omega)
  unfold own_gc own_pc
  generalize (Int32.ofNat i <<< ((1 : Int32) &&& 31)) + 1 = x1 at *
  generalize (Int32.ofNat j <<< ((1 : Int32) &&& 31)) + 1 = y1 at *
  generalize (Int32.ofNat i <<< ((1 : Int32) &&& 31)) = x at *
  generalize (Int32.ofNat j <<< ((1 : Int32) &&& 31)) = y at *
  have ne : ∀ {u w : Int32}, u.toInt ≠ w.toInt → u ≠ w := fun h e => h (congrArg _ e)
  rw [own_up_ne _ _ (ne (u := y) (w := x1) (by omega)), own_up_ne _ _ (ne (u := y) (w := x) (by omega)), own_up_ne _ _ (ne (u := y1) (w := x1) (by omega)), own_up_ne _ _ (ne (u := y1) (w := x) (by omega))]
theorem own_getapp {cs : List Int32} {c : Int32} {i : Nat} (h : i < cs.length) : (cs ++ [c]).getD i 0 = cs.getD i 0 := by simp [List.getD_eq_getElem?_getD, List.getElem?_append_left h]
theorem own_getend {cs : List Int32} {c : Int32} : (cs ++ [c]).getD cs.length 0 = c := by simp [List.getD_eq_getElem?_getD]
theorem RpL.app {F : Int32 → Int32} {cs : List Int32} {c : Int32} (R : RpL F cs) (hl : cs.length < 100000) (h1 : 0 ≤ c.toInt) (h2 : c.toInt ≤ 255) : RpL (own_up F (Int32.ofNat cs.length) c.toInt8.toInt32.toInt8.toInt32) (cs ++ [c]) := fun i hi => by
  simp only [List.length_append, List.length_cons, List.length_nil] at hi
  rcases Nat.lt_or_ge i cs.length with l | l
  · rw [own_getapp l, own_up_ne _ _ (own_onj (by omega) (by omega) (by omega))]
    exact R i l
  · obtain rfl : i = cs.length := by omega
    rw [own_getend, own_up_at, own_bb]
    exact ⟨rfl, h1, h2⟩
theorem RpU.app {F : Int32 → Int32} {cs : List Int32} {c : Int32} (R : RpU F cs) (hl : cs.length < 90000) (h1 : 0 ≤ c.toInt) (h2 : c.toInt ≤ 65535) : RpU (own_pc F (Int32.ofNat cs.length) c) (cs ++ [c]) := fun i hi => by
  simp only [List.length_append, List.length_cons, List.length_nil] at hi
  rcases Nat.lt_or_ge i cs.length with l | l
  · rw [own_getapp l, own_gcpn (by omega) (by omega) (by omega)]
    exact R i l
  · obtain rfl : i = cs.length := by omega
    rw [own_getend, own_gcpc h1 h2]
theorem RpL.nil (F : Int32 → Int32) : RpL F [] := fun i hi => absurd hi (Nat.not_lt_zero _)
theorem RpU.nil (F : Int32 → Int32) : RpU F [] := fun i hi => absurd hi (Nat.not_lt_zero _)
theorem own_cnt (cs : List Int32) (c : Int32) : Int32.ofNat cs.length + (1 : Int32) = Int32.ofNat (cs ++ [c]).length := by
  rw [List.length_append, Int32.ofNat_add]
  rfl
def own_cut (F : Int32 → Int32) (m : Int32) : Int32 → Int32 := fun x => if x < m then F x else 0
theorem own_cut_at {F : Int32 → Int32} {m x : Int32} (h : x.toInt < m.toInt) : own_cut F m x = F x := if_pos (Int32.lt_iff_toInt_lt.mpr h)
theorem RpL.cut {F : Int32 → Int32} {cs : List Int32} {m : Int32} (R : RpL F cs) (hl : cs.length < 100000) (h : (cs.length : Int) ≤ m.toInt) : RpL (own_cut F m) cs := fun i hi => by
  rw [own_cut_at (by rw [own_on (by omega)]; omega)]
  exact R i hi
theorem RpU.cut {F : Int32 → Int32} {cs : List Int32} {m : Int32} (R : RpU F cs) (hl : cs.length < 100000) (h : 2 * (cs.length : Int) ≤ m.toInt) : RpU (own_cut F m) cs := fun i hi => by
  have ei := own_on (i := i) (by omega)
  have a := own_sl1 (i := Int32.ofNat i) (by omega) (by omega)
  have e1 : (1 : Int32).toInt = 1 := rfl
  have a1 := own_add (x := (Int32.ofNat i <<< ((1 : Int32) &&& 31))) (k := 1) (by omega) (by omega)
  have q := R i hi
  unfold own_gc at q ⊢
  rw [own_cut_at (by omega), own_cut_at (by omega)]
  exact q
theorem own_rg0 (N : Nat) (F : Int32 → Value) (i : Nat) (h : i < N) (d : Value) : (own_rg N F).getD i d = F (Int32.ofNat i) := by simp [own_rg, List.getD_eq_getElem?_getD, h]
theorem own_cpu {z nn : Int32} (F : Int32 → Int32) (d : Value) (h0 : 0 ≤ nn.toInt) (h : nn.toInt ≤ z.toInt) : own_rg nn.toNatClampNeg (fun x => .int (F x)) = (List.range nn.toNatClampNeg).map fun i => (own_rg z.toNatClampNeg (fun x => .int (F x))).getD ((0 : Int32).toNatClampNeg + i) d := by
  have a := own_clamp h0
  have b := own_clamp (x := z) (by omega)
  refine List.map_congr_left fun i hi => ?_
  have := List.mem_range.mp hi
  rw [show (0 : Int32).toNatClampNeg = 0 from rfl, Nat.zero_add, own_rg0 _ _ _ (by omega)]
theorem own_cpl {z nn : Int32} (F : Int32 → Int32) (h0 : 0 ≤ nn.toInt) (h : nn.toInt ≤ z.toInt) (hz : z.toInt < 100000) : (own_rg z.toNatClampNeg (fun x => .int (own_z x))).take (0 : Int32).toNatClampNeg ++ own_rg nn.toNatClampNeg (fun x => .int (F x)) ++ (own_rg z.toNatClampNeg (fun x => .int (own_z x))).drop ((0 : Int32).toNatClampNeg + nn.toNatClampNeg) = own_rg z.toNatClampNeg (fun x => .int (own_cut F nn x)) := by
  have a := own_clamp h0
  have b := own_clamp (x := z) (by omega)
  rw [show (0 : Int32).toNatClampNeg = 0 from rfl, Nat.zero_add, List.take_zero, List.nil_append]
  refine List.ext_getElem? fun i => ?_
  rcases Nat.lt_or_ge i nn.toNatClampNeg with l | l
  · rw [List.getElem?_append_left (by rw [own_rg_len]; exact l)]
    simp only [own_rg, List.getElem?_map, List.getElem?_range l, List.getElem?_range (show i < z.toNatClampNeg by omega), Option.map_some]
    rw [own_cut_at (by rw [own_on (by omega)]; omega)]
  · rw [List.getElem?_append_right (by rw [own_rg_len]; exact l), own_rg_len, List.getElem?_drop]
    rw [show nn.toNatClampNeg + (i - nn.toNatClampNeg) = i by omega]
    rcases Nat.lt_or_ge i z.toNatClampNeg with l2 | l2
    · simp only [own_rg, List.getElem?_map, List.getElem?_range l2, Option.map_some]
      have q : ¬ Int32.ofNat i < nn := fun q => by
        rw [Int32.lt_iff_toInt_lt, own_on (by omega)] at q
        omega
      unfold own_cut own_z
      rw [if_neg q]
    · rw [List.getElem?_eq_none (by rw [own_rg_len]; exact l2), List.getElem?_eq_none (by rw [own_rg_len]; exact l2)]
/-- a String of these chars -/
def Strg (Z : State) (h : Heap) (s t : Addr) (cs : List Int32) : Prop := Exa Z h s zZ0 ∧ (0 < cs.length → Exa Z h t "[B") ∧ Fld Z h s zZ0 "value" "[B" (.ref t) ∧ ∃ (k : ClassId) (z : Int32) (F : Int32 → Int32), Arv Z h t k .byte z (own_rg z.toNatClampNeg (fun x => .int (F x))) (.int (0 : Int32)) ∧ ((Fld Z h s zZ0 "coder" "B" (.int (0 : Int32)) ∧ z.toInt = cs.length ∧ RpL F cs) ∨ (Fld Z h s zZ0 "coder" "B" (.int (1 : Int32)) ∧ z.toInt = 2 * cs.length ∧ RpU F cs))
theorem Strg.ext {Z : State} {h h' : Heap} {s t : Addr} {cs : List Int32} (S : Strg Z h s t cs) (E : Ext h h') : Strg Z h' s t cs := by
  obtain ⟨a, b, v, k, z, F, A, r⟩ := S
  exact ⟨a.ext E, fun q => (b q).ext E, v.ext E, k, z, F, A.ext E, r.imp (fun q => ⟨q.1.ext E, q.2⟩) (fun q => ⟨q.1.ext E, q.2⟩)⟩
theorem Strg.wr {Z : State} {h h' : Heap} {s t a : Addr} {sl : Nat} {v : Value} {cs : List Int32} (S : Strg Z h s t cs) (W : Wr h h' a sl v) (n1 : s ≠ a) (n2 : t ≠ a) : Strg Z h' s t cs := by
  obtain ⟨a, b, v, k, z, F, A, r⟩ := S
  exact ⟨a.wr W, fun q => (b q).wr W, v.other W (Or.inl n1), k, z, F, A.other W n2, r.imp (fun q => ⟨q.1.other W (Or.inl n1), q.2⟩) (fun q => ⟨q.1.other W (Or.inl n1), q.2⟩)⟩
theorem Strg.keep {Z : State} {h h' : Heap} {s t : Addr} {ws : List Addr} {cs : List Int32} (S : Strg Z h s t cs) (K : Keep h h' ws) (n1 : s ∉ ws) (n2 : t ∉ ws) : Strg Z h' s t cs := by
  obtain ⟨a, b, v, k, z, F, A, r⟩ := S
  exact ⟨a.keep K, fun q => (b q).keep K, v.keep K n1, k, z, F, A.keep K n2, r.imp (fun q => ⟨q.1.keep K n1, q.2⟩) (fun q => ⟨q.1.keep K n1, q.2⟩)⟩
def InH (h : Heap) (t : Addr) : Prop := t < h.size
theorem InH.lt {h : Heap} {t : Addr} (q : InH h t) : t < h.size := q
theorem Strg.two {Z : State} {h : Heap} {s t : Addr} {cs : List Int32} (S : Strg Z h s t cs) : InH h t := by
  obtain ⟨a, b, v, k, z, F, A, r⟩ := S
  exact A.lt
def Cap (cd : Int32) (m : Nat) (z : Int32) (F : Int32 → Int32) (cs : List Int32) : Prop := (cd = 0 ∧ (cs.length : Int) + m ≤ z.toInt ∧ z.toInt ≤ 40 ∧ RpL F cs) ∨ (cd = 1 ∧ 2 * ((cs.length : Int) + m) ≤ z.toInt ∧ z.toInt ≤ 80 ∧ RpU F cs)
theorem Cap.l {m : Nat} {z : Int32} {F : Int32 → Int32} {cs : List Int32} (C : Cap 0 m z F cs) : (cs.length : Int) + m ≤ z.toInt ∧ z.toInt ≤ 40 ∧ RpL F cs := by
  rcases C with q | q
  · exact q.2
  · exact absurd q.1 (by decide)
theorem Cap.u {m : Nat} {z : Int32} {F : Int32 → Int32} {cs : List Int32} (C : Cap 1 m z F cs) : 2 * ((cs.length : Int) + m) ≤ z.toInt ∧ z.toInt ≤ 80 ∧ RpU F cs := by
  rcases C with q | q
  · exact absurd q.1 (by decide)
  · exact q.2
/-- a StringBuilder of these chars, with room for m more -/
def Bdr (Z : State) (h : Heap) (b t : Addr) (cd : Int32) (cs : List Int32) (m : Nat) : Prop := Exa Z h b zZ3 ∧ Exa Z h t "[B" ∧ Fld Z h b zZ2 "value" "[B" (.ref t) ∧ Fld Z h b zZ2 "coder" "B" (.int cd) ∧ Fld Z h b zZ2 "count" "I" (.int (Int32.ofNat cs.length)) ∧ Fld Z h b zZ2 zZ33 "Z" (.int (0 : Int32)) ∧ ∃ (k : ClassId) (z : Int32) (F : Int32 → Int32), Arv Z h t k .byte z (own_rg z.toNatClampNeg (fun x => .int (F x))) (.int (0 : Int32)) ∧ Cap cd m z F cs
theorem Bdr.ext {Z : State} {h h' : Heap} {b t : Addr} {cd : Int32} {cs : List Int32} {m : Nat} (S : Bdr Z h b t cd cs m) (E : Ext h h') : Bdr Z h' b t cd cs m := by
  obtain ⟨a, b, v1, v2, v3, v4, k, z, F, A, r⟩ := S
  exact ⟨a.ext E, b.ext E, v1.ext E, v2.ext E, v3.ext E, v4.ext E, k, z, F, A.ext E, r⟩
theorem Bdr.wr {Z : State} {h h' : Heap} {b t a : Addr} {sl : Nat} {v : Value} {cd : Int32} {cs : List Int32} {m : Nat} (S : Bdr Z h b t cd cs m) (W : Wr h h' a sl v) (n1 : b ≠ a) (n2 : t ≠ a) : Bdr Z h' b t cd cs m := by
  obtain ⟨a, b, v1, v2, v3, v4, k, z, F, A, r⟩ := S
  exact ⟨a.wr W, b.wr W, v1.other W (Or.inl n1), v2.other W (Or.inl n1), v3.other W (Or.inl n1), v4.other W (Or.inl n1), k, z, F, A.other W n2, r⟩
theorem Bdr.keep {Z : State} {h h' : Heap} {b t : Addr} {ws : List Addr} {cd : Int32} {cs : List Int32} {m : Nat} (S : Bdr Z h b t cd cs m) (K : Keep h h' ws) (n1 : b ∉ ws) (n2 : t ∉ ws) : Bdr Z h' b t cd cs m := by
  obtain ⟨a, b, v1, v2, v3, v4, k, z, F, A, r⟩ := S
  exact ⟨a.keep K, b.keep K, v1.keep K n1, v2.keep K n1, v3.keep K n1, v4.keep K n1, k, z, F, A.keep K n2, r⟩
def Bdx (Z : State) (h : Heap) (b t : Addr) (cs : List Int32) : Prop := ∃ cd : Int32, (cd = 0 ∨ cd = 1) ∧ Bdr Z h b t cd cs 0
theorem Bdx.ext {Z : State} {h h' : Heap} {b t : Addr} {cs : List Int32} (S : Bdx Z h b t cs) (E : Ext h h') : Bdx Z h' b t cs := by
  obtain ⟨cd, q, B⟩ := S
  exact ⟨cd, q, B.ext E⟩
theorem Bdx.wr {Z : State} {h h' : Heap} {b t a : Addr} {sl : Nat} {v : Value} {cs : List Int32} (S : Bdx Z h b t cs) (W : Wr h h' a sl v) (n1 : b ≠ a) (n2 : t ≠ a) : Bdx Z h' b t cs := by
  obtain ⟨cd, q, B⟩ := S
  exact ⟨cd, q, B.wr W n1 n2⟩
theorem Bdx.keep {Z : State} {h h' : Heap} {b t : Addr} {ws : List Addr} {cs : List Int32} (S : Bdx Z h b t cs) (K : Keep h h' ws) (n1 : b ∉ ws) (n2 : t ∉ ws) : Bdx Z h' b t cs := by
  obtain ⟨cd, q, B⟩ := S
  exact ⟨cd, q, B.keep K n1 n2⟩
theorem Bdx.e1 {Z : State} {h : Heap} {b t : Addr} {cs : List Int32} (S : Bdx Z h b t cs) : Exa Z h b zZ3 := by
  obtain ⟨cd, q, B⟩ := S
  exact B.1
theorem Bdx.e2 {Z : State} {h : Heap} {b t : Addr} {cs : List Int32} (S : Bdx Z h b t cs) : Exa Z h t "[B" := by
  obtain ⟨cd, q, B⟩ := S
  exact B.2.1
/-- the law's own buffer of 18 chars: the first ones are es -/
def Buf (Z : State) (h : Heap) (a : Addr) (es : List Int32) : Prop := es.length ≤ 18 ∧ ∃ (k : ClassId) (F : Int32 → Int32), Arv Z h a k .char (18 : Int32) (own_rg (18 : Int32).toNatClampNeg (fun x => .int (F x))) (.int (0 : Int32)) ∧ ∀ i : Nat, i < es.length → F (Int32.ofNat i) = es.getD i 0
theorem Buf.ext {Z : State} {h h' : Heap} {a : Addr} {es : List Int32} (S : Buf Z h a es) (E : Ext h h') : Buf Z h' a es := by
  obtain ⟨q, k, F, A, r⟩ := S
  exact ⟨q, k, F, A.ext E, r⟩
theorem Buf.wr {Z : State} {h h' : Heap} {a b : Addr} {sl : Nat} {v : Value} {es : List Int32} (S : Buf Z h a es) (W : Wr h h' b sl v) (n : a ≠ b) : Buf Z h' a es := by
  obtain ⟨q, k, F, A, r⟩ := S
  exact ⟨q, k, F, A.other W n, r⟩
theorem Buf.keep {Z : State} {h h' : Heap} {a : Addr} {ws : List Addr} {es : List Int32} (S : Buf Z h a es) (K : Keep h h' ws) (n : a ∉ ws) : Buf Z h' a es := by
  obtain ⟨q, k, F, A, r⟩ := S
  exact ⟨q, k, F, A.keep K n, r⟩
theorem Buf.lt {Z : State} {h : Heap} {a : Addr} {es : List Int32} (S : Buf Z h a es) : a < h.size := by
  obtain ⟨q, k, F, A, r⟩ := S
  exact A.lt
theorem own_fupd {F : Int32 → Int32} {es : List Int32} {c : Int32} (hl : es.length < 100000) (q : ∀ i : Nat, i < es.length → F (Int32.ofNat i) = es.getD i 0) : ∀ i : Nat, i < (es ++ [c]).length → own_up F (Int32.ofNat es.length) c (Int32.ofNat i) = (es ++ [c]).getD i 0 := fun i hi => by
  simp only [List.length_append, List.length_cons, List.length_nil] at hi
  rcases Nat.lt_or_ge i es.length with l | l
  · rw [own_getapp l, own_up_ne _ _ (own_onj (by omega) (by omega) (by omega))]
    exact q i l
  · obtain rfl : i = es.length := by omega
    rw [own_getend, own_up_at]
theorem own_ntp {y t t' n : Nat} (hn : y ≠ t) (hl : y < n) (ht : t' = t ∨ n ≤ t') : y ≠ t' := by omega
theorem own_fit {Z : State} {h : Heap} {a : Addr} {k : ClassId} {z : Int32} {vs : List Value} {dv : Value} (A : Arv Z h a k .byte z vs dv) : ∃ cl : Cell, Arr Z h a cl .byte ∧ FitC Z cl ∧ cl.slots.size = z.toNatClampNeg ∧ (∀ {h' : Heap} {a' : Addr}, Arr Z h' a' (cloneOf cl) .byte → Arv Z h' a' k .byte z vs dv) := by
  obtain ⟨cl, A, q1, S, q3, H, G⟩ := A
  exact ⟨cl, A, fitC_of A fun i hi v hv => by rw [H i hi] at hv; cases hv; exact G i hi, S, fun A' => ⟨cloneOf cl, A', q1, S, q3, H, G⟩⟩
theorem own_inws {x t1 n : Nat} {ws : List Nat} (p : x = t1 ∨ n ≤ x) (m : t1 ∈ ws) : x ∈ ws ∨ n ≤ x := p.imp (fun q => by rw [q]; exact m) id
theorem own_or2 {t' t t1 n m : Nat} (q : t' = t ∨ n ≤ t') (p : t = t1 ∨ m ≤ t) (l : m ≤ n) : t' = t1 ∨ m ≤ t' := by omega
theorem own_abv {t' t n m : Nat} (q : t' = t ∨ n ≤ t') (p : m ≤ t) (l : m ≤ n) : m ≤ t' := by omega
theorem own_nneg {x : Int32} (h : 0 ≤ x.toInt) : ¬ x < (0 : Int32) := fun q => by
  rw [Int32.lt_iff_toInt_lt] at q
  have : (0 : Int32).toInt = 0 := rfl
  omega
theorem own_cle {nn z : Int32} (h : 0 ≤ nn.toInt) (h' : nn.toInt ≤ z.toInt) : (0 : Int32).toNatClampNeg + nn.toNatClampNeg ≤ z.toNatClampNeg := by
  have a := own_clamp h
  have b := own_clamp (x := z) (by omega)
  rw [show (0 : Int32).toNatClampNeg = 0 from rfl]
  omega
theorem own_zpos {Z : State} {h : Heap} {a : Addr} {k : ClassId} {ty : FieldType} {z : Int32} {vs : List Value} {dv : Value} (A : Arv Z h a k ty z vs dv) : 0 ≤ z.toInt := by
  obtain ⟨cl, -, -, -, M, -⟩ := A
  rw [Int32.lt_iff_toInt_lt] at M
  have : (0 : Int32).toInt = 0 := rfl
  omega
theorem own_ex {n : Int} (h : 0 ≤ n) (h' : n < 1000000) : ∃ r : Int32, r.toInt = n := ⟨Int32.ofNat n.toNat, by rw [own_on (by omega)]; omega⟩
theorem own_sl0 (x : Int32) : (x <<< ((0 : Int32) &&& 31)) = x := Int32.toInt_inj.mp (by
  have q := c_ishl x 0 0 rfl
  have a := (x <<< ((0 : Int32) &&& 31)).toInt_lt
  have b := (x <<< ((0 : Int32) &&& 31)).le_toInt
  have a' := x.toInt_lt
  have b' := x.le_toInt
  omega)
theorem own_sub {x k : Int32} (h1 : x.toInt - k.toInt < 2147483648) (h2 : -2147483648 ≤ x.toInt - k.toInt) : (x - k).toInt = x.toInt - k.toInt := by
  have q := c_isub x k
  have a := (x - k).toInt_lt
  have b := (x - k).le_toInt
  omega
theorem own_le {x y : Int32} (h : ¬ x < y) : y.toInt ≤ x.toInt := by
  rw [Int32.lt_iff_toInt_lt] at h
  omega
theorem own_lt {x y : Int32} (h : x < y) : x.toInt < y.toInt := Int32.lt_iff_toInt_lt.mp h
theorem own_mlt {x y : Int32} (h : x.toInt < y.toInt) : x < y := Int32.lt_iff_toInt_lt.mpr h
theorem own_mle {x y : Int32} (h : y.toInt ≤ x.toInt) : ¬ x < y := fun q => by
  rw [Int32.lt_iff_toInt_lt] at q
  omega
theorem own_ne {x y : Int32} (h : x.toInt ≠ y.toInt) : ¬ x = y := fun q => h (congrArg _ q)
theorem own_selP2 {Z : State} {a0 : Array Value} {y y' : MethodName} {C : String} (ws : (Cond.selects C y' y').before a0 Z = true) (w' : (Cond.instanceMethod y').before a0 Z = true) (wp : (Cond.privateMethod y).before a0 Z = true) (w : (Cond.instanceMethod y).before a0 Z = true) (e : y'.cls = y.cls) (hy : y.cls ≠ "java/lang/invoke/MethodHandle" ∧ y.cls ≠ "java/lang/invoke/VarHandle") : (Cond.selects y.cls y y).before a0 Z = true := by
  obtain ⟨mk, methM, hnamed, hmethM, -, -⟩ := Cond.instanceMethod_spec w'
  obtain ⟨kr, h1, h2⟩ := notFace_of_selects ws mk hnamed
  have hc := findClass_of_methodNamed hnamed
  rw [e] at hc
  exact selects_self_of_private hc h1 h2 (Cond.privateMethod_at wp) w hy
theorem own_i2c_nar (x : Int32) : narrow .char (.int x.toUInt32.toUInt16.toUInt32.toInt32) = .int x.toUInt32.toUInt16.toUInt32.toInt32 := by
  show Value.int (x.toUInt32.toUInt16.toUInt32.toInt32.toUInt32.toUInt16.toUInt32.toInt32) = _
  rw [UInt32.toUInt32_toInt32, UInt16.toUInt16_toUInt32]
def own_isBmpCodePoint (x0 : Int32) : Int32 := (if ((x0.toUInt32 >>> ((16 : Int32) &&& 31).toUInt32).toInt32) = (0 : Int32) then (1 : Int32) else (0 : Int32))
theorem own_isBmpCodePoint_nar (x0 : Int32) : narrow .boolean (.int (own_isBmpCodePoint x0)) = .int (own_isBmpCodePoint x0) := by
  unfold own_isBmpCodePoint
  repeat' split
  all_goals rfl
def own_isValidCodePoint (x0 : Int32) : Int32 := (if ((x0.toUInt32 >>> ((16 : Int32) &&& 31).toUInt32).toInt32) < (17 : Int32) then (1 : Int32) else (0 : Int32))
theorem own_isValidCodePoint_nar (x0 : Int32) : narrow .boolean (.int (own_isValidCodePoint x0)) = .int (own_isValidCodePoint x0) := by
  unfold own_isValidCodePoint
  repeat' split
  all_goals rfl
def own_isHighSurrogate (x0 : Int32) : Int32 := (if x0 < (55296 : Int32) then (0 : Int32) else (if x0 < (56320 : Int32) then (1 : Int32) else (0 : Int32)))
theorem own_isHighSurrogate_nar (x0 : Int32) : narrow .boolean (.int (own_isHighSurrogate x0)) = .int (own_isHighSurrogate x0) := by
  unfold own_isHighSurrogate
  repeat' split
  all_goals rfl
def own_isLowSurrogate (x0 : Int32) : Int32 := (if x0 < (56320 : Int32) then (0 : Int32) else (if x0 < (57344 : Int32) then (1 : Int32) else (0 : Int32)))
theorem own_isLowSurrogate_nar (x0 : Int32) : narrow .boolean (.int (own_isLowSurrogate x0)) = .int (own_isLowSurrogate x0) := by
  unfold own_isLowSurrogate
  repeat' split
  all_goals rfl
def own_isSurrogate (x0 : Int32) : Int32 := (if x0 < (55296 : Int32) then (0 : Int32) else (if x0 < (57344 : Int32) then (1 : Int32) else (0 : Int32)))
theorem own_isSurrogate_nar (x0 : Int32) : narrow .boolean (.int (own_isSurrogate x0)) = .int (own_isSurrogate x0) := by
  unfold own_isSurrogate
  repeat' split
  all_goals rfl
def own_toCodePoint (x0 : Int32) (x1 : Int32) : Int32 := (((x0 <<< ((10 : Int32) &&& 31)) + x1) + (-56613888 : Int32))
def own_lowSurrogate (x0 : Int32) : Int32 := ((x0 &&& (1023 : Int32)) + (56320 : Int32)).toUInt32.toUInt16.toUInt32.toInt32
theorem own_lowSurrogate_nar (x0 : Int32) : narrow .char (.int (own_lowSurrogate x0)) = .int (own_lowSurrogate x0) := by
  unfold own_lowSurrogate
  exact own_i2c_nar _
def own_highSurrogate (x0 : Int32) : Int32 := (((x0.toUInt32 >>> ((10 : Int32) &&& 31).toUInt32).toInt32) + (55232 : Int32)).toUInt32.toUInt16.toUInt32.toInt32
theorem own_highSurrogate_nar (x0 : Int32) : narrow .char (.int (own_highSurrogate x0)) = .int (own_highSurrogate x0) := by
  unfold own_highSurrogate
  exact own_i2c_nar _
def own_charCount (x0 : Int32) : Int32 := (if x0 < (65536 : Int32) then (1 : Int32) else (2 : Int32))
def own_canEncodeC (x0 : Int32) : Int32 := (if (255 : Int32) < x0 then (0 : Int32) else (1 : Int32))
theorem own_canEncodeC_nar (x0 : Int32) : narrow .boolean (.int (own_canEncodeC x0)) = .int (own_canEncodeC x0) := by
  unfold own_canEncodeC
  repeat' split
  all_goals rfl
def own_canEncodeI (x0 : Int32) : Int32 := (if x0 < (0 : Int32) then (0 : Int32) else (if (255 : Int32) < x0 then (0 : Int32) else (1 : Int32)))
theorem own_canEncodeI_nar (x0 : Int32) : narrow .boolean (.int (own_canEncodeI x0)) = .int (own_canEncodeI x0) := by
  unfold own_canEncodeI
  repeat' split
  all_goals rfl
def own_max (x0 : Int32) (x1 : Int32) : Int32 := (if x0 < x1 then x1 else x0)
def own_min (x0 : Int32) (x1 : Int32) : Int32 := (if x1 < x0 then x1 else x0)
def own_hxd (x : Int32) : Int32 := if x < (10 : Int32) then x + (48 : Int32) else x + (55 : Int32)
def STs (Z : State) (zc : Int32) (fm : Value) (u8 hxa : Addr) (kh : ClassId) : Prop := Sta Z Z.heap zZ0 zZ17 "Z" (.int zc) ∧ (¬ zc = 0) ∧ Sta Z Z.heap zZ1 "$assertionsDisabled" "Z" (.int (1 : Int32)) ∧ Sta Z Z.heap zZ1 "HI_BYTE_SHIFT" "I" (.int (0 : Int32)) ∧ Sta Z Z.heap zZ1 "LO_BYTE_SHIFT" "I" (.int (8 : Int32)) ∧ Sta Z Z.heap zZ9 "SIOOBE_FORMATTER" zZ64 fm ∧ fm.isRef = true ∧ Sta Z Z.heap zZ65 "UTF_8" zZ66 (.ref u8) ∧ Sta Z Z.heap "sun/nio/cs/UTF_8" "INSTANCE" "Lsun/nio/cs/UTF_8;" (.ref u8) ∧ Sta Z Z.heap zZ6 "HEX" "[C" (.ref hxa) ∧ Arv Z Z.heap hxa kh .char (16 : Int32) (own_rg (16 : Int32).toNatClampNeg (fun x => .int (own_hxd x))) (.int (0 : Int32))
def own_ce (x : Int32) : Int32 := if x < (0 : Int32) then (0 : Int32) else if (255 : Int32) < x then (0 : Int32) else (1 : Int32)
theorem own_ce_nar (x : Int32) : narrow .boolean (.int (own_ce x)) = .int (own_ce x) := by
  unfold own_ce
  split
  · rfl
  · split <;> rfl
def own_ix4 (c0 c1 c2 c3 : Int32) (x1 : Int32) : Int32 := if c0 = x1.toInt8.toInt32 then (0 : Int32) else if c1 = x1.toInt8.toInt32 then (1 : Int32) else if c2 = x1.toInt8.toInt32 then (2 : Int32) else if c3 = x1.toInt8.toInt32 then (3 : Int32) else (-1 : Int32)
def own_li4 (c0 c1 c2 c3 : Int32) (x1 : Int32) : Int32 := if own_ce x1 = (0 : Int32) then (-1 : Int32) else own_ix4 c0 c1 c2 c3 x1
def own_lc (F : Int32 → Int32) (i : Int32) : Int32 := ((F i) &&& (255 : Int32)).toUInt32.toUInt16.toUInt32.toInt32
theorem own_lcR {F : Int32 → Int32} {cs : List Int32} {i : Int32} (R : RpL F cs) (h : 0 ≤ i.toInt) (h' : i.toInt < cs.length) : own_lc F i = cs.getD i.toNatClampNeg 0 := by
  have a := own_clamp h
  obtain ⟨q, r, s⟩ := R i.toNatClampNeg (by omega)
  rw [own_ofc h] at q
  unfold own_lc
  rw [q, own_m255 r s, own_i2cid r (by omega)]
theorem own_gcR {F : Int32 → Int32} {cs : List Int32} {i : Int32} (R : RpU F cs) (h : 0 ≤ i.toInt) (h' : i.toInt < cs.length) : own_gc F i = cs.getD i.toNatClampNeg 0 := by
  have a := own_clamp h
  have q := R i.toNatClampNeg (by omega)
  rw [own_ofc h] at q
  exact q
def own_cp2 (a b : Int32) : Int32 := if own_isHighSurrogate a = (0 : Int32) then a else if own_isLowSurrogate b = (0 : Int32) then a else own_toCodePoint a b
theorem own_lat {F : Int32 → Int32} {cs : List Int32} (R : RpL F cs) (i : Nat) (h : i < cs.length) : (F (Int32.ofNat i) &&& (255 : Int32)) = cs.getD i 0 := by
  obtain ⟨q, r, s⟩ := R i h
  rw [q, own_m255 r s]
theorem own_hs0 {c : Int32} (h : c.toInt ≤ 255) : own_isHighSurrogate c = (0 : Int32) := by
  unfold own_isHighSurrogate
  have : c < (55296 : Int32) := own_mlt (by have : (55296 : Int32).toInt = 55296 := rfl; omega)
  simp [this]
def own_cpf (F : Int32 → Int32) (i n : Int32) : Int32 := if own_isHighSurrogate (own_gc F i) = (0 : Int32) then own_gc F i else if (i + (1 : Int32)) < n then (if own_isLowSurrogate (own_gc F (i + (1 : Int32))) = (0 : Int32) then own_gc F i else own_toCodePoint (own_gc F i) (own_gc F (i + (1 : Int32)))) else own_gc F i
def own_cpa (cs : List Int32) (i : Nat) : Int32 := if i + 1 < cs.length then own_cp2 (cs.getD i 0) (cs.getD (i + 1) 0) else cs.getD i 0
theorem own_cpaU {F : Int32 → Int32} {cs : List Int32} {i n : Int32} (R : RpU F cs) (h1 : 0 ≤ i.toInt) (h2 : i.toInt < cs.length) (hl : cs.length ≤ 1000) (hn : n.toInt = cs.length) : own_cpf F i n = own_cpa cs i.toNatClampNeg := by
  have a := own_clamp h1
  have e1 : (1 : Int32).toInt = 1 := rfl
  have s := own_add (x := i) (k := 1) (by omega) (by omega)
  have b := own_clamp (x := i + 1) (by omega)
  have g := own_gcR R h1 h2
  unfold own_cpf own_cpa own_cp2
  rw [g]
  by_cases c : i + (1 : Int32) < n
  · have c' := own_lt c
    have g' := own_gcR (i := i + 1) R (by omega) (by omega)
    rw [if_pos c, g', if_pos (show i.toNatClampNeg + 1 < cs.length by omega), show (i + (1 : Int32)).toNatClampNeg = i.toNatClampNeg + 1 by omega]
  · have c' := own_le c
    rw [if_neg c, if_neg (show ¬ i.toNatClampNeg + 1 < cs.length by omega), ite_self]
theorem own_cpaL {F : Int32 → Int32} {cs : List Int32} {i : Int32} (R : RpL F cs) (h1 : 0 ≤ i.toInt) (h2 : i.toInt < cs.length) : (F i &&& (255 : Int32)) = own_cpa cs i.toNatClampNeg := by
  have a := own_clamp h1
  obtain ⟨q, r, s⟩ := R i.toNatClampNeg (by omega)
  rw [own_ofc h1] at q
  unfold own_cpa own_cp2
  rw [if_pos (own_hs0 s), ite_self, q, own_m255 r s]
def own_iu (F : Int32 → Int32) (x : Int32) : Int32 := if own_gc F (0 : Int32) = x then (0 : Int32) else (-1 : Int32)
def own_ixU (F : Int32 → Int32) (x : Int32) : Int32 := if x < (65536 : Int32) then own_iu F x else (-1 : Int32)
def own_ixL (F : Int32 → Int32) (x : Int32) : Int32 := if own_ce x = (0 : Int32) then (-1 : Int32) else if (F (0 : Int32)) = x.toInt8.toInt32 then (0 : Int32) else (-1 : Int32)
def own_kix : List Int32 → Int32 → Int32
  | [], _ => (-1 : Int32)
  | k :: _, x => if x = k then (0 : Int32) else (-1 : Int32)
theorem own_ceB {x : Int32} (h : ¬ own_ce x = (0 : Int32)) : 0 ≤ x.toInt ∧ x.toInt ≤ 255 := by
  unfold own_ce at h
  have e0 : (0 : Int32).toInt = 0 := rfl
  have e1 : (255 : Int32).toInt = 255 := rfl
  split at h
  · exact absurd rfl h
  · rename_i a
    split at h
    · exact absurd rfl h
    · rename_i b
      have := own_le a
      have := own_le b
      omega
theorem own_ceT {x : Int32} (h : 0 ≤ x.toInt) (h' : x.toInt ≤ 255) : ¬ own_ce x = (0 : Int32) := by
  unfold own_ce
  rw [if_neg (own_nneg h), if_neg (own_mle (by have : (255 : Int32).toInt = 255 := rfl; omega))]
  decide
theorem own_ixLR {F : Int32 → Int32} {k x : Int32} (R : RpL F [k]) : own_ixL F x = own_kix [k] x := by
  obtain ⟨q, r, s⟩ := R 0 (by simp)
  have q : F (0 : Int32) = k.toInt8.toInt32 := q
  have r : 0 ≤ k.toInt := r
  have s : k.toInt ≤ 255 := s
  show own_ixL F x = if x = k then (0 : Int32) else (-1 : Int32)
  unfold own_ixL
  by_cases c : own_ce x = (0 : Int32)
  · rw [if_pos c, if_neg (fun e => own_ceT r s (by rw [← e]; exact c))]
  · rw [if_neg c, q]
    have b := own_ceB c
    by_cases e : x = k
    · rw [if_pos e, if_pos (by rw [e])]
    · rw [if_neg e, if_neg (fun e' => e (own_b255 b.1 b.2 r s e'.symm))]
theorem own_ixUR {F : Int32 → Int32} {k x : Int32} (R : RpU F [k]) : own_ixU F x = own_kix [k] x := by
  have q : own_gc F (0 : Int32) = k := R 0 (by simp)
  have b := own_gcB F (0 : Int32)
  rw [q] at b
  show own_ixU F x = if x = k then (0 : Int32) else (-1 : Int32)
  unfold own_ixU own_iu
  rw [q]
  by_cases c : x < (65536 : Int32)
  · rw [if_pos c]
    by_cases e : x = k
    · rw [if_pos e, if_pos e.symm]
    · rw [if_neg e, if_neg (fun e' => e e'.symm)]
  · rw [if_neg c, if_neg (fun e => c (own_mlt (by rw [e]; have : (65536 : Int32).toInt = 65536 := rfl; omega)))]
def own_ic1 (F : Int32 → Int32) (x : Int32) : Int32 := if (F (0 : Int32)) = x.toInt8.toInt32 then (0 : Int32) else (-1 : Int32)
theorem own_k01 {ks : List Int32} (h : ks.length ≤ 1) : ks = [] ∨ ∃ k, ks = [k] := by
  match ks, h with
  | [], _ => exact Or.inl rfl
  | [k], _ => exact Or.inr ⟨k, rfl⟩
def own_ld (x0 : Int32) : Int32 := (if x0 < (97 : Int32) then (if x0 < (65 : Int32) then (if x0 < (48 : Int32) then (0 : Int32) else (if (57 : Int32) < x0 then (0 : Int32) else (1 : Int32))) else (if (90 : Int32) < x0 then (if x0 < (48 : Int32) then (0 : Int32) else (if (57 : Int32) < x0 then (0 : Int32) else (1 : Int32))) else (1 : Int32))) else (if (122 : Int32) < x0 then (if x0 < (65 : Int32) then (if x0 < (48 : Int32) then (0 : Int32) else (if (57 : Int32) < x0 then (0 : Int32) else (1 : Int32))) else (if (90 : Int32) < x0 then (if x0 < (48 : Int32) then (0 : Int32) else (if (57 : Int32) < x0 then (0 : Int32) else (1 : Int32))) else (1 : Int32))) else (1 : Int32)))
def own_isk (ks : List Int32) (x : Int32) : Int32 := if own_ld x = (0 : Int32) then (if own_li4 (45 : Int32) (46 : Int32) (95 : Int32) (126 : Int32) x < (0 : Int32) then (if own_kix ks x < (0 : Int32) then (0 : Int32) else (1 : Int32)) else (1 : Int32)) else (1 : Int32)
theorem own_L1 {c0 : Int32} (u0 : 0 ≤ c0.toInt) (s0 : ¬ (255 : Int32) < c0) : RpL (own_up own_z (0 : Int32) c0.toInt8.toInt32.toInt8.toInt32) [c0] := by
  have q := RpL.app (RpL.nil own_z) (c := c0) (by decide) u0 (own_le s0)
  rw [show Int32.ofNat ([] : List Int32).length = (0 : Int32) from rfl] at q
  exact q
theorem own_L2 {c0 c1 : Int32} (u0 : 0 ≤ c0.toInt) (s0 : ¬ (255 : Int32) < c0) (u1 : 0 ≤ c1.toInt) (s1 : ¬ (255 : Int32) < c1) : RpL (own_up (own_up own_z (0 : Int32) c0.toInt8.toInt32.toInt8.toInt32) (1 : Int32) c1.toInt8.toInt32.toInt8.toInt32) [c0, c1] := by
  have q := RpL.app (own_L1 u0 s0) (c := c1) (by simp) u1 (own_le s1)
  rw [show Int32.ofNat [c0].length = (1 : Int32) from rfl] at q
  exact q
theorem own_U1 {c0 : Int32} (u0 : 0 ≤ c0.toInt) (w0 : c0.toInt ≤ 65535) : RpU (own_pc own_z (0 : Int32) c0) [c0] := by
  have q := RpU.app (RpU.nil own_z) (c := c0) (by decide) u0 w0
  rw [show Int32.ofNat ([] : List Int32).length = (0 : Int32) from rfl] at q
  exact q
theorem own_U2 {c0 c1 : Int32} (u0 : 0 ≤ c0.toInt) (w0 : c0.toInt ≤ 65535) (u1 : 0 ≤ c1.toInt) (w1 : c1.toInt ≤ 65535) : RpU (own_pc (own_pc own_z (0 : Int32) c0) (1 : Int32) c1) [c0, c1] := by
  have q := RpU.app (own_U1 u0 w0) (c := c1) (by simp) u1 w1
  rw [show Int32.ofNat [c0].length = (1 : Int32) from rfl] at q
  exact q
theorem own_b_nar (x : Int32) : narrow .byte (.int x.toInt8.toInt32) = .int x.toInt8.toInt32 := congrArg Value.int (own_bb x)
theorem own_hsB (x : Int32) : 0 ≤ (own_highSurrogate x).toInt ∧ (own_highSurrogate x).toInt ≤ 65535 := by
  unfold own_highSurrogate
  have := c_i2c (((x.toUInt32 >>> ((10 : Int32) &&& 31).toUInt32).toInt32) + (55232 : Int32))
  omega
theorem own_lsB (x : Int32) : 0 ≤ (own_lowSurrogate x).toInt ∧ (own_lowSurrogate x).toInt ≤ 65535 := by
  unfold own_lowSurrogate
  have := c_i2c ((x &&& (1023 : Int32)) + (56320 : Int32))
  omega
theorem own_nc {c : Int32} (h1 : 0 ≤ c.toInt) (h2 : c.toInt ≤ 65535) : nar .char c = c := own_i2cid h1 h2
theorem own_minP (a b : Int32) : (own_min a b).toInt ≤ a.toInt ∧ (own_min a b).toInt ≤ b.toInt ∧ (own_min a b = a ∨ own_min a b = b) := by
  unfold own_min
  split
  · rename_i q
    have := own_lt q
    exact ⟨by omega, Int.le_refl _, Or.inr rfl⟩
  · rename_i q
    have := own_le q
    exact ⟨Int.le_refl _, by omega, Or.inl rfl⟩
theorem own_minE {a b : Int32} (h : b.toInt ≤ a.toInt) : own_min a b = b := by
  obtain ⟨p, q, r⟩ := own_minP a b
  rcases r with r | r
  · exact Int32.toInt_inj.mp (by rw [r] at q ⊢; omega)
  · exact r
theorem own_minL {a b : Int32} (h : a.toInt ≤ b.toInt) : own_min a b = a := by
  obtain ⟨p, q, r⟩ := own_minP a b
  rcases r with r | r
  · exact r
  · exact Int32.toInt_inj.mp (by rw [r] at p ⊢; omega)
def own_u8 (c : Int32) : List Int32 := if c < (128 : Int32) then [c] else if c < (2048 : Int32) then [((192 : Int32) ||| (c >>> ((6 : Int32) &&& 31))).toInt8.toInt32, ((128 : Int32) ||| (c &&& (63 : Int32))).toInt8.toInt32] else if own_isSurrogate c = (0 : Int32) then [((224 : Int32) ||| (c >>> ((12 : Int32) &&& 31))).toInt8.toInt32, ((128 : Int32) ||| ((c >>> ((6 : Int32) &&& 31)) &&& (63 : Int32))).toInt8.toInt32, ((128 : Int32) ||| (c &&& (63 : Int32))).toInt8.toInt32] else [(63 : Int32)]
def own_u8s (c : Int32) : List Int32 := [((240 : Int32) ||| (c >>> ((18 : Int32) &&& 31))).toInt8.toInt32, ((128 : Int32) ||| ((c >>> ((12 : Int32) &&& 31)) &&& (63 : Int32))).toInt8.toInt32, ((128 : Int32) ||| ((c >>> ((6 : Int32) &&& 31)) &&& (63 : Int32))).toInt8.toInt32, ((128 : Int32) ||| (c &&& (63 : Int32))).toInt8.toInt32]
/-- the array's bytes -/
def Byo (z : Int32) (G : Int32 → Int32) (bs : List Int32) : Prop := z.toInt = bs.length ∧ ∀ i : Nat, i < bs.length → G (Int32.ofNat i) = bs.getD i 0
theorem own_byo1 {G : Int32 → Int32} {b0 : Int32} (h0 : G 0 = b0) : Byo 1 G [b0] := ⟨rfl, fun i hi => by
  match i, hi with
  | 0, _ => exact h0⟩
theorem own_byo2 {G : Int32 → Int32} {b0 b1 : Int32} (h0 : G 0 = b0) (h1 : G 1 = b1) : Byo 2 G [b0, b1] := ⟨rfl, fun i hi => by
  match i, hi with
  | 0, _ => exact h0
  | 1, _ => exact h1⟩
theorem own_byo3 {G : Int32 → Int32} {b0 b1 b2 : Int32} (h0 : G 0 = b0) (h1 : G 1 = b1) (h2 : G 2 = b2) : Byo 3 G [b0, b1, b2] := ⟨rfl, fun i hi => by
  match i, hi with
  | 0, _ => exact h0
  | 1, _ => exact h1
  | 2, _ => exact h2⟩
theorem own_byo4 {G : Int32 → Int32} {b0 b1 b2 b3 : Int32} (h0 : G 0 = b0) (h1 : G 1 = b1) (h2 : G 2 = b2) (h3 : G 3 = b3) : Byo 4 G [b0, b1, b2, b3] := ⟨rfl, fun i hi => by
  match i, hi with
  | 0, _ => exact h0
  | 1, _ => exact h1
  | 2, _ => exact h2
  | 3, _ => exact h3⟩
theorem own_cutE {F : Int32 → Int32} {z m x : Int32} (h : m.toInt ≤ z.toInt) (h' : x.toInt < m.toInt) : own_cut F (own_min z m) x = F x := by
  rw [own_minE h]
  exact own_cut_at h'
theorem own_hsR {c : Int32} (h : ¬ own_isHighSurrogate c = (0 : Int32)) : 55296 ≤ c.toInt ∧ c.toInt ≤ 56319 := by
  unfold own_isHighSurrogate at h
  have e0 : (55296 : Int32).toInt = 55296 := rfl
  have e1 : (56320 : Int32).toInt = 56320 := rfl
  split at h
  · exact absurd rfl h
  · rename_i a
    split at h
    · rename_i b
      have := own_le a
      have := own_lt b
      omega
    · exact absurd rfl h
theorem own_lsR {c : Int32} (h : ¬ own_isLowSurrogate c = (0 : Int32)) : 56320 ≤ c.toInt ∧ c.toInt ≤ 57343 := by
  unfold own_isLowSurrogate at h
  have e0 : (56320 : Int32).toInt = 56320 := rfl
  have e1 : (57344 : Int32).toInt = 57344 := rfl
  split at h
  · exact absurd rfl h
  · rename_i a
    split at h
    · rename_i b
      have := own_le a
      have := own_lt b
      omega
    · exact absurd rfl h
theorem own_sgT {c : Int32} (h : 55296 ≤ c.toInt) (h' : c.toInt ≤ 57343) : ¬ own_isSurrogate c = (0 : Int32) := by
  unfold own_isSurrogate
  rw [if_neg (own_mle (by have : (55296 : Int32).toInt = 55296 := rfl; omega)), if_pos (own_mlt (by have : (57344 : Int32).toInt = 57344 := rfl; omega))]
  decide
theorem own_tcp {a b : Int32} (ha : 55296 ≤ a.toInt) (ha' : a.toInt ≤ 56319) (hb : 56320 ≤ b.toInt) (hb' : b.toInt ≤ 57343) : (own_toCodePoint a b).toInt = (a.toInt - 55296) * 1024 + (b.toInt - 56320) + 65536 := by
  unfold own_toCodePoint
  have q := c_ishl a 10 10 rfl
  have q1 := (a <<< ((10 : Int32) &&& 31)).toInt_lt
  have q2 := (a <<< ((10 : Int32) &&& 31)).le_toInt
  have e : (-56613888 : Int32).toInt = -56613888 := rfl
  have r := c_iadd (a <<< ((10 : Int32) &&& 31)) b
  have r1 := ((a <<< ((10 : Int32) &&& 31)) + b).toInt_lt
  have r2 := ((a <<< ((10 : Int32) &&& 31)) + b).le_toInt
  have s := c_iadd ((a <<< ((10 : Int32) &&& 31)) + b) (-56613888)
  have s1 := (((a <<< ((10 : Int32) &&& 31)) + b) + (-56613888 : Int32)).toInt_lt
  have s2 := (((a <<< ((10 : Int32) &&& 31)) + b) + (-56613888 : Int32)).le_toInt
  omega
theorem own_u8a {F : Int32 → Int32} {c0 : Int32} (hg : F (0 : Int32) = c0.toInt8.toInt32) (u0 : 0 ≤ c0.toInt) (w0 : c0.toInt ≤ 255) (h : ¬ F (0 : Int32) < (0 : Int32)) : Byo (1 : Int32) F (own_u8 c0) := by
  have q := own_le h
  rw [hg] at q
  have r := c_i2b c0
  have e : (0 : Int32).toInt = 0 := rfl
  have l : c0 < (128 : Int32) := own_mlt (by have : (128 : Int32).toInt = 128 := rfl; omega)
  unfold own_u8
  rw [if_pos l]
  exact own_byo1 (by rw [hg]; exact own_bid (by omega) (by omega))
theorem own_u8b {F : Int32 → Int32} {c0 : Int32} (hg : F (0 : Int32) = c0.toInt8.toInt32) (u0 : 0 ≤ c0.toInt) (w0 : c0.toInt ≤ 255) (h : F (0 : Int32) < (0 : Int32)) : Byo (2 : Int32) (own_up (own_up own_z (0 : Int32) ((192 : Int32) ||| (((F (0 : Int32)) &&& (255 : Int32)) >>> ((6 : Int32) &&& 31))).toInt8.toInt32.toInt8.toInt32) (1 : Int32) ((128 : Int32) ||| ((F (0 : Int32)) &&& (63 : Int32))).toInt8.toInt32.toInt8.toInt32) (own_u8 c0) := by
  have q := own_lt h
  rw [hg] at q
  have r := c_i2b c0
  have e : (0 : Int32).toInt = 0 := rfl
  have e1 : (128 : Int32).toInt = 128 := rfl
  have e2 : (2048 : Int32).toInt = 2048 := rfl
  have m : (c0.toInt8.toInt32 &&& (63 : Int32)) = (c0 &&& (63 : Int32)) := Int32.toInt_inj.mp (by rw [c_mask _ 63 6 (by decide) (by decide), c_mask _ 63 6 (by decide) (by decide)]; omega)
  unfold own_u8
  rw [if_neg (own_mle (by omega)), if_pos (own_mlt (by omega))]
  refine own_byo2 ?_ ?_
  · rw [own_up_ne _ _ (by decide), own_up_at, own_bb, hg, own_m255 u0 w0]
  · rw [own_up_at, own_bb, hg, m]
theorem own_maxR {a b : Int32} (h : a.toInt ≤ b.toInt) : own_max a b = b := by
  unfold own_max
  split
  · rfl
  · rename_i q
    have := own_le q
    exact Int32.toInt_inj.mp (by omega)
theorem own_uoc {z n : Int32} (h : 0 ≤ n.toInt) (h' : 2 * n.toInt ≤ z.toInt) : ¬ (((z >>> ((1 : Int32) &&& 31)) ||| (0 : Int32)) ||| n) < (0 : Int32) ∧ ¬ ((z >>> ((1 : Int32) &&& 31)) - (0 : Int32)) < n := by
  have q := c_ishr z 1 1 rfl
  have e0 : (0 : Int32).toInt = 0 := rfl
  have a := (c_orS (z >>> ((1 : Int32) &&& 31)) (0 : Int32)).1 (by omega) (by omega)
  have b := (c_orS ((z >>> ((1 : Int32) &&& 31)) ||| (0 : Int32)) n).1 a h
  have l := z.toInt_lt
  have s := own_sub (x := z >>> ((1 : Int32) &&& 31)) (k := 0) (by omega) (by omega)
  exact ⟨own_nneg b, own_mle (by omega)⟩
theorem own_tk {cs : List Int32} {i : Nat} (h : i < cs.length) : cs.take i ++ [cs.getD i 0] = cs.take (i + 1) := by
  rw [List.take_succ, List.getD_eq_getElem?_getD, List.getElem?_eq_getElem h]
  rfl
theorem RpU.step {G : Int32 → Int32} {cs : List Int32} {i : Nat} (R : RpU G (cs.take i)) (h : i < cs.length) (hl : cs.length ≤ 1000) (h1 : 0 ≤ (cs.getD i 0).toInt) (h2 : (cs.getD i 0).toInt ≤ 65535) : RpU (own_pc G (Int32.ofNat i) (cs.getD i 0)) (cs.take (i + 1)) := by
  have e : (cs.take i).length = i := by rw [List.length_take]; omega
  have q := R.app (c := cs.getD i 0) (by omega) h1 h2
  rw [e, own_tk h] at q
  exact q
theorem own_suc (i : Nat) : Int32.ofNat i + (1 : Int32) = Int32.ofNat (i + 1) := by
  rw [Int32.ofNat_add]
  rfl
theorem RpL.agree {F G : Int32 → Int32} {cs : List Int32} (R : RpL F cs) (hl : cs.length ≤ 1000) (q : ∀ x : Int32, 0 ≤ x.toInt → x.toInt < cs.length → G x = F x) : RpL G cs := fun i hi => by
  rw [q _ (by rw [own_on (by omega)]; omega) (by rw [own_on (by omega)]; omega)]
  exact R i hi
theorem RpU.agree {F G : Int32 → Int32} {cs : List Int32} (R : RpU F cs) (hl : cs.length ≤ 1000) (q : ∀ x : Int32, 0 ≤ x.toInt → x.toInt < 2 * cs.length → G x = F x) : RpU G cs := fun i hi => by
  have ei := own_on (i := i) (by omega)
  have a := own_sl1 (i := Int32.ofNat i) (by omega) (by omega)
  have e1 : (1 : Int32).toInt = 1 := rfl
  have a1 := own_add (x := (Int32.ofNat i <<< ((1 : Int32) &&& 31))) (k := 1) (by omega) (by omega)
  have r := R i hi
  unfold own_gc at r ⊢
  rw [q _ (by omega) (by omega), q _ (by omega) (by omega)]
  exact r
theorem own_ceC {x : Int32} (h : ¬ own_canEncodeC x = (0 : Int32)) : x.toInt ≤ 255 := by
  unfold own_canEncodeC at h
  have e1 : (255 : Int32).toInt = 255 := rfl
  split at h
  · exact absurd rfl h
  · rename_i b
    have := own_le b
    omega
theorem own_ceS {x : Int32} (h : x.toInt ≤ 255) : ¬ own_canEncodeC x = (0 : Int32) := by
  unfold own_canEncodeC
  rw [if_neg (own_mle (by have : (255 : Int32).toInt = 255 := rfl; omega))]
  decide
theorem own_m15 (x : Int32) : (x &&& (15 : Int32)).toInt = x.toInt % 16 := c_mask _ 15 4 (by decide) (by decide)
theorem own_15 (x : Int32) : ¬ (x &&& (15 : Int32)) < (0 : Int32) ∧ (x &&& (15 : Int32)) < (16 : Int32) := by
  have q := own_m15 x
  exact own_in (by omega) (by have : (16 : Int32).toInt = 16 := rfl; omega)
theorem own_hxB (x : Int32) : 0 ≤ (own_hxd (x &&& (15 : Int32))).toInt ∧ (own_hxd (x &&& (15 : Int32))).toInt ≤ 255 := by
  have q := own_m15 x
  have e1 : (48 : Int32).toInt = 48 := rfl
  have e2 : (55 : Int32).toInt = 55 := rfl
  have a := own_add (x := x &&& (15 : Int32)) (k := 48) (by omega) (by omega)
  have b := own_add (x := x &&& (15 : Int32)) (k := 55) (by omega) (by omega)
  unfold own_hxd
  split <;> omega
def own_pcts : List Int32 → List Int32
  | [] => []
  | b :: r => (37 : Int32) :: own_hxd ((b >>> ((4 : Int32) &&& 31)) &&& (15 : Int32)) :: own_hxd (b &&& (15 : Int32)) :: own_pcts r
theorem own_plen : ∀ l : List Int32, (own_pcts l).length = 3 * l.length
  | [] => rfl
  | b :: r => by
    have := own_plen r
    simp only [own_pcts, List.length_cons]
    omega
theorem own_dr {bs : List Int32} {i : Nat} (h : i < bs.length) : bs.drop i = bs.getD i 0 :: bs.drop (i + 1) := by
  rw [List.drop_eq_getElem_cons h, List.getD_eq_getElem?_getD, List.getElem?_eq_getElem h]
  rfl
theorem own_ptk {cx bs X : List Int32} {i : Nat} (h : i < bs.length) (E : cx ++ own_pcts (bs.drop i) = X) : (((cx ++ [(37 : Int32)]) ++ [own_hxd (((bs.getD i 0) >>> ((4 : Int32) &&& 31)) &&& (15 : Int32))]) ++ [own_hxd ((bs.getD i 0) &&& (15 : Int32))]) ++ own_pcts (bs.drop (i + 1)) = X := by
  rw [own_dr h] at E
  rw [← E]
  simp [own_pcts]
theorem own_pend {cx bs X : List Int32} {i : Nat} (h : bs.length ≤ i) (E : cx ++ own_pcts (bs.drop i) = X) : cx = X := by
  rw [List.drop_of_length_le h] at E
  simpa [own_pcts] using E
theorem own_u8len (c : Int32) : (own_u8 c).length ≤ 3 := by
  unfold own_u8
  split
  · simp
  · split
    · simp
    · split <;> simp
def OSl (sl : Slot) : Prop := sl = .unset ∨ ∃ x, sl = .val (.int x)
theorem own_st6 {a b c d e f sl : Slot} {x : Int32} (h : OSl sl) : storeLocals #[a, b, c, d, e, f, sl] 6 (.int x) = some #[a, b, c, d, e, f, .val (.int x)] := by
  rcases h with rfl | ⟨y, rfl⟩ <;> rfl
theorem own_st4 {a b c d sl : Slot} {x : Int32} (h : OSl sl) : storeLocals #[a, b, c, d, sl] 4 (.int x) = some #[a, b, c, d, .val (.int x)] := by
  rcases h with rfl | ⟨y, rfl⟩ <;> rfl
theorem own_bmpT {x : Int32} (h : ¬ own_isBmpCodePoint x = (0 : Int32)) : 0 ≤ x.toInt ∧ x.toInt ≤ 65535 := by
  unfold own_isBmpCodePoint at h
  have q := c_iushr x 16 16 rfl (by decide)
  have := x.toInt_lt
  have := x.le_toInt
  split at h
  · rename_i e
    rw [e] at q
    have e0 : (0 : Int32).toInt = 0 := rfl
    omega
  · exact absurd rfl h
theorem own_bmpF {x : Int32} (h : own_isBmpCodePoint x = (0 : Int32)) (h0 : 0 ≤ x.toInt) : 65536 ≤ x.toInt := by
  unfold own_isBmpCodePoint at h
  have q := c_iushr x 16 16 rfl (by decide)
  have := x.toInt_lt
  split at h
  · exact absurd h (by decide)
  · rename_i e
    have e0 : (0 : Int32).toInt = 0 := rfl
    have : ¬ (((x.toUInt32 >>> ((16 : Int32) &&& 31).toUInt32).toInt32)).toInt = 0 := fun r => e (Int32.toInt_inj.mp (by rw [r]; rfl))
    omega
theorem own_bmpI {x : Int32} (h0 : 0 ≤ x.toInt) (h : x.toInt ≤ 65535) : ¬ own_isBmpCodePoint x = (0 : Int32) := fun q => by
  have := own_bmpF q h0
  omega
theorem own_valT {x : Int32} (h0 : 0 ≤ x.toInt) (h1 : x.toInt ≤ 1114111) : ¬ own_isValidCodePoint x = (0 : Int32) := by
  unfold own_isValidCodePoint
  have q := c_iushr x 16 16 rfl (by decide)
  have e0 : (17 : Int32).toInt = 17 := rfl
  rw [if_pos (own_mlt (by omega))]
  decide
theorem own_hiE {x : Int32} (h0 : 65536 ≤ x.toInt) (h1 : x.toInt ≤ 1114111) : (own_highSurrogate x).toInt = x.toInt / 1024 + 55232 := by
  unfold own_highSurrogate
  have q := c_iushr x 10 10 rfl (by decide)
  have e0 : (55232 : Int32).toInt = 55232 := rfl
  have a := own_add (x := (x.toUInt32 >>> ((10 : Int32) &&& 31).toUInt32).toInt32) (k := 55232) (by omega) (by omega)
  have b := c_i2c (((x.toUInt32 >>> ((10 : Int32) &&& 31).toUInt32).toInt32) + (55232 : Int32))
  omega
theorem own_loE (x : Int32) : (own_lowSurrogate x).toInt = x.toInt % 1024 + 56320 := by
  unfold own_lowSurrogate
  have q := c_mask x 1023 10 (by decide) (by decide)
  have e0 : (56320 : Int32).toInt = 56320 := rfl
  have a := own_add (x := x &&& (1023 : Int32)) (k := 56320) (by omega) (by omega)
  have b := c_i2c ((x &&& (1023 : Int32)) + (56320 : Int32))
  omega
theorem own_hiT {c : Int32} (h : 55296 ≤ c.toInt) (h' : c.toInt ≤ 56319) : ¬ own_isHighSurrogate c = (0 : Int32) := by
  unfold own_isHighSurrogate
  rw [if_neg (own_mle (by have : (55296 : Int32).toInt = 55296 := rfl; omega)), if_pos (own_mlt (by have : (56320 : Int32).toInt = 56320 := rfl; omega))]
  decide
theorem own_loT {c : Int32} (h : 56320 ≤ c.toInt) (h' : c.toInt ≤ 57343) : ¬ own_isLowSurrogate c = (0 : Int32) := by
  unfold own_isLowSurrogate
  rw [if_neg (own_mle (by have : (56320 : Int32).toInt = 56320 := rfl; omega)), if_pos (own_mlt (by have : (57344 : Int32).toInt = 57344 := rfl; omega))]
  decide
theorem own_hh {x : Int32} (h0 : 65536 ≤ x.toInt) (h1 : x.toInt ≤ 1114111) : ¬ own_isHighSurrogate (own_highSurrogate x) = (0 : Int32) := by
  have := own_hiE h0 h1
  exact own_hiT (by omega) (by omega)
theorem own_hl (x : Int32) : ¬ own_isLowSurrogate (own_lowSurrogate x) = (0 : Int32) := by
  have := own_loE x
  exact own_loT (by omega) (by omega)
theorem own_cpr {x : Int32} (h0 : 65536 ≤ x.toInt) (h1 : x.toInt ≤ 1114111) : own_toCodePoint (own_highSurrogate x) (own_lowSurrogate x) = x := by
  have a := own_hiE h0 h1
  have b := own_loE x
  have c := own_tcp (a := own_highSurrogate x) (b := own_lowSurrogate x) (by omega) (by omega) (by omega) (by omega)
  exact Int32.toInt_inj.mp (by omega)
/-- the chars of a String are chars -/
theorem own_strB {Z : State} {h : Heap} {s t : Addr} {cs : List Int32} (S : Strg Z h s t cs) {i : Nat} (hi : i < cs.length) : 0 ≤ (cs.getD i 0).toInt ∧ (cs.getD i 0).toInt ≤ 65535 := by
  obtain ⟨-, -, -, k, z, F, -, ⟨-, -, R⟩ | ⟨-, -, R⟩⟩ := S
  · have := R i hi
    omega
  · rw [← R i hi]
    exact own_gcB F _
def own_ccn (x : Int32) : Nat := if x < (65536 : Int32) then 1 else 2
theorem own_cpaB {Z : State} {h : Heap} {s t : Addr} {cs : List Int32} (S : Strg Z h s t cs) {i : Nat} (hi : i < cs.length) : 0 ≤ (own_cpa cs i).toInt ∧ (own_cpa cs i).toInt ≤ 1114111 ∧ i + own_ccn (own_cpa cs i) ≤ cs.length := by
  have a := own_strB S hi
  have e0 : (65536 : Int32).toInt = 65536 := rfl
  have lo : ∀ {x : Int32}, x.toInt ≤ 65535 → own_ccn x = 1 := fun {x} q => if_pos (own_mlt (by omega))
  unfold own_cpa
  split
  · rename_i q
    have b := own_strB S q
    unfold own_cp2
    split
    · rw [lo a.2]; omega
    · rename_i c
      split
      · rw [lo a.2]; omega
      · rename_i d
        have c' := own_hsR c
        have d' := own_lsR d
        have f := own_tcp c'.1 c'.2 d'.1 d'.2
        have g : own_ccn (own_toCodePoint (cs.getD i 0) (cs.getD (i + 1) 0)) ≤ 2 := by unfold own_ccn; split <;> omega
        omega
  · rw [lo a.2]; omega
theorem own_ccA {i : Nat} {x : Int32} : Int32.ofNat i + own_charCount x = Int32.ofNat (i + own_ccn x) := by
  unfold own_charCount own_ccn
  split <;> (rw [Int32.ofNat_add]; rfl)
theorem own_cc1 {x : Int32} (h : ¬ own_isBmpCodePoint x = (0 : Int32)) : own_ccn x = 1 := if_pos (own_mlt (by have := own_bmpT h; have : (65536 : Int32).toInt = 65536 := rfl; omega))
theorem own_cc2 {x : Int32} (h : own_isBmpCodePoint x = (0 : Int32)) (h0 : 0 ≤ x.toInt) : own_ccn x = 2 := if_neg (own_mle (by have := own_bmpF h h0; have : (65536 : Int32).toInt = 65536 := rfl; omega))
theorem own_ldR {x : Int32} (h : ¬ own_ld x = (0 : Int32)) : 48 ≤ x.toInt ∧ x.toInt ≤ 122 := by
  have e0 : (48 : Int32).toInt = 48 := rfl
  have e1 : (57 : Int32).toInt = 57 := rfl
  have e2 : (65 : Int32).toInt = 65 := rfl
  have e3 : (90 : Int32).toInt = 90 := rfl
  have e4 : (97 : Int32).toInt = 97 := rfl
  have e5 : (122 : Int32).toInt = 122 := rfl
  unfold own_ld at h
  simp only [Int32.lt_iff_toInt_lt] at h
  refine ⟨?_, ?_⟩
  · refine Classical.byContradiction fun q => h ?_
    rw [if_pos (by omega), if_pos (by omega), if_pos (by omega)]
  · refine Classical.byContradiction fun q => h ?_
    rw [if_neg (by omega), if_pos (by omega), if_neg (by omega), if_pos (by omega), if_neg (by omega), if_pos (by omega)]
theorem own_kbm {Z : State} {h : Heap} {s t : Addr} {ks : List Int32} (S : Strg Z h s t ks) {x : Int32} (q : ¬ own_isk ks x = (0 : Int32)) : 0 ≤ x.toInt ∧ x.toInt ≤ 65535 := by
  unfold own_isk at q
  split at q
  · split at q
    · rename_i r
      split at q
      · exact absurd rfl q
      · rename_i r
        cases ks with
        | nil => exact absurd (by decide : ((-1 : Int32) < 0)) r
        | cons k l =>
          simp only [own_kix] at r
          by_cases e : x = k
          · rw [e]
            exact own_strB S (i := 0) (by simp)
          · rw [if_neg e] at r
            exact absurd (by decide : ((-1 : Int32) < 0)) r
    · rename_i r
      unfold own_li4 at r
      split at r
      · exact absurd (by decide : ((-1 : Int32) < 0)) r
      · rename_i c
        have := own_ceB c
        omega
  · rename_i r
    have := own_ldR r
    omega
def own_enc (ks : List Int32) (x : Int32) : List Int32 := if own_isk ks x = (0 : Int32) then (if own_isBmpCodePoint x = (0 : Int32) then own_pcts (own_u8s (own_toCodePoint (own_highSurrogate x) (own_lowSurrogate x))) else own_pcts (own_u8 x)) else [x]
def own_outF (ks cs : List Int32) : Nat → Nat → List Int32
  | 0, _ => []
  | fu + 1, i => if i < cs.length then own_enc ks (own_cpa cs i) ++ own_outF ks cs fu (i + own_ccn (own_cpa cs i)) else []
theorem own_oX {ks cs bs R : List Int32} {fu i : Nat} {x : Int32} (hi : i < cs.length) (hx : x = own_cpa cs i) (E : bs ++ own_outF ks cs (fu + 1) i = R) : (bs ++ own_enc ks x) ++ own_outF ks cs fu (i + own_ccn x) = R := by
  subst hx
  rw [← E, own_outF, if_pos hi, List.append_assoc]
theorem own_oK {ks cs bs R : List Int32} {fu i : Nat} {x : Int32} (hi : i < cs.length) (hx : x = own_cpa cs i) (c : ¬ own_isk ks x = (0 : Int32)) (E : bs ++ own_outF ks cs (fu + 1) i = R) : (bs ++ [x]) ++ own_outF ks cs fu (i + own_ccn x) = R := by
  have q := own_oX hi hx E
  rw [own_enc, if_neg c] at q
  exact q
theorem own_oB {ks cs bs R : List Int32} {fu i : Nat} {x : Int32} (hi : i < cs.length) (hx : x = own_cpa cs i) (c : own_isk ks x = (0 : Int32)) (d : ¬ own_isBmpCodePoint x = (0 : Int32)) (E : bs ++ own_outF ks cs (fu + 1) i = R) : (bs ++ own_pcts (own_u8 x)) ++ own_outF ks cs fu (i + own_ccn x) = R := by
  have q := own_oX hi hx E
  rw [own_enc, if_pos c, if_neg d] at q
  exact q
theorem own_oS {ks cs bs R : List Int32} {fu i : Nat} {x : Int32} (hi : i < cs.length) (hx : x = own_cpa cs i) (c : own_isk ks x = (0 : Int32)) (d : own_isBmpCodePoint x = (0 : Int32)) (E : bs ++ own_outF ks cs (fu + 1) i = R) : (bs ++ own_pcts (own_u8s (own_toCodePoint (own_highSurrogate x) (own_lowSurrogate x)))) ++ own_outF ks cs fu (i + own_ccn x) = R := by
  have q := own_oX hi hx E
  rw [own_enc, if_pos c, if_pos d] at q
  exact q
theorem own_oE {ks cs bs R : List Int32} {fu i : Nat} (hi : ¬ i < cs.length) (E : bs ++ own_outF ks cs (fu + 1) i = R) : bs = R := by
  rw [own_outF, if_neg hi, List.append_nil] at E
  exact E
def own_hexf (x0 : Int32) : Int32 := if x0 < (10 : Int32) then ((48 : Int32) + x0).toUInt32.toUInt16.toUInt32.toInt32 else (((65 : Int32) + x0) - (10 : Int32)).toUInt32.toUInt16.toUInt32.toInt32
theorem own_hexE (x : Int32) : own_hexf (x &&& (15 : Int32)) = own_hxd (x &&& (15 : Int32)) := by
  have q := own_m15 x
  have e1 : (48 : Int32).toInt = 48 := rfl
  have e2 : (55 : Int32).toInt = 55 := rfl
  have e3 : (65 : Int32).toInt = 65 := rfl
  have e4 : (10 : Int32).toInt = 10 := rfl
  have a := own_add (x := (48 : Int32)) (k := x &&& (15 : Int32)) (by omega) (by omega)
  have a' := own_add (x := x &&& (15 : Int32)) (k := 48) (by omega) (by omega)
  have b := own_add (x := (65 : Int32)) (k := x &&& (15 : Int32)) (by omega) (by omega)
  have b' := own_sub (x := (65 : Int32) + (x &&& (15 : Int32))) (k := 10) (by omega) (by omega)
  have c := own_add (x := x &&& (15 : Int32)) (k := 55) (by omega) (by omega)
  unfold own_hexf own_hxd
  split
  · rw [own_i2cid (by omega) (by omega)]
    exact Int32.toInt_inj.mp (by omega)
  · rw [own_i2cid (by omega) (by omega)]
    exact Int32.toInt_inj.mp (by omega)
theorem own_suk (i : Nat) : Int32.ofNat i + (2 : Int32) = Int32.ofNat (i + 2) ∧ Int32.ofNat i + (3 : Int32) = Int32.ofNat (i + 3) := ⟨by rw [Int32.ofNat_add]; rfl, by rw [Int32.ofNat_add]; rfl⟩
theorem own_in18 {i : Nat} (h : i < 18) : ¬ (Int32.ofNat i) < (0 : Int32) ∧ (Int32.ofNat i) < (18 : Int32) := own_in (by rw [own_on (by omega)]; omega) (by rw [own_on (by omega)]; have : (18 : Int32).toInt = 18 := rfl; omega)
theorem own_f3 {F : Int32 → Int32} {es : List Int32} {a b c : Int32} (hl : es.length < 1000) (q : ∀ i : Nat, i < es.length → F (Int32.ofNat i) = es.getD i 0) : ∀ i : Nat, i < (es ++ [a, b, c]).length → own_up (own_up (own_up F (Int32.ofNat es.length) a) (Int32.ofNat (es.length + 1)) b) (Int32.ofNat (es.length + 2)) c (Int32.ofNat i) = (es ++ [a, b, c]).getD i 0 := by
  have q1 := own_fupd (c := a) (by omega) q
  have q2 := own_fupd (es := es ++ [a]) (c := b) (by simp; omega) q1
  have q3 := own_fupd (es := es ++ [a] ++ [b]) (c := c) (by simp; omega) q2
  have e1 : (es ++ [a]).length = es.length + 1 := by simp
  have e2 : (es ++ [a] ++ [b]).length = es.length + 2 := by simp
  have e3 : es ++ [a] ++ [b] ++ [c] = es ++ [a, b, c] := by simp
  rw [e1, e2, e3] at q3
  exact q3
theorem own_safeBuf {Z : State} {EL : List (String × Nat)} {vm : Vm} {h : Heap} {a : Addr} {es : List Int32} (hal : Z.vm.Alike vm) (B : Buf Z h a es) : Safe Z EL vm h a := by
  obtain ⟨-, k, F, A, -⟩ := B
  exact own_safeArv hal A (by decide)
def own_ecp (x : Int32) : List Int32 := if x < (128 : Int32) then [x] else if x < (2048 : Int32) then [(192 : Int32) ||| (x >>> ((6 : Int32) &&& 31)), (128 : Int32) ||| (x &&& (63 : Int32))] else if x < (55296 : Int32) then (if x < (65536 : Int32) then [(224 : Int32) ||| (x >>> ((12 : Int32) &&& 31)), (128 : Int32) ||| ((x >>> ((6 : Int32) &&& 31)) &&& (63 : Int32)), (128 : Int32) ||| (x &&& (63 : Int32))] else [(240 : Int32) ||| (x >>> ((18 : Int32) &&& 31)), (128 : Int32) ||| ((x >>> ((12 : Int32) &&& 31)) &&& (63 : Int32)), (128 : Int32) ||| ((x >>> ((6 : Int32) &&& 31)) &&& (63 : Int32)), (128 : Int32) ||| (x &&& (63 : Int32))]) else if (57343 : Int32) < x then (if x < (65536 : Int32) then [(224 : Int32) ||| (x >>> ((12 : Int32) &&& 31)), (128 : Int32) ||| ((x >>> ((6 : Int32) &&& 31)) &&& (63 : Int32)), (128 : Int32) ||| (x &&& (63 : Int32))] else [(240 : Int32) ||| (x >>> ((18 : Int32) &&& 31)), (128 : Int32) ||| ((x >>> ((12 : Int32) &&& 31)) &&& (63 : Int32)), (128 : Int32) ||| ((x >>> ((6 : Int32) &&& 31)) &&& (63 : Int32)), (128 : Int32) ||| (x &&& (63 : Int32))]) else [(63 : Int32)]
def own_one (ks : List Int32) (x : Int32) : List Int32 := if own_isk ks x = (0 : Int32) then own_pcts (own_ecp x) else [x]
def Rg (x : Int32) : Prop := 0 ≤ x.toInt ∧ x.toInt ≤ 65535
theorem own_i2cR (x : Int32) : Rg x.toUInt32.toUInt16.toUInt32.toInt32 := by
  have := c_i2c x
  exact ⟨by omega, by omega⟩
theorem own_ldA {x : Int32} (h : (97 ≤ x.toInt ∧ x.toInt ≤ 122) ∨ (65 ≤ x.toInt ∧ x.toInt ≤ 90) ∨ (48 ≤ x.toInt ∧ x.toInt ≤ 57)) : own_ld x = (1 : Int32) := by
  have e0 : (48 : Int32).toInt = 48 := rfl
  have e1 : (57 : Int32).toInt = 57 := rfl
  have e2 : (65 : Int32).toInt = 65 := rfl
  have e3 : (90 : Int32).toInt = 90 := rfl
  have e4 : (97 : Int32).toInt = 97 := rfl
  have e5 : (122 : Int32).toInt = 122 := rfl
  unfold own_ld
  simp only [Int32.lt_iff_toInt_lt]
  rcases h with h | h | h
  · rw [if_neg (by omega), if_neg (by omega)]
  · rw [if_pos (by omega), if_neg (by omega), if_neg (by omega)]
  · rw [if_pos (by omega), if_pos (by omega), if_neg (by omega), if_neg (by omega)]
theorem own_ldN {x : Int32} (a : ¬ (97 ≤ x.toInt ∧ x.toInt ≤ 122)) (b : ¬ (65 ≤ x.toInt ∧ x.toInt ≤ 90)) (c : ¬ (48 ≤ x.toInt ∧ x.toInt ≤ 57)) : own_ld x = (0 : Int32) := by
  have e0 : (48 : Int32).toInt = 48 := rfl
  have e1 : (57 : Int32).toInt = 57 := rfl
  have e2 : (65 : Int32).toInt = 65 := rfl
  have e3 : (90 : Int32).toInt = 90 := rfl
  have e4 : (97 : Int32).toInt = 97 := rfl
  have e5 : (122 : Int32).toInt = 122 := rfl
  unfold own_ld
  simp only [Int32.lt_iff_toInt_lt]
  repeat' split
  all_goals first | rfl | (exfalso; omega)
theorem own_iskL {ks : List Int32} {x : Int32} (h : (97 ≤ x.toInt ∧ x.toInt ≤ 122) ∨ (65 ≤ x.toInt ∧ x.toInt ≤ 90) ∨ (48 ≤ x.toInt ∧ x.toInt ≤ 57)) : own_isk ks x = (1 : Int32) := by
  unfold own_isk
  rw [own_ldA h, if_neg (by decide)]
theorem own_iskP {ks : List Int32} {x : Int32} (h : x = (45 : Int32) ∨ x = (46 : Int32) ∨ x = (95 : Int32) ∨ x = (126 : Int32)) : own_isk ks x = (1 : Int32) := by
  unfold own_isk
  rcases h with rfl | rfl | rfl | rfl
  all_goals rw [if_pos (by decide), if_neg (by decide)]
theorem own_iskN {ks : List Int32} {x : Int32} (a : ¬ (97 ≤ x.toInt ∧ x.toInt ≤ 122)) (b : ¬ (65 ≤ x.toInt ∧ x.toInt ≤ 90)) (c : ¬ (48 ≤ x.toInt ∧ x.toInt ≤ 57)) (h1 : ¬ x = (45 : Int32)) (h2 : ¬ x = (46 : Int32)) (h3 : ¬ x = (95 : Int32)) (h4 : ¬ x = (126 : Int32)) : own_isk ks x = if own_kix ks x < (0 : Int32) then (0 : Int32) else (1 : Int32) := by
  unfold own_isk
  rw [own_ldN a b c, if_pos rfl, if_pos]
  unfold own_li4
  by_cases q : own_ce x = (0 : Int32)
  · rw [if_pos q]
    decide
  · rw [if_neg q]
    have r := own_ceB q
    have s : ∀ k : Int32, 0 ≤ k.toInt → k.toInt < 128 → ¬ x = k → ¬ k = x.toInt8.toInt32 := fun k k1 k2 n e => n (own_b255 r.1 r.2 k1 (by omega) (by
      rw [own_bid (x := k) (by omega) (by omega)]
      exact e.symm))
    unfold own_ix4
    rw [if_neg (s 45 (by decide) (by decide) h1), if_neg (s 46 (by decide) (by decide) h2), if_neg (s 95 (by decide) (by decide) h3), if_neg (s 126 (by decide) (by decide) h4)]
    decide
theorem own_kc0 {ks : List Int32} {x k o : Int32} (hks : (o = (0 : Int32) ∧ ks = []) ∨ (o = (1 : Int32) ∧ ks = [k])) (h : o = (0 : Int32)) : (if own_kix ks x < (0 : Int32) then (0 : Int32) else (1 : Int32)) = (0 : Int32) := by
  rcases hks with ⟨-, rfl⟩ | ⟨q, -⟩
  · exact if_pos (by decide : (-1 : Int32) < 0)
  · rw [q] at h
    exact absurd h (by decide)
theorem own_kc1 {ks : List Int32} {x k o : Int32} (hks : (o = (0 : Int32) ∧ ks = []) ∨ (o = (1 : Int32) ∧ ks = [k])) (h : ¬ o = (0 : Int32)) (e : x = k) : (if own_kix ks x < (0 : Int32) then (0 : Int32) else (1 : Int32)) = (1 : Int32) := by
  rcases hks with ⟨q, -⟩ | ⟨-, rfl⟩
  · exact absurd q h
  · have q : own_kix [k] x = (0 : Int32) := if_pos e
    rw [if_neg (by rw [q]; decide)]
theorem own_kc2 {ks : List Int32} {x k o : Int32} (hks : (o = (0 : Int32) ∧ ks = []) ∨ (o = (1 : Int32) ∧ ks = [k])) (h : ¬ o = (0 : Int32)) (e : ¬ x = k) : (if own_kix ks x < (0 : Int32) then (0 : Int32) else (1 : Int32)) = (0 : Int32) := by
  rcases hks with ⟨q, -⟩ | ⟨-, rfl⟩
  · exact absurd q h
  · have q : own_kix [k] x = (-1 : Int32) := if_neg e
    rw [if_pos (by rw [q]; decide)]
/-- the bytes' low halves -/
theorem own_pb (b : Int32) : own_pcts [b.toInt8.toInt32] = own_pcts [b] := by
  have q := c_i2b b
  have s1 := c_ishr b.toInt8.toInt32 4 4 rfl
  have s2 := c_ishr b 4 4 rfl
  have m1 := own_m15 (b.toInt8.toInt32 >>> ((4 : Int32) &&& 31))
  have m2 := own_m15 (b >>> ((4 : Int32) &&& 31))
  have m3 := own_m15 b.toInt8.toInt32
  have m4 := own_m15 b
  have e1 : (b.toInt8.toInt32 >>> ((4 : Int32) &&& 31)) &&& (15 : Int32) = (b >>> ((4 : Int32) &&& 31)) &&& (15 : Int32) := Int32.toInt_inj.mp (by omega)
  have e2 : b.toInt8.toInt32 &&& (15 : Int32) = b &&& (15 : Int32) := Int32.toInt_inj.mp (by omega)
  simp only [own_pcts]
  rw [e1, e2]
theorem own_pc1 (b : Int32) (l : List Int32) : own_pcts (b :: l) = own_pcts [b] ++ own_pcts l := rfl
theorem own_u8e {c : Int32} (h : Rg c) : own_pcts (own_u8 c) = own_pcts (own_ecp c) := by
  have e1 : (55296 : Int32).toInt = 55296 := rfl
  have e2 : (57343 : Int32).toInt = 57343 := rfl
  have e3 : (57344 : Int32).toInt = 57344 := rfl
  have e4 : (65536 : Int32).toInt = 65536 := rfl
  have l : c < (65536 : Int32) := own_mlt (by have := h.2; omega)
  unfold own_u8 own_ecp own_isSurrogate
  by_cases a : c < (128 : Int32)
  · rw [if_pos a, if_pos a]
  rw [if_neg a, if_neg a]
  by_cases b : c < (2048 : Int32)
  · rw [if_pos b, if_pos b, own_pc1, own_pc1 _ [_], own_pb, own_pb]
  rw [if_neg b, if_neg b]
  by_cases d : c < (55296 : Int32)
  · rw [if_pos d, if_pos rfl, if_pos d, if_pos l, own_pc1, own_pc1 _ [_], own_pb, own_pb, own_pb]
    rfl
  rw [if_neg d, if_neg d]
  by_cases f : c < (57344 : Int32)
  · rw [if_pos f, if_neg (by decide), if_neg (own_mle (by have := own_lt f; omega))]
  · rw [if_neg f, if_pos rfl, if_pos (own_mlt (by have := own_le f; omega)), if_pos l, own_pc1, own_pc1 _ [_], own_pb, own_pb, own_pb]
    rfl
theorem own_u8se {c : Int32} (h0 : 65536 ≤ c.toInt) (h1 : c.toInt ≤ 1114111) : own_pcts (own_u8s (own_toCodePoint (own_highSurrogate c) (own_lowSurrogate c))) = own_pcts (own_ecp c) := by
  rw [own_cpr h0 h1]
  have e0 : (128 : Int32).toInt = 128 := rfl
  have e1 : (2048 : Int32).toInt = 2048 := rfl
  have e2 : (55296 : Int32).toInt = 55296 := rfl
  have e3 : (57343 : Int32).toInt = 57343 := rfl
  have e4 : (65536 : Int32).toInt = 65536 := rfl
  unfold own_u8s own_ecp
  rw [if_neg (own_mle (by omega)), if_neg (own_mle (by omega)), if_neg (own_mle (by omega)), if_pos (own_mlt (by omega)), if_neg (own_mle (by omega)), own_pc1, own_pc1 _ [_, _], own_pc1 _ [_], own_pb, own_pb, own_pb, own_pb]
  rfl
theorem own_encB {ks : List Int32} {c : Int32} (h : Rg c) : own_enc ks c = own_one ks c := by
  unfold own_enc own_one
  rw [if_neg (own_bmpI h.1 h.2), own_u8e h]
theorem own_ccB {c : Int32} (h : Rg c) : own_ccn c = 1 := own_cc1 (own_bmpI h.1 h.2)
theorem own_M0 (ks : List Int32) : own_outF ks [] 3 0 = [] := rfl
theorem own_M1 {ks : List Int32} {c0 : Int32} (h : Rg c0) : own_outF ks [c0] 3 0 = [] ++ own_one ks c0 := by
  have e : own_cpa [c0] 0 = c0 := rfl
  rw [own_outF, if_pos (by simp), e, own_encB h, own_ccB h]
  rw [own_outF, if_neg (by simp), List.append_nil]
  rfl
theorem own_M2n {ks : List Int32} {c0 c1 : Int32} (h0 : Rg c0) (h1 : Rg c1) (n : ¬ ((55296 ≤ c0.toInt ∧ c0.toInt ≤ 56319) ∧ (56320 ≤ c1.toInt ∧ c1.toInt ≤ 57343))) : own_outF ks [c0, c1] 3 0 = ([] ++ own_one ks c0) ++ own_one ks c1 := by
  have e : own_cpa [c0, c1] 0 = c0 := by
    show own_cp2 c0 c1 = c0
    unfold own_cp2
    split
    · rfl
    · rename_i a
      split
      · rfl
      · rename_i b
        exact absurd ⟨own_hsR a, own_lsR b⟩ n
  have f : own_cpa [c0, c1] 1 = c1 := rfl
  rw [own_outF, if_pos (by simp), e, own_encB h0, own_ccB h0]
  rw [own_outF, if_pos (by simp), show 0 + 1 = 1 from rfl, f, own_encB h1, own_ccB h1]
  rw [own_outF, if_neg (by simp), List.append_nil]
  rfl
theorem own_M2p {ks : List Int32} {c0 c1 cp : Int32} (hk : ∀ x, ¬ own_isk ks x = (0 : Int32) → x.toInt ≤ 65535) (p : (55296 ≤ c0.toInt ∧ c0.toInt ≤ 56319) ∧ (56320 ≤ c1.toInt ∧ c1.toInt ≤ 57343)) (hc : cp.toInt = (c0.toInt - 55296) * 1024 + (c1.toInt - 56320) + 65536) : own_outF ks [c0, c1] 3 0 = [] ++ own_pcts (own_ecp cp) := by
  have t := own_tcp p.1.1 p.1.2 p.2.1 p.2.2
  have e : own_cpa [c0, c1] 0 = cp := by
    show own_cp2 c0 c1 = cp
    unfold own_cp2
    rw [if_neg (own_hiT p.1.1 p.1.2), if_neg (own_loT p.2.1 p.2.2)]
    exact Int32.toInt_inj.mp (by omega)
  have b : own_isBmpCodePoint cp = (0 : Int32) := Classical.byContradiction fun q => by
    have := own_bmpT q
    omega
  have k : own_isk ks cp = (0 : Int32) := Classical.byContradiction fun q => by
    have := hk cp q
    omega
  rw [own_outF, if_pos (by simp), e, own_cc2 b (by omega)]
  rw [own_outF, if_neg (by simp), List.append_nil, own_enc, if_pos k, if_pos b, own_u8se (by omega) (by omega)]
  rfl
theorem own_n3 {p u v : Int32} (hu : (p &&& (3 : Int32)) = u) (hv : v = if u = (3 : Int32) then (2 : Int32) else u) : v = 0 ∨ v = 1 ∨ v = 2 := by
  have q := c_mask p 3 2 (by decide) (by decide)
  rw [hu] at q
  have e : ∀ k : Int32, u.toInt = k.toInt → u = k := fun k hk => Int32.toInt_inj.mp hk
  have t : u.toInt = 0 ∨ u.toInt = 1 ∨ u.toInt = 2 ∨ u.toInt = 3 := by omega
  rcases t with t | t | t | t
  · have := e 0 t; subst this; subst hv; exact Or.inl (by decide)
  · have := e 1 t; subst this; subst hv; exact Or.inr (Or.inl (by decide))
  · have := e 2 t; subst this; subst hv; exact Or.inr (Or.inr (by decide))
  · have := e 3 t; subst this; subst hv; exact Or.inr (Or.inr (by decide))
theorem own_cpv {c0 c1 : Int32} (p : (55296 ≤ c0.toInt ∧ c0.toInt ≤ 56319) ∧ (56320 ≤ c1.toInt ∧ c1.toInt ≤ 57343)) : (((65536 : Int32) + ((c0 - (55296 : Int32)) <<< ((10 : Int32) &&& 31))) + (c1 - (56320 : Int32))).toInt = (c0.toInt - 55296) * 1024 + (c1.toInt - 56320) + 65536 := by
  have e0 : (55296 : Int32).toInt = 55296 := rfl
  have e1 : (56320 : Int32).toInt = 56320 := rfl
  have e2 : (65536 : Int32).toInt = 65536 := rfl
  have a := own_sub (x := c0) (k := 55296) (by omega) (by omega)
  have b := own_sub (x := c1) (k := 56320) (by omega) (by omega)
  have q := c_ishl (c0 - (55296 : Int32)) 10 10 rfl
  have q1 := ((c0 - (55296 : Int32)) <<< ((10 : Int32) &&& 31)).toInt_lt
  have q2 := ((c0 - (55296 : Int32)) <<< ((10 : Int32) &&& 31)).le_toInt
  have s := own_add (x := (65536 : Int32)) (k := (c0 - (55296 : Int32)) <<< ((10 : Int32) &&& 31)) (by omega) (by omega)
  have r := own_add (x := (65536 : Int32) + ((c0 - (55296 : Int32)) <<< ((10 : Int32) &&& 31))) (k := c1 - (56320 : Int32)) (by omega) (by omega)
  omega
theorem own_ecpL {c : Int32} (h : c.toInt ≤ 65535) : (own_ecp c).length ≤ 3 := by
  have e4 : (65536 : Int32).toInt = 65536 := rfl
  have l : c < (65536 : Int32) := own_mlt (by omega)
  unfold own_ecp
  rw [if_pos l]
  repeat' split
  all_goals simp
theorem own_oneL {ks : List Int32} {c : Int32} (h : Rg c) : (own_one ks c).length ≤ 9 := by
  unfold own_one
  split
  · have := own_ecpL h.2
    rw [own_plen]
    omega
  · simp
theorem own_hn0 {nz c0 c1 : Int32} {cs : List Int32} (H : (nz = (0 : Int32) ∧ cs = []) ∨ (nz = (1 : Int32) ∧ cs = [c0]) ∨ (nz = (2 : Int32) ∧ cs = [c0, c1])) (a : ¬ nz = (1 : Int32)) (b : ¬ nz = (2 : Int32)) : cs = [] := by
  rcases H with q | q | q
  · exact q.2
  · exact absurd q.1 a
  · exact absurd q.1 b
theorem own_hn1 {nz c0 c1 : Int32} {cs : List Int32} (H : (nz = (0 : Int32) ∧ cs = []) ∨ (nz = (1 : Int32) ∧ cs = [c0]) ∨ (nz = (2 : Int32) ∧ cs = [c0, c1])) (a : nz = (1 : Int32)) : cs = [c0] := by
  subst a
  rcases H with q | q | q
  · exact absurd q.1 (by decide)
  · exact q.2
  · exact absurd q.1 (by decide)
theorem own_hn2 {nz c0 c1 : Int32} {cs : List Int32} (H : (nz = (0 : Int32) ∧ cs = []) ∨ (nz = (1 : Int32) ∧ cs = [c0]) ∨ (nz = (2 : Int32) ∧ cs = [c0, c1])) (a : nz = (2 : Int32)) : cs = [c0, c1] := by
  subst a
  rcases H with q | q | q
  · exact absurd q.1 (by decide)
  · exact absurd q.1 (by decide)
  · exact q.2
theorem own_hnl {nz c0 c1 : Int32} {cs : List Int32} (H : (nz = (0 : Int32) ∧ cs = []) ∨ (nz = (1 : Int32) ∧ cs = [c0]) ∨ (nz = (2 : Int32) ∧ cs = [c0, c1])) : cs.length ≤ 2 := by
  rcases H with ⟨-, rfl⟩ | ⟨-, rfl⟩ | ⟨-, rfl⟩ <;> simp
theorem own_hkl {o k : Int32} {ks : List Int32} (H : (o = (0 : Int32) ∧ ks = []) ∨ (o = (1 : Int32) ∧ ks = [k])) : ks.length ≤ 1 := by
  rcases H with ⟨-, rfl⟩ | ⟨-, rfl⟩ <;> simp
theorem own_str0 {Z : State} {h : Heap} {s t : Addr} {k : ClassId} (E : Exa Z h s zZ0) (C : Fld Z h s zZ0 "coder" "B" (.int (0 : Int32))) (V : Fld Z h s zZ0 "value" "[B" (.ref t)) (A : Arv Z h t k .byte (0 : Int32) [] (.int 0)) : Strg Z h s t [] := ⟨E, fun q => absurd q (by simp), V, k, 0, own_z, A, Or.inl ⟨C, rfl, RpL.nil _⟩⟩
theorem own_eqI {s : State} {args : Array Value} {t : Term} {n : Int32} (h : (Cond.eq t (Term.int n)).value args s none s [] = some true) : t.eval args s none [] s = some (.int n) := by
  obtain ⟨x, y, e1, e2, k1, k2⟩ := cmp_v (Or.inl h)
  have e2' : (Term.int n).eval args s none [] s = some (.int n) := Term.int_eval n
  cases e2.symm.trans e2'
  obtain ⟨z, rfl⟩ := k2
  have := gotT (Cond.eq_ints e1 e2') h
  rw [e1, this]
theorem own_lenT {s : State} {args : Array Value} {t : Term} {a : Addr} {q : Cell} {ty : FieldType} {n : Int32} (ev : t.eval args s none [] s = some (.ref a)) (A : Arr s s.heap a q ty) (hl : (Cond.eq (Term.length t) (Term.int n)).value args s none s [] = some true) : q.slots.size < 2 ^ 31 ∧ q.slots.size.toInt32 = n := by
  have ha : s.arrayAt? a = some q := Arr.fin (Vm.Alike.refl _) A
  have e1 := own_eqI hl
  obtain ⟨b, cell, q1, q2, q4⟩ := Term.length_spec e1
  cases ev.symm.trans q1
  cases ha.symm.trans q2
  have q3 : q.slots.size < 2 ^ 31 := by
    have r := e1
    simp only [Term.eval, q1, q2, Option.bind_eq_bind, Option.bind_some] at r
    split at r
    · assumption
    · cases r
  exact ⟨q3, (Value.int.inj q4).symm⟩
theorem own_eqR {s : State} {args : Array Value} {t u : Term} {a b : Addr} (e1 : t.eval args s none [] s = some (.ref a)) (e2 : u.eval args s none [] s = some (.ref b)) (h : (Jvm.Cond.eq t u).value args s none s [] = some true) : a = b := by
  simpa [Jvm.Cond.value, e1, e2] using h
theorem own_allE {s : State} {args : Array Value} {t : Term} {c : Jvm.Cond} {a : Addr} {cell : Cell} (ht : t.eval args s none [] s = some (.ref a)) (hc : s.arrayAt? a = some cell) (h : (Jvm.Cond.all t c).value args s none s [] = some true) : ∀ i, i < cell.slots.size → c.value args s none s [i] = some true := by
  simp only [Jvm.Cond.value, ht, hc] at h
  have key : ∀ (l : List Nat) (acc : Option Bool), l.foldl (fun acc i => match acc with | some true => c.value args s none s [i] | x => x) acc = some true → acc = some true ∧ ∀ i ∈ l, c.value args s none s [i] = some true := by
    intro l
    induction l with
    | nil => exact fun acc h => ⟨h, fun _ h => by cases h⟩
    | cons b l ih =>
      intro acc h
      obtain ⟨h1, h2⟩ := ih _ h
      match acc, h1 with
      | some true, h1 =>
        refine ⟨rfl, fun i hi => ?_⟩
        rcases List.mem_cons.mp hi with rfl | hi
        · exact h1
        · exact h2 i hi
  exact fun i hi => (key _ _ h).2 i (List.mem_range.mpr hi)
theorem own_elemE {s : State} {args : Array Value} {idx : List Nat} {t i : Term} {a : Addr} {q : Cell} {j : Int32} {v : Value} (ev : t.eval args s none idx s = some (.ref a)) (e0 : i.eval args s none idx s = some (.int j)) (hj : ¬ j < 0) (ha : s.arrayAt? a = some q) (hs : q.slots[j.toNatClampNeg]? = some v) : (Jvm.Term.elem t i).eval args s none idx s = some v := by
  simp only [Jvm.Term.eval, ev, e0, ha, Option.bind_eq_bind, Option.bind_some, if_neg hj, hs]
theorem own_hexI {s : State} {args : Array Value} {C f d : String} {a : Addr} {q : Cell} {i : Nat} {w : Int32} {k : Int64} {G : Jvm.Cond} (hi : i < 16) (ev : (Jvm.Term.static C f d).eval args s none [i] s = some (.ref a)) (ha : s.arrayAt? a = some q) (hs : q.slots[i]? = some (.int w)) (hG : G.value args s none s [i] = some false) (h : (Jvm.Cond.or G (Jvm.Cond.eq (Jvm.Term.op1 Jvm.Unary.i2l (Jvm.Term.elem (Jvm.Term.static C f d) (Jvm.Term.index 0))) (Jvm.Term.op2 Jvm.Binary.ladd (Jvm.Term.op1 Jvm.Unary.i2l (Jvm.Term.index 0)) (Jvm.Term.long k)))).value args s none s [i] = some true) : w.toInt64 = (Int32.ofNat i).toInt64 + k := by
  rw [Cond.or_of_right hG] at h
  have e0 : (Jvm.Term.index 0).eval args s none [i] s = some (.int (Int32.ofNat i)) := rfl
  have e1 : ¬ (Int32.ofNat i) < 0 := own_nneg (by rw [own_on (by omega)]; omega)
  have e2 : (Int32.ofNat i).toNatClampNeg = i := by have := own_clamp (x := Int32.ofNat i) (by rw [own_on (by omega)]; omega); rw [own_on (by omega)] at this; omega
  have e3 : (Jvm.Term.elem (Jvm.Term.static C f d) (Jvm.Term.index 0)).eval args s none [i] s = some (.int w) := by
    exact own_elemE ev e0 e1 ha (by rw [e2]; exact hs)
  have e4 : (Jvm.Term.op1 Jvm.Unary.i2l (Jvm.Term.elem (Jvm.Term.static C f d) (Jvm.Term.index 0))).eval args s none [i] s = some (.long w.toInt64) := by
    show (Option.bind _ _) = _
    rw [e3]
    rfl
  have e5 : (Jvm.Term.op2 Jvm.Binary.ladd (Jvm.Term.op1 Jvm.Unary.i2l (Jvm.Term.index 0)) (Jvm.Term.long k)).eval args s none [i] s = some (.long ((Int32.ofNat i).toInt64 + k)) := rfl
  simp only [Jvm.Cond.value, e4, e5, Option.some.injEq, decide_eq_true_eq] at h
  exact h
theorem own_hexA {s : State} {args : Array Value} {C f d : String} {a : Addr} {q : Cell} (hf : Fit s) (ev : (Jvm.Term.static C f d).eval args s none [] s = some (.ref a)) (A : Arr s s.heap a q .char) (hl : (Jvm.Cond.eq (Jvm.Term.length (Jvm.Term.static C f d)) (Jvm.Term.int 16)).value args s none s [] = some true)
    (h1 : (Jvm.Cond.all (Jvm.Term.static C f d) (Jvm.Cond.or (Jvm.Cond.le (Jvm.Term.int 10) (Jvm.Term.index 0)) (Jvm.Cond.eq (Jvm.Term.op1 Jvm.Unary.i2l (Jvm.Term.elem (Jvm.Term.static C f d) (Jvm.Term.index 0))) (Jvm.Term.op2 Jvm.Binary.ladd (Jvm.Term.op1 Jvm.Unary.i2l (Jvm.Term.index 0)) (Jvm.Term.long 48))))).value args s none s [] = some true)
    (h2 : (Jvm.Cond.all (Jvm.Term.static C f d) (Jvm.Cond.or (Jvm.Cond.lt (Jvm.Term.index 0) (Jvm.Term.int 10)) (Jvm.Cond.eq (Jvm.Term.op1 Jvm.Unary.i2l (Jvm.Term.elem (Jvm.Term.static C f d) (Jvm.Term.index 0))) (Jvm.Term.op2 Jvm.Binary.ladd (Jvm.Term.op1 Jvm.Unary.i2l (Jvm.Term.index 0)) (Jvm.Term.long 55))))).value args s none s [] = some true) :
    Arv s s.heap a q.cls .char (16 : Int32) (own_rg (16 : Int32).toNatClampNeg (fun x => .int (own_hxd x))) (.int (0 : Int32)) := by
  obtain ⟨l1, l2⟩ := own_lenT ev A hl
  have ha : s.arrayAt? a = some q := Arr.fin (Vm.Alike.refl _) A
  have S : q.slots.size = (16 : Int32).toNatClampNeg := by
    have e := len_toInt l1
    rw [l2] at e
    have e4 : (16 : Int32).toInt = 16 := rfl
    simp only [Int32.toNatClampNeg, e4] at e ⊢
    omega
  have S' : q.slots.size = 16 := S
  have e10 : (10 : Int32).toInt = 10 := rfl
  have at_ : ∀ i : Nat, i < 16 → q.slots[i]? = some (.int (own_hxd (Int32.ofNat i))) := fun i hi => by
    have ei := own_on (i := i) (by omega)
    have e2 : (Int32.ofNat i).toNatClampNeg = i := by have := own_clamp (x := Int32.ofNat i) (by omega); omega
    obtain ⟨v, g1, g2⟩ := elem_fit (j := Int32.ofNat i) hf A (by rw [e2, S']; exact fun q => q.elim (own_nneg (by omega)) (by omega))
    rw [e2] at g1
    obtain ⟨w, rfl⟩ : ∃ w, v = .int w := by cases v <;> first | exact ⟨_, rfl⟩ | (simp [fits] at g2)
    rw [g1]
    have b1 := own_allE ev ha h1 i (by omega)
    have b2 := own_allE ev ha h2 i (by omega)
    have w1 := (Int32.ofNat i).toInt_lt
    unfold own_hxd
    by_cases c : (Int32.ofNat i) < (10 : Int32)
    · have c' := own_lt c
      have r := own_hexI (args := args) hi ev ha g1 (by rw [Cond.le_ints rfl rfl]; simp only [Int32.not_le.mpr c, decide_false]) b1
      rw [if_pos c]
      congr 2
      have e48 : (48 : Int32).toInt = 48 := rfl
      have s1 := own_add (x := Int32.ofNat i) (k := 48) (by omega) (by omega)
      have r' := congrArg Int64.toInt r
      have z := c_ladd (Int32.ofNat i).toInt64 48
      rw [c_i2l] at r' z
      have e64 : (48 : Int64).toInt = 48 := rfl
      have t1 := w.toInt_lt
      have t2 := w.le_toInt
      have t3 := ((Int32.ofNat i).toInt64 + (48 : Int64)).toInt_lt
      have t4 := ((Int32.ofNat i).toInt64 + (48 : Int64)).le_toInt
      exact Int32.toInt_inj.mp (by omega)
    · have c' := own_le c
      have r := own_hexI (args := args) hi ev ha g1 (by rw [Cond.lt_ints rfl rfl]; simp only [c, decide_false]) b2
      rw [if_neg c]
      congr 2
      have e48 : (55 : Int32).toInt = 55 := rfl
      have s1 := own_add (x := Int32.ofNat i) (k := 55) (by omega) (by omega)
      have r' := congrArg Int64.toInt r
      have z := c_ladd (Int32.ofNat i).toInt64 55
      rw [c_i2l] at r' z
      have e64 : (55 : Int64).toInt = 55 := rfl
      have t1 := w.toInt_lt
      have t2 := w.le_toInt
      have t3 := ((Int32.ofNat i).toInt64 + (55 : Int64)).toInt_lt
      have t4 := ((Int32.ofNat i).toInt64 + (55 : Int64)).le_toInt
      exact Int32.toInt_inj.mp (by omega)
  refine ⟨q, A, rfl, S, by decide, fun j hj => ?_, fun j hj => ?_⟩
  · rw [at_ j (by omega)]
    simp [own_rg, List.getD_eq_getElem?_getD, show (16 : Int32).toNatClampNeg = 16 from rfl, show j < 16 by omega]
  · simp only [own_rg, List.getD_eq_getElem?_getD, show (16 : Int32).toNatClampNeg = 16 from rfl, List.getElem?_map, List.getElem?_range (show j < 16 by omega), Option.map_some, Option.getD_some]
    have q := elem_fits (j := Int32.ofNat j) hf A (by
      have ei := own_on (i := j) (by omega)
      have e2 : (Int32.ofNat j).toNatClampNeg = j := by have := own_clamp (x := Int32.ofNat j) (by omega); omega
      rw [e2, S']; exact fun q => q.elim (own_nneg (by omega)) (by omega)) (v := .int (own_hxd (Int32.ofNat j))) (by
      have e2 : (Int32.ofNat j).toNatClampNeg = j := by have := own_clamp (x := Int32.ofNat j) (by rw [own_on (by omega)]; omega); rw [own_on (by omega)] at this; omega
      rw [e2]; exact at_ j (by omega))
    exact q
theorem ef0 (m : MethodId) (x0 : Int32) : entryFrame m #[(.int x0)] 1 = mkF m 0 #[vI x0] [] := by first | (simp [entryFrame, mkF, argsToLocals, Value.category]; done) | rfl
theorem pn0 : plainName "java/lang/Character" = true := by first | (simp [plainName, overriddenIn]; done) | decide +kernel
def dT26 : List DE := [(0, .iload_n 0, 1), (1, .bipush 16, 2), (3, .iushr, 1), (4, .ifCond .ne 7, 3), (7, .iconst 1, 1), (8, .goto 4, 3), (11, .iconst 0, 1), (12, .ireturn, 1)]
theorem dP26 : DO dT26 kQ0 := by decide +kernel
theorem ef1 (m : MethodId) (x0 : Int32) : entryFrame m #[(.int x0)] 2 = mkF m 0 #[vI x0, .unset] [] := by first | (simp [entryFrame, mkF, argsToLocals, Value.category]; done) | rfl
def dT71 : List DE := [(0, .iload_n 0, 1), (1, .bipush 16, 2), (3, .iushr, 1), (4, .istore_n 1, 1), (5, .iload_n 1, 1), (6, .bipush 17, 2), (8, .if_icmp .ge 7, 3), (11, .iconst 1, 1), (12, .goto 4, 3), (15, .iconst 0, 1), (16, .ireturn, 1)]
theorem dP71 : DO dT71 kQ1 := by decide +kernel
def dT68 : List DE := [(0, .iload_n 0, 1), (1, .ldc 75, 2), (3, .if_icmp .lt 13, 3), (16, .iconst 0, 1), (6, .iload_n 0, 1), (7, .ldc 76, 2), (9, .if_icmp .ge 7, 3), (12, .iconst 1, 1), (13, .goto 4, 3), (17, .ireturn, 1)]
theorem dP68 : DO dT68 kQ2 := by decide +kernel
theorem Wd322 : WT (.constant zZ4 75 (55296 : Int32)) := wA 322 rfl
theorem Wd323 : WT (.constant zZ4 76 (56320 : Int32)) := wA 323 rfl
def dT69 : List DE := [(0, .iload_n 0, 1), (1, .ldc 76, 2), (3, .if_icmp .lt 13, 3), (16, .iconst 0, 1), (6, .iload_n 0, 1), (7, .ldc 77, 2), (9, .if_icmp .ge 7, 3), (12, .iconst 1, 1), (13, .goto 4, 3), (17, .ireturn, 1)]
theorem dP69 : DO dT69 kQ3 := by decide +kernel
theorem Wd327 : WT (.constant zZ4 77 (57344 : Int32)) := wA 327 rfl
def dT76 : List DE := [(0, .iload_n 0, 1), (1, .ldc 75, 2), (3, .if_icmp .lt 13, 3), (16, .iconst 0, 1), (6, .iload_n 0, 1), (7, .ldc 77, 2), (9, .if_icmp .ge 7, 3), (12, .iconst 1, 1), (13, .goto 4, 3), (17, .ireturn, 1)]
theorem dP76 : DO dT76 kQ4 := by decide +kernel
theorem ef2 (m : MethodId) (x0 : Int32) (x1 : Int32) : entryFrame m #[(.int x0), (.int x1)] 2 = mkF m 0 #[vI x0, vI x1] [] := by first | (simp [entryFrame, mkF, argsToLocals, Value.category]; done) | rfl
def dT70 : List DE := [(0, .iload_n 0, 1), (1, .bipush 10, 2), (3, .ishl, 1), (4, .iload_n 1, 1), (5, .iadd, 1), (6, .ldc 85, 2), (8, .iadd, 1), (9, .ireturn, 1)]
theorem dP70 : DO dT70 kQ5 := by decide +kernel
theorem Wd331 : WT (.constant zZ4 85 (-56613888 : Int32)) := wA 331 rfl
def dT73 : List DE := [(0, .iload_n 0, 1), (1, .sipush 1023, 3), (4, .iand, 1), (5, .ldc 76, 2), (7, .iadd, 1), (8, .i2c, 1), (9, .ireturn, 1)]
theorem dP73 : DO dT73 kQ6 := by decide +kernel
def dT74 : List DE := [(0, .iload_n 0, 1), (1, .bipush 10, 2), (3, .iushr, 1), (4, .ldc 110, 2), (6, .iadd, 1), (7, .i2c, 1), (8, .ireturn, 1)]
theorem dP74 : DO dT74 kQ7 := by decide +kernel
theorem Wd344 : WT (.constant zZ4 110 (55232 : Int32)) := wA 344 rfl
def dT40 : List DE := [(0, .iload_n 0, 1), (1, .ldc 73, 2), (3, .if_icmp .lt 7, 3), (10, .iconst 1, 1), (6, .iconst 2, 1), (7, .goto 4, 3), (11, .ireturn, 1)]
theorem dP40 : DO dT40 kQ8 := by decide +kernel
theorem Wd208 : WT (.constant zZ4 73 (65536 : Int32)) := wA 208 rfl
theorem pn1 : plainName "java/lang/StringLatin1" = true := by first | (simp [plainName, overriddenIn]; done) | decide +kernel
def dT36 : List DE := [(0, .iload_n 0, 1), (1, .sipush 255, 3), (4, .if_icmp .gt 7, 3), (11, .iconst 0, 1), (7, .iconst 1, 1), (8, .goto 4, 3), (12, .ireturn, 1)]
theorem dP36 : DO dT36 kQ9 := by decide +kernel
def dT20 : List DE := [(0, .iload_n 0, 1), (1, .ifCond .lt 14, 3), (15, .iconst 0, 1), (4, .iload_n 0, 1), (5, .sipush 255, 3), (8, .if_icmp .gt 7, 3), (11, .iconst 1, 1), (12, .goto 4, 3), (16, .ireturn, 1)]
theorem dP20 : DO dT20 kQ10 := by decide +kernel
def dT21 : List DE := [(0, .iload_n 0, 1), (1, .iload_n 1, 1), (2, .if_icmp .lt 7, 3), (9, .iload_n 1, 1), (5, .iload_n 0, 1), (6, .goto 4, 3), (10, .ireturn, 1)]
theorem dP21 : DO dT21 kQ11 := by decide +kernel
def dT22 : List DE := [(0, .iload_n 0, 1), (1, .iload_n 1, 1), (2, .if_icmp .gt 7, 3), (9, .iload_n 1, 1), (5, .iload_n 0, 1), (6, .goto 4, 3), (10, .ireturn, 1)]
theorem dP22 : DO dT22 kQ12 := by decide +kernel
theorem ef3 (m : MethodId) (x0 : Int32) (x1 : Int32) (x2 : Value) (rx2 : x2.isRef = true) : entryFrame m #[(.int x0), (.int x1), x2] 3 = mkF m 0 #[vI x0, vI x1, .val x2] [] := by rcases ref_cases rx2 with rfl | ⟨_, rfl⟩ <;> first | (simp [entryFrame, mkF, argsToLocals, Value.category]; done) | rfl
theorem pn2 : plainName "jdk/internal/util/Preconditions" = true := by first | (simp [plainName, overriddenIn]; done) | decide +kernel
def dT15 : List DE := [(0, .iload_n 0, 1), (1, .ifCond .lt 8, 3), (4, .iload_n 0, 1), (5, .iload_n 1, 1), (6, .if_icmp .lt 10, 3), (16, .iload_n 0, 1), (17, .ireturn, 1)]
theorem dP15 : DO dT15 kQ13 := by decide +kernel
theorem pn3 : plainName "java/lang/String" = true := by first | (simp [plainName, overriddenIn]; done) | decide +kernel
def dT14 : List DE := [(0, .iload_n 0, 1), (1, .iload_n 1, 1), (2, .getstatic 1053, 3), (5, .invokestatic 1059, 3), (8, .pop, 1), (9, .return_, 1)]
theorem dP14 : DO dT14 kQ14 := by decide +kernel
theorem Wd75 : WT (.fieldLink zZ0 1053 zZ9 "SIOOBE_FORMATTER" zZ64) := wA 75 rfl
theorem Wd77 : WT (.methodLink zZ0 1059 ⟨zZ9, zZ12, zZ51⟩) := wA 77 rfl
theorem Wd79 : WT (.code ⟨zZ9, zZ12, zZ51⟩ kQ13 3 (Option.some FieldType.int)) := wA 79 rfl
theorem Wd76 : WT (.initialized zZ9) := wA 76 rfl
theorem Wd78 : WT (.static ⟨zZ9, zZ12, zZ51⟩) := wA 78 rfl
theorem pd0 : parseMethodDescriptor "(IILjava/util/function/BiFunction;)I" = some ⟨[.int, .int, (.object "java/util/function/BiFunction")], some .int⟩ := by decide +kernel
theorem ef4 (m : MethodId) (x0 : Int32) (x1 : Int32) (x2 : Int32) (x3 : Value) (rx3 : x3.isRef = true) : entryFrame m #[(.int x0), (.int x1), (.int x2), x3] 4 = mkF m 0 #[vI x0, vI x1, vI x2, .val x3] [] := by rcases ref_cases rx3 with rfl | ⟨_, rfl⟩ <;> first | (simp [entryFrame, mkF, argsToLocals, Value.category]; done) | rfl
def dT82 : List DE := [(0, .iload_n 0, 1), (1, .ifCond .lt 13, 3), (4, .iload_n 0, 1), (5, .iload_n 1, 1), (6, .if_icmp .gt 8, 3), (9, .iload_n 1, 1), (10, .iload_n 2, 1), (11, .if_icmp .le 11, 3), (22, .iload_n 0, 1), (23, .ireturn, 1)]
theorem dP82 : DO dT82 kQ15 := by decide +kernel
theorem ef5 (m : MethodId) (x0 : Int32) (x1 : Int32) (x2 : Int32) : entryFrame m #[(.int x0), (.int x1), (.int x2)] 3 = mkF m 0 #[vI x0, vI x1, vI x2] [] := by first | (simp [entryFrame, mkF, argsToLocals, Value.category]; done) | rfl
def dT81 : List DE := [(0, .iload_n 0, 1), (1, .iload_n 1, 1), (2, .iload_n 2, 1), (3, .getstatic 1053, 3), (6, .invokestatic 1062, 3), (9, .pop, 1), (10, .return_, 1)]
theorem dP81 : DO dT81 kQ16 := by decide +kernel
theorem Wd380 : WT (.methodLink zZ0 1062 ⟨zZ9, zZ52, zZ20⟩) := wA 380 rfl
theorem Wd382 : WT (.code ⟨zZ9, zZ52, zZ20⟩ kQ15 4 (Option.some FieldType.int)) := wA 382 rfl
theorem Wd381 : WT (.static ⟨zZ9, zZ52, zZ20⟩) := wA 381 rfl
theorem pd1 : parseMethodDescriptor "(IIILjava/util/function/BiFunction;)I" = some ⟨[.int, .int, .int, (.object "java/util/function/BiFunction")], some .int⟩ := by decide +kernel
def dT90 : List DE := [(0, .iload_n 2, 1), (1, .iload_n 0, 1), (2, .ior, 1), (3, .iload_n 1, 1), (4, .ior, 1), (5, .ifCond .lt 10, 3), (8, .iload_n 1, 1), (9, .iload_n 2, 1), (10, .iload_n 0, 1), (11, .isub, 1), (12, .if_icmp .le 11, 3), (23, .iload_n 0, 1), (24, .ireturn, 1)]
theorem dP90 : DO dT90 kQ17 := by decide +kernel
def dT89 : List DE := [(0, .iload_n 0, 1), (1, .iload_n 1, 1), (2, .iload_n 2, 1), (3, .getstatic 1053, 3), (6, .invokestatic 1065, 3), (9, .ireturn, 1)]
theorem dP89 : DO dT89 kQ18 := by decide +kernel
theorem Wd407 : WT (.methodLink zZ0 1065 ⟨zZ9, zZ53, zZ20⟩) := wA 407 rfl
theorem Wd409 : WT (.code ⟨zZ9, zZ53, zZ20⟩ kQ17 4 (Option.some FieldType.int)) := wA 409 rfl
theorem Wd408 : WT (.static ⟨zZ9, zZ53, zZ20⟩) := wA 408 rfl
theorem ef6 (m : MethodId) (x0 : Addr) : entryFrame m #[(.ref x0)] 1 = mkF m 0 #[vR x0] [] := by first | (simp [entryFrame, mkF, argsToLocals, Value.category]; done) | rfl
theorem pn4 : plainName "java/lang/StringUTF16" = true := by first | (simp [plainName, overriddenIn]; done) | decide +kernel
def dT80 : List DE := [(0, .aload_n 0, 1), (1, .arraylength, 1), (2, .iconst 1, 1), (3, .ishr, 1), (4, .ireturn, 1)]
theorem dP80 : DO dT80 kQ19 := by decide +kernel
theorem ef7 (m : MethodId) (x0 : Int32) (x1 : Addr) : entryFrame m #[(.int x0), (.ref x1)] 2 = mkF m 0 #[vI x0, vR x1] [] := by first | (simp [entryFrame, mkF, argsToLocals, Value.category]; done) | rfl
def dT92 : List DE := [(0, .iload_n 0, 1), (1, .aload_n 1, 1), (2, .invokestatic 48, 3), (5, .invokestatic 414, 3), (8, .return_, 1)]
theorem dP92 : DO dT92 kQ20 := by decide +kernel
theorem Wd374 : WT (.methodLink zZ1 48 ⟨zZ1, "length", "([B)I"⟩) := wA 374 rfl
theorem Wd376 : WT (.code ⟨zZ1, "length", "([B)I"⟩ kQ19 1 (Option.some FieldType.int)) := wA 376 rfl
theorem Wd17 : WT (.initialized zZ1) := wA 17 rfl
theorem Wd375 : WT (.static ⟨zZ1, "length", "([B)I"⟩) := wA 375 rfl
theorem pd2 : parseMethodDescriptor "([B)I" = some ⟨[(.array .byte)], some .int⟩ := by decide +kernel
theorem Wd416 : WT (.methodLink zZ1 414 ⟨zZ0, zZ12, "(II)V"⟩) := wA 416 rfl
theorem Wd74 : WT (.code ⟨zZ0, zZ12, "(II)V"⟩ kQ14 2 (Option.none : Option Jvm.ClassFile.FieldType)) := wA 74 rfl
theorem Wd3 : WT (.initialized zZ0) := wA 3 rfl
theorem Wd73 : WT (.static ⟨zZ0, zZ12, "(II)V"⟩) := wA 73 rfl
theorem pd3 : parseMethodDescriptor "(II)V" = some ⟨[.int, .int], none⟩ := by decide +kernel
theorem ef8 (m : MethodId) (x0 : Int32) (x1 : Int32) (x2 : Addr) : entryFrame m #[(.int x0), (.int x1), (.ref x2)] 3 = mkF m 0 #[vI x0, vI x1, vR x2] [] := by first | (simp [entryFrame, mkF, argsToLocals, Value.category]; done) | rfl
def dT79 : List DE := [(0, .iload_n 0, 1), (1, .iload_n 1, 1), (2, .aload_n 2, 1), (3, .invokestatic 48, 3), (6, .invokestatic 241, 3), (9, .return_, 1)]
theorem dP79 : DO dT79 kQ21 := by decide +kernel
theorem Wd377 : WT (.methodLink zZ1 241 ⟨zZ0, zZ21, "(III)V"⟩) := wA 377 rfl
theorem Wd379 : WT (.code ⟨zZ0, zZ21, "(III)V"⟩ kQ16 3 (Option.none : Option Jvm.ClassFile.FieldType)) := wA 379 rfl
theorem Wd378 : WT (.static ⟨zZ0, zZ21, "(III)V"⟩) := wA 378 rfl
theorem pd4 : parseMethodDescriptor "(III)V" = some ⟨[.int, .int, .int], none⟩ := by decide +kernel
def dT88 : List DE := [(0, .iload_n 0, 1), (1, .iload_n 1, 1), (2, .aload_n 2, 1), (3, .invokestatic 48, 3), (6, .invokestatic 419, 3), (9, .pop, 1), (10, .return_, 1)]
theorem dP88 : DO dT88 kQ22 := by decide +kernel
theorem Wd404 : WT (.methodLink zZ1 419 ⟨zZ0, zZ22, "(III)I"⟩) := wA 404 rfl
theorem Wd406 : WT (.code ⟨zZ0, zZ22, "(III)I"⟩ kQ18 3 (Option.some FieldType.int)) := wA 406 rfl
theorem Wd405 : WT (.static ⟨zZ0, zZ22, "(III)I"⟩) := wA 405 rfl
theorem pd5 : parseMethodDescriptor "(III)I" = some ⟨[.int, .int, .int], some .int⟩ := by decide +kernel
theorem ef9 (m : MethodId) (x0 : Addr) (x1 : Int32) : entryFrame m #[(.ref x0), (.int x1)] 2 = mkF m 0 #[vR x0, vI x1] [] := by first | (simp [entryFrame, mkF, argsToLocals, Value.category]; done) | rfl
def dT65 : List DE := [(0, .getstatic 44, 3), (3, .ifCond .ne 25, 3), (28, .iload_n 1, 1), (29, .iconst 1, 1), (30, .ishl, 1), (31, .istore_n 1, 1), (32, .aload_n 0, 1), (33, .iload_n 1, 1), (34, .iinc 1 1, 3), (37, .baload, 1), (38, .sipush 255, 3), (41, .iand, 1), (42, .getstatic 59, 3), (45, .ishl, 1), (46, .aload_n 0, 1), (47, .iload_n 1, 1), (48, .baload, 1), (49, .sipush 255, 3), (52, .iand, 1), (53, .getstatic 63, 3), (56, .ishl, 1), (57, .ior, 1), (58, .i2c, 1), (59, .ireturn, 1)]
theorem dP65 : DO dT65 kQ23 := by decide +kernel
theorem Wd304 : WT (.fieldLink zZ1 44 zZ1 "$assertionsDisabled" "Z") := wA 304 rfl
theorem Wd305 : WT (.fieldLink zZ1 59 zZ1 "HI_BYTE_SHIFT" "I") := wA 305 rfl
theorem Wd306 : WT (.fieldLink zZ1 63 zZ1 "LO_BYTE_SHIFT" "I") := wA 306 rfl
theorem ef10 (m : MethodId) (x0 : Addr) (x1 : Int32) (x2 : Int32) : entryFrame m #[(.ref x0), (.int x1), (.int x2)] 3 = mkF m 0 #[vR x0, vI x1, vI x2] [] := by first | (simp [entryFrame, mkF, argsToLocals, Value.category]; done) | rfl
def dT64 : List DE := [(0, .getstatic 44, 3), (3, .ifCond .ne 25, 3), (28, .iload_n 1, 1), (29, .iconst 1, 1), (30, .ishl, 1), (31, .istore_n 1, 1), (32, .aload_n 0, 1), (33, .iload_n 1, 1), (34, .iinc 1 1, 3), (37, .iload_n 2, 1), (38, .getstatic 59, 3), (41, .ishr, 1), (42, .i2b, 1), (43, .bastore, 1), (44, .aload_n 0, 1), (45, .iload_n 1, 1), (46, .iload_n 2, 1), (47, .getstatic 63, 3), (50, .ishr, 1), (51, .i2b, 1), (52, .bastore, 1), (53, .return_, 1)]
theorem dP64 : DO dT64 kQ24 := by decide +kernel
theorem Wd289 : WT (.stringLink zZ0 7 "") := wA 289 rfl
theorem Wd83 : WT (.stringLink zZ6 9 "-._~") := wA 83 rfl
def dT13 : List DE := [(0, .getstatic 38, 3), (3, .ifCond .eq 14, 3), (6, .aload_n 0, 1), (7, .getfield 15, 3), (10, .ifCond .ne 7, 3), (13, .iconst 1, 1), (14, .goto 4, 3), (18, .ireturn, 1), (17, .iconst 0, 1)]
theorem dP13 : DO dT13 kQ25 := by decide +kernel
theorem Wd14 : WT (.fieldLink zZ0 38 zZ0 zZ17 "Z") := wA 14 rfl
theorem Wd26 : WT (.fieldLink zZ0 15 zZ0 "coder" "B") := wA 26 rfl
def dT9 : List DE := [(0, .getstatic 38, 3), (3, .ifCond .eq 10, 3), (6, .aload_n 0, 1), (7, .getfield 15, 3), (10, .goto 4, 3), (14, .ireturn, 1)]
theorem dP9 : DO dT9 kQ26 := by decide +kernel
def dT8 : List DE := [(0, .aload_n 0, 1), (1, .getfield 9, 3), (4, .arraylength, 1), (5, .aload_n 0, 1), (6, .invokevirtual 335, 3), (9, .ishr, 1), (10, .ireturn, 1)]
theorem dP8 : DO dT8 kQ27 := by decide +kernel
theorem Wd28 : WT (.fieldLink zZ0 9 zZ0 "value" "[B") := wA 28 rfl
theorem Wd42 : WT (.methodLink zZ0 335 ⟨zZ0, "coder", "()B"⟩) := wA 42 rfl
theorem Wd45 : WT (.selects zZ0 ⟨zZ0, "coder", "()B"⟩ ⟨zZ0, "coder", "()B"⟩) := wA 45 rfl
theorem Wd46 : WT (.code ⟨zZ0, "coder", "()B"⟩ kQ26 1 (Option.some FieldType.byte)) := wA 46 rfl
theorem Wd43 : WT (.declares ⟨zZ0, "coder", "()B"⟩) := wA 43 rfl
theorem Wd44 : WT (.instanceMethod ⟨zZ0, "coder", "()B"⟩) := wA 44 rfl
theorem pd6 : parseMethodDescriptor "()B" = some ⟨[], some .byte⟩ := by decide +kernel
theorem ef11 (m : MethodId) (x0 : Addr) (x1 : Int32) (x2 : Int32) (x3 : Int32) : entryFrame m #[(.ref x0), (.int x1), (.int x2), (.int x3)] 6 = mkF m 0 #[vR x0, vI x1, vI x2, vI x3, .unset, .unset] [] := by first | (simp [entryFrame, mkF, argsToLocals, Value.category]; done) | rfl
def dT23 : List DE := [(0, .iload_n 1, 1), (1, .i2b, 1), (2, .istore 4, 2), (4, .iload_n 2, 1), (5, .istore 5, 2), (7, .iload 5, 2), (9, .iload_n 3, 1), (10, .if_icmp .ge 21, 3), (13, .aload_n 0, 1), (14, .iload 5, 2), (16, .baload, 1), (17, .iload 4, 2), (19, .if_icmp .ne 6, 3), (22, .iload 5, 2), (24, .ireturn, 1), (25, .iinc 5 1, 3), (28, .goto (-21), 3), (31, .iconst (-1), 1), (32, .ireturn, 1)]
theorem dP23 : DO dT23 kQ28 := by decide +kernel
theorem ef12 (m : MethodId) (x0 : Addr) (x1 : Int32) (x2 : Int32) (x3 : Int32) : entryFrame m #[(.ref x0), (.int x1), (.int x2), (.int x3)] 4 = mkF m 0 #[vR x0, vI x1, vI x2, vI x3] [] := by first | (simp [entryFrame, mkF, argsToLocals, Value.category]; done) | rfl
def dT19 : List DE := [(0, .iload_n 1, 1), (1, .invokestatic 88, 3), (4, .ifCond .ne 5, 3), (7, .iconst (-1), 1), (8, .ireturn, 1), (9, .iload_n 2, 1), (10, .iconst 0, 1), (11, .invokestatic 92, 3), (14, .istore_n 2, 1), (15, .iload_n 3, 1), (16, .aload_n 0, 1), (17, .arraylength, 1), (18, .invokestatic 38, 3), (21, .istore_n 3, 1), (22, .iload_n 2, 1), (23, .iload_n 3, 1), (24, .if_icmp .lt 5, 3), (29, .aload_n 0, 1), (30, .iload_n 1, 1), (31, .iload_n 2, 1), (32, .iload_n 3, 1), (33, .invokestatic 95, 3), (36, .ireturn, 1), (27, .iconst (-1), 1), (28, .ireturn, 1)]
theorem dP19 : DO dT19 kQ29 := by decide +kernel
theorem Wd101 : WT (.methodLink zZ7 88 ⟨zZ7, "canEncode", "(I)Z"⟩) := wA 101 rfl
theorem Wd103 : WT (.code ⟨zZ7, "canEncode", "(I)Z"⟩ kQ10 1 (Option.some FieldType.boolean)) := wA 103 rfl
theorem Wd99 : WT (.initialized zZ7) := wA 99 rfl
theorem Wd102 : WT (.static ⟨zZ7, "canEncode", "(I)Z"⟩) := wA 102 rfl
theorem pd7 : parseMethodDescriptor "(I)Z" = some ⟨[.int], some .boolean⟩ := by decide +kernel
theorem Wd104 : WT (.methodLink zZ7 92 ⟨zZ10, "max", "(II)I"⟩) := wA 104 rfl
theorem Wd107 : WT (.code ⟨zZ10, "max", "(II)I"⟩ kQ11 2 (Option.some FieldType.int)) := wA 107 rfl
theorem Wd106 : WT (.initialized zZ10) := wA 106 rfl
theorem Wd105 : WT (.static ⟨zZ10, "max", "(II)I"⟩) := wA 105 rfl
theorem pd8 : parseMethodDescriptor "(II)I" = some ⟨[.int, .int], some .int⟩ := by decide +kernel
theorem Wd108 : WT (.methodLink zZ7 38 ⟨zZ10, "min", "(II)I"⟩) := wA 108 rfl
theorem Wd110 : WT (.code ⟨zZ10, "min", "(II)I"⟩ kQ12 2 (Option.some FieldType.int)) := wA 110 rfl
theorem Wd109 : WT (.static ⟨zZ10, "min", "(II)I"⟩) := wA 109 rfl
theorem Wd111 : WT (.methodLink zZ7 95 ⟨zZ7, zZ18, "([BIII)I"⟩) := wA 111 rfl
theorem Wd113 : WT (.code ⟨zZ7, zZ18, "([BIII)I"⟩ kQ28 6 (Option.some FieldType.int)) := wA 113 rfl
theorem Wd112 : WT (.static ⟨zZ7, zZ18, "([BIII)I"⟩) := wA 112 rfl
theorem pd9 : parseMethodDescriptor "([BIII)I" = some ⟨[(.array .byte), .int, .int, .int], some .int⟩ := by decide +kernel
def dT18 : List DE := [(0, .aload_n 0, 1), (1, .invokevirtual 492, 3), (4, .ifCond .eq 19, 3), (7, .aload_n 0, 1), (8, .getfield 9, 3), (11, .iload_n 1, 1), (12, .iload_n 2, 1), (13, .aload_n 0, 1), (14, .invokevirtual 505, 3), (17, .invokestatic 637, 3), (20, .goto 16, 3), (36, .ireturn, 1), (23, .aload_n 0, 1), (24, .getfield 9, 3), (27, .iload_n 1, 1), (28, .iload_n 2, 1), (29, .aload_n 0, 1), (30, .invokevirtual 505, 3), (33, .invokestatic 640, 3)]
theorem dP18 : DO dT18 kQ30 := by decide +kernel
theorem Wd67 : WT (.methodLink zZ0 492 ⟨zZ0, "isLatin1", "()Z"⟩) := wA 67 rfl
theorem Wd70 : WT (.selects zZ0 ⟨zZ0, "isLatin1", "()Z"⟩ ⟨zZ0, "isLatin1", "()Z"⟩) := wA 70 rfl
theorem Wd71 : WT (.code ⟨zZ0, "isLatin1", "()Z"⟩ kQ25 1 (Option.some FieldType.boolean)) := wA 71 rfl
theorem Wd68 : WT (.declares ⟨zZ0, "isLatin1", "()Z"⟩) := wA 68 rfl
theorem Wd69 : WT (.instanceMethod ⟨zZ0, "isLatin1", "()Z"⟩) := wA 69 rfl
theorem pd10 : parseMethodDescriptor "()Z" = some ⟨[], some .boolean⟩ := by decide +kernel
theorem Wd96 : WT (.methodLink zZ0 505 ⟨zZ0, "length", "()I"⟩) := wA 96 rfl
theorem Wd40 : WT (.selects zZ0 ⟨zZ0, "length", "()I"⟩ ⟨zZ0, "length", "()I"⟩) := wA 40 rfl
theorem Wd41 : WT (.code ⟨zZ0, "length", "()I"⟩ kQ27 1 (Option.some FieldType.int)) := wA 41 rfl
theorem Wd38 : WT (.declares ⟨zZ0, "length", "()I"⟩) := wA 38 rfl
theorem Wd39 : WT (.instanceMethod ⟨zZ0, "length", "()I"⟩) := wA 39 rfl
theorem pd11 : parseMethodDescriptor "()I" = some ⟨[], some .int⟩ := by decide +kernel
theorem Wd97 : WT (.methodLink zZ0 637 ⟨zZ7, "indexOf", "([BIII)I"⟩) := wA 97 rfl
theorem Wd100 : WT (.code ⟨zZ7, "indexOf", "([BIII)I"⟩ kQ29 4 (Option.some FieldType.int)) := wA 100 rfl
theorem Wd98 : WT (.static ⟨zZ7, "indexOf", "([BIII)I"⟩) := wA 98 rfl
def dT17 : List DE := [(0, .aload_n 0, 1), (1, .iload_n 1, 1), (2, .iconst 0, 1), (3, .invokevirtual 633, 3), (6, .ireturn, 1)]
theorem dP17 : DO dT17 kQ31 := by decide +kernel
theorem Wd91 : WT (.methodLink zZ0 633 ⟨zZ0, "indexOf", "(II)I"⟩) := wA 91 rfl
theorem Wd94 : WT (.selects zZ0 ⟨zZ0, "indexOf", "(II)I"⟩ ⟨zZ0, "indexOf", "(II)I"⟩) := wA 94 rfl
theorem Wd95 : WT (.code ⟨zZ0, "indexOf", "(II)I"⟩ kQ30 3 (Option.some FieldType.int)) := wA 95 rfl
theorem Wd92 : WT (.declares ⟨zZ0, "indexOf", "(II)I"⟩) := wA 92 rfl
theorem Wd93 : WT (.instanceMethod ⟨zZ0, "indexOf", "(II)I"⟩) := wA 93 rfl
def dT57 : List DE := [(0, .iload_n 1, 1), (1, .aload_n 0, 1), (2, .arraylength, 1), (3, .invokestatic 9, 3), (6, .aload_n 0, 1), (7, .iload_n 1, 1), (8, .baload, 1), (9, .sipush 255, 3), (12, .iand, 1), (13, .i2c, 1), (14, .ireturn, 1)]
theorem dP57 : DO dT57 kQ32 := by decide +kernel
theorem Wd272 : WT (.methodLink zZ7 9 ⟨zZ0, zZ12, "(II)V"⟩) := wA 272 rfl
def dT93 : List DE := [(0, .iload_n 1, 1), (1, .aload_n 0, 1), (2, .invokestatic 67, 3), (5, .aload_n 0, 1), (6, .iload_n 1, 1), (7, .invokestatic 71, 3), (10, .ireturn, 1)]
theorem dP93 : DO dT93 kQ33 := by decide +kernel
theorem Wd413 : WT (.methodLink zZ1 67 ⟨zZ1, zZ12, "(I[B)V"⟩) := wA 413 rfl
theorem Wd415 : WT (.code ⟨zZ1, zZ12, "(I[B)V"⟩ kQ20 2 (Option.none : Option Jvm.ClassFile.FieldType)) := wA 415 rfl
theorem Wd414 : WT (.static ⟨zZ1, zZ12, "(I[B)V"⟩) := wA 414 rfl
theorem pd12 : parseMethodDescriptor "(I[B)V" = some ⟨[.int, (.array .byte)], none⟩ := by decide +kernel
theorem Wd307 : WT (.methodLink zZ1 71 ⟨zZ1, "getChar", "([BI)C"⟩) := wA 307 rfl
theorem Wd309 : WT (.code ⟨zZ1, "getChar", "([BI)C"⟩ kQ23 2 (Option.some FieldType.char)) := wA 309 rfl
theorem Wd308 : WT (.static ⟨zZ1, "getChar", "([BI)C"⟩) := wA 308 rfl
theorem pd13 : parseMethodDescriptor "([BI)C" = some ⟨[(.array .byte), .int], some .char⟩ := by decide +kernel
def dT56 : List DE := [(0, .aload_n 0, 1), (1, .invokevirtual 492, 3), (4, .ifCond .eq 12, 3), (7, .aload_n 0, 1), (8, .getfield 9, 3), (11, .iload_n 1, 1), (12, .invokestatic 495, 3), (15, .ireturn, 1), (16, .aload_n 0, 1), (17, .getfield 9, 3), (20, .iload_n 1, 1), (21, .invokestatic 498, 3), (24, .ireturn, 1)]
theorem dP56 : DO dT56 kQ34 := by decide +kernel
theorem Wd269 : WT (.methodLink zZ0 495 ⟨zZ7, "charAt", "([BI)C"⟩) := wA 269 rfl
theorem Wd271 : WT (.code ⟨zZ7, "charAt", "([BI)C"⟩ kQ32 2 (Option.some FieldType.char)) := wA 271 rfl
theorem Wd270 : WT (.static ⟨zZ7, "charAt", "([BI)C"⟩) := wA 270 rfl
theorem Wd419 : WT (.methodLink zZ0 498 ⟨zZ1, "charAt", "([BI)C"⟩) := wA 419 rfl
theorem Wd421 : WT (.code ⟨zZ1, "charAt", "([BI)C"⟩ kQ33 2 (Option.some FieldType.char)) := wA 421 rfl
theorem Wd420 : WT (.static ⟨zZ1, "charAt", "([BI)C"⟩) := wA 420 rfl
def dT67 : List DE := [(0, .getstatic 44, 3), (3, .ifCond .ne 16, 3), (19, .iload_n 3, 1), (20, .ifCond .eq 8, 3), (28, .aload_n 0, 1), (29, .iload_n 1, 1), (30, .invokestatic 71, 3), (33, .istore 4, 2), (35, .iload 4, 2), (37, .invokestatic 75, 3), (40, .ifCond .eq 43, 3), (83, .iload 4, 2), (85, .ireturn, 1), (43, .iinc 1 1, 3), (46, .iload_n 1, 1), (47, .iload_n 2, 1), (48, .if_icmp .ge 35, 3), (51, .iload_n 3, 1), (52, .ifCond .eq 8, 3), (60, .aload_n 0, 1), (61, .iload_n 1, 1), (62, .invokestatic 71, 3), (65, .istore 5, 2), (67, .iload 5, 2), (69, .invokestatic 81, 3), (72, .ifCond .eq 11, 3), (75, .iload 4, 2), (77, .iload 5, 2), (79, .invokestatic 84, 3), (82, .ireturn, 1)]
theorem dP67 : DO dT67 kQ35 := by decide +kernel
theorem Wd319 : WT (.methodLink zZ1 75 ⟨zZ4, zZ39, "(C)Z"⟩) := wA 319 rfl
theorem Wd321 : WT (.code ⟨zZ4, zZ39, "(C)Z"⟩ kQ2 1 (Option.some FieldType.boolean)) := wA 321 rfl
theorem Wd120 : WT (.initialized zZ4) := wA 120 rfl
theorem Wd320 : WT (.static ⟨zZ4, zZ39, "(C)Z"⟩) := wA 320 rfl
theorem pd14 : parseMethodDescriptor "(C)Z" = some ⟨[.char], some .boolean⟩ := by decide +kernel
theorem Wd324 : WT (.methodLink zZ1 81 ⟨zZ4, zZ40, "(C)Z"⟩) := wA 324 rfl
theorem Wd326 : WT (.code ⟨zZ4, zZ40, "(C)Z"⟩ kQ3 1 (Option.some FieldType.boolean)) := wA 326 rfl
theorem Wd325 : WT (.static ⟨zZ4, zZ40, "(C)Z"⟩) := wA 325 rfl
theorem Wd328 : WT (.methodLink zZ1 84 ⟨zZ4, zZ41, "(CC)I"⟩) := wA 328 rfl
theorem Wd330 : WT (.code ⟨zZ4, zZ41, "(CC)I"⟩ kQ5 2 (Option.some FieldType.int)) := wA 330 rfl
theorem Wd329 : WT (.static ⟨zZ4, zZ41, "(CC)I"⟩) := wA 329 rfl
theorem pd15 : parseMethodDescriptor "(CC)I" = some ⟨[.char, .char], some .int⟩ := by decide +kernel
def dT66 : List DE := [(0, .aload_n 0, 1), (1, .iload_n 1, 1), (2, .iload_n 2, 1), (3, .iconst 0, 1), (4, .invokestatic 88, 3), (7, .ireturn, 1)]
theorem dP66 : DO dT66 kQ36 := by decide +kernel
theorem Wd316 : WT (.methodLink zZ1 88 ⟨zZ1, zZ11, "([BIIZ)I"⟩) := wA 316 rfl
theorem Wd318 : WT (.code ⟨zZ1, zZ11, "([BIIZ)I"⟩ kQ35 6 (Option.some FieldType.int)) := wA 318 rfl
theorem Wd317 : WT (.static ⟨zZ1, zZ11, "([BIIZ)I"⟩) := wA 317 rfl
theorem pd16 : parseMethodDescriptor "([BIIZ)I" = some ⟨[(.array .byte), .int, .int, .boolean], some .int⟩ := by decide +kernel
theorem ef13 (m : MethodId) (x0 : Addr) (x1 : Int32) : entryFrame m #[(.ref x0), (.int x1)] 3 = mkF m 0 #[vR x0, vI x1, .unset] [] := by first | (simp [entryFrame, mkF, argsToLocals, Value.category]; done) | rfl
def dT12 : List DE := [(0, .aload_n 0, 1), (1, .invokevirtual 492, 3), (4, .ifCond .eq 23, 3), (7, .iload_n 1, 1), (8, .aload_n 0, 1), (9, .getfield 9, 3), (12, .arraylength, 1), (13, .invokestatic 499, 3), (16, .aload_n 0, 1), (17, .getfield 9, 3), (20, .iload_n 1, 1), (21, .baload, 1), (22, .sipush 255, 3), (25, .iand, 1), (26, .ireturn, 1), (27, .aload_n 0, 1), (28, .getfield 9, 3), (31, .arraylength, 1), (32, .iconst 1, 1), (33, .ishr, 1), (34, .istore_n 2, 1), (35, .iload_n 1, 1), (36, .iload_n 2, 1), (37, .invokestatic 499, 3), (40, .aload_n 0, 1), (41, .getfield 9, 3), (44, .iload_n 1, 1), (45, .iload_n 2, 1), (46, .invokestatic 502, 3), (49, .ireturn, 1)]
theorem dP12 : DO dT12 kQ37 := by decide +kernel
theorem Wd72 : WT (.methodLink zZ0 499 ⟨zZ0, zZ12, "(II)V"⟩) := wA 72 rfl
theorem Wd313 : WT (.methodLink zZ0 502 ⟨zZ1, zZ11, "([BII)I"⟩) := wA 313 rfl
theorem Wd315 : WT (.code ⟨zZ1, zZ11, "([BII)I"⟩ kQ36 3 (Option.some FieldType.int)) := wA 315 rfl
theorem Wd314 : WT (.static ⟨zZ1, zZ11, "([BII)I"⟩) := wA 314 rfl
theorem pd17 : parseMethodDescriptor "([BII)I" = some ⟨[(.array .byte), .int, .int], some .int⟩ := by decide +kernel
theorem ef14 (m : MethodId) (x0 : Addr) (x1 : Int32) (x2 : Int32) (x3 : Int32) : entryFrame m #[(.ref x0), (.int x1), (.int x2), (.int x3)] 5 = mkF m 0 #[vR x0, vI x1, vI x2, vI x3, .unset] [] := by first | (simp [entryFrame, mkF, argsToLocals, Value.category]; done) | rfl
def dT84 : List DE := [(0, .iload_n 2, 1), (1, .istore 4, 2), (3, .iload 4, 2), (5, .iload_n 3, 1), (6, .if_icmp .ge 22, 3), (9, .aload_n 0, 1), (10, .iload 4, 2), (12, .invokestatic 71, 3), (15, .iload_n 1, 1), (16, .if_icmp .ne 6, 3), (19, .iload 4, 2), (21, .ireturn, 1), (22, .iinc 4 1, 3), (25, .goto (-22), 3), (28, .iconst (-1), 1), (29, .ireturn, 1)]
theorem dP84 : DO dT84 kQ38 := by decide +kernel
def dT83 : List DE := [(0, .iload_n 2, 1), (1, .iload_n 3, 1), (2, .aload_n 0, 1), (3, .invokestatic 96, 3), (6, .aload_n 0, 1), (7, .iload_n 1, 1), (8, .iload_n 2, 1), (9, .iload_n 3, 1), (10, .invokestatic 244, 3), (13, .ireturn, 1)]
theorem dP83 : DO dT83 kQ39 := by decide +kernel
theorem Wd371 : WT (.methodLink zZ1 96 ⟨zZ1, zZ21, "(II[B)V"⟩) := wA 371 rfl
theorem Wd373 : WT (.code ⟨zZ1, zZ21, "(II[B)V"⟩ kQ21 3 (Option.none : Option Jvm.ClassFile.FieldType)) := wA 373 rfl
theorem Wd372 : WT (.static ⟨zZ1, zZ21, "(II[B)V"⟩) := wA 372 rfl
theorem pd18 : parseMethodDescriptor "(II[B)V" = some ⟨[.int, .int, (.array .byte)], none⟩ := by decide +kernel
theorem Wd386 : WT (.methodLink zZ1 244 ⟨zZ1, zZ54, "([BIII)I"⟩) := wA 386 rfl
theorem Wd388 : WT (.code ⟨zZ1, zZ54, "([BIII)I"⟩ kQ38 5 (Option.some FieldType.int)) := wA 388 rfl
theorem Wd387 : WT (.static ⟨zZ1, zZ54, "([BIII)I"⟩) := wA 387 rfl
theorem ef15 (m : MethodId) (x0 : Addr) (x1 : Int32) (x2 : Int32) (x3 : Int32) : entryFrame m #[(.ref x0), (.int x1), (.int x2), (.int x3)] 7 = mkF m 0 #[vR x0, vI x1, vI x2, vI x3, .unset, .unset, .unset] [] := by first | (simp [entryFrame, mkF, argsToLocals, Value.category]; done) | rfl
def dT78 : List DE := [(0, .iload_n 1, 1), (1, .invokestatic 164, 3), (4, .ifCond .eq 65, 3), (69, .iconst (-1), 1), (70, .ireturn, 1), (7, .iload_n 1, 1), (8, .invokestatic 157, 3), (11, .istore 4, 2), (13, .iload_n 1, 1), (14, .invokestatic 161, 3), (17, .istore 5, 2), (19, .iload_n 2, 1), (20, .iload_n 3, 1), (21, .aload_n 0, 1), (22, .invokestatic 96, 3), (25, .iload_n 2, 1), (26, .istore 6, 2), (28, .iload 6, 2), (30, .iload_n 3, 1), (31, .iconst 1, 1), (32, .isub, 1), (33, .if_icmp .ge 36, 3)]
theorem dP78 : DO dT78 kQ40 := by decide +kernel
theorem Wd368 : WT (.methodLink zZ1 164 ⟨zZ4, zZ42, "(I)Z"⟩) := wA 368 rfl
theorem Wd334 : WT (.code ⟨zZ4, zZ42, "(I)Z"⟩ kQ1 2 (Option.some FieldType.boolean)) := wA 334 rfl
theorem Wd333 : WT (.static ⟨zZ4, zZ42, "(I)Z"⟩) := wA 333 rfl
theorem Wd369 : WT (.methodLink zZ1 157 ⟨zZ4, zZ43, "(I)C"⟩) := wA 369 rfl
theorem Wd343 : WT (.code ⟨zZ4, zZ43, "(I)C"⟩ kQ7 1 (Option.some FieldType.char)) := wA 343 rfl
theorem Wd342 : WT (.static ⟨zZ4, zZ43, "(I)C"⟩) := wA 342 rfl
theorem pd19 : parseMethodDescriptor "(I)C" = some ⟨[.int], some .char⟩ := by decide +kernel
theorem Wd370 : WT (.methodLink zZ1 161 ⟨zZ4, zZ44, "(I)C"⟩) := wA 370 rfl
theorem Wd340 : WT (.code ⟨zZ4, zZ44, "(I)C"⟩ kQ6 1 (Option.some FieldType.char)) := wA 340 rfl
theorem Wd339 : WT (.static ⟨zZ4, zZ44, "(I)C"⟩) := wA 339 rfl
def dT77 : List DE := [(0, .iload_n 2, 1), (1, .iconst 0, 1), (2, .invokestatic 224, 3), (5, .istore_n 2, 1), (6, .iload_n 3, 1), (7, .aload_n 0, 1), (8, .arraylength, 1), (9, .iconst 1, 1), (10, .ishr, 1), (11, .invokestatic 183, 3), (14, .istore_n 3, 1), (15, .iload_n 2, 1), (16, .iload_n 3, 1), (17, .if_icmp .lt 5, 3), (22, .iload_n 1, 1), (23, .ldc 227, 2), (25, .if_icmp .ge 11, 3), (28, .aload_n 0, 1), (29, .iload_n 1, 1), (30, .iload_n 2, 1), (31, .iload_n 3, 1), (32, .invokestatic 228, 3), (35, .ireturn, 1), (36, .aload_n 0, 1), (37, .iload_n 1, 1), (38, .iload_n 2, 1), (39, .iload_n 3, 1), (40, .invokestatic 232, 3), (43, .ireturn, 1), (20, .iconst (-1), 1), (21, .ireturn, 1)]
theorem dP77 : DO dT77 kQ41 := by decide +kernel
theorem Wd362 : WT (.methodLink zZ1 224 ⟨zZ10, "max", "(II)I"⟩) := wA 362 rfl
theorem Wd363 : WT (.methodLink zZ1 183 ⟨zZ10, "min", "(II)I"⟩) := wA 363 rfl
theorem Wd364 : WT (.constant zZ1 227 (65536 : Int32)) := wA 364 rfl
theorem Wd383 : WT (.methodLink zZ1 228 ⟨zZ1, zZ18, "([BIII)I"⟩) := wA 383 rfl
theorem Wd385 : WT (.code ⟨zZ1, zZ18, "([BIII)I"⟩ kQ39 4 (Option.some FieldType.int)) := wA 385 rfl
theorem Wd384 : WT (.static ⟨zZ1, zZ18, "([BIII)I"⟩) := wA 384 rfl
theorem Wd365 : WT (.methodLink zZ1 232 ⟨zZ1, zZ55, "([BIII)I"⟩) := wA 365 rfl
theorem Wd367 : WT (.code ⟨zZ1, zZ55, "([BIII)I"⟩ kQ40 7 (Option.some FieldType.int)) := wA 367 rfl
theorem Wd366 : WT (.static ⟨zZ1, zZ55, "([BIII)I"⟩) := wA 366 rfl
theorem Wd359 : WT (.methodLink zZ0 640 ⟨zZ1, "indexOf", "([BIII)I"⟩) := wA 359 rfl
theorem Wd361 : WT (.code ⟨zZ1, "indexOf", "([BIII)I"⟩ kQ41 4 (Option.some FieldType.int)) := wA 361 rfl
theorem Wd360 : WT (.static ⟨zZ1, "indexOf", "([BIII)I"⟩) := wA 360 rfl
theorem ef16 (m : MethodId) (x0 : Int32) (x1 : Addr) : entryFrame m #[(.int x0), (.ref x1)] 3 = mkF m 0 #[vI x0, vR x1, .unset] [] := by first | (simp [entryFrame, mkF, argsToLocals, Value.category]; done) | rfl
theorem pn5 : plainName "com/example/triad/triad/rest/PercentEncoding" = true := by first | (simp [plainName, overriddenIn]; done) | decide +kernel
def dT16 : List DE := [(0, .iload_n 0, 1), (1, .bipush 97, 2), (3, .if_icmp .lt 9, 3), (12, .iload_n 0, 1), (13, .bipush 65, 2), (15, .if_icmp .lt 9, 3), (24, .iload_n 0, 1), (25, .bipush 48, 2), (27, .if_icmp .lt 13, 3), (40, .iconst 0, 1), (30, .iload_n 0, 1), (31, .bipush 57, 2), (33, .if_icmp .gt 7, 3), (36, .iconst 1, 1), (37, .goto 4, 3), (18, .iload_n 0, 1), (19, .bipush 90, 2), (21, .if_icmp .le 15, 3), (6, .iload_n 0, 1), (7, .bipush 122, 2), (9, .if_icmp .le 27, 3), (41, .istore_n 2, 1), (42, .iload_n 2, 1), (43, .ifCond .ne 20, 3), (46, .ldc 9, 2), (48, .iload_n 0, 1), (49, .invokevirtual 11, 3), (52, .ifCond .ge 11, 3), (55, .aload_n 1, 1), (56, .iload_n 0, 1), (57, .invokevirtual 11, 3), (60, .ifCond .lt 7, 3), (67, .iconst 0, 1), (68, .ireturn, 1), (63, .iconst 1, 1), (64, .goto 4, 3)]
theorem dP16 : DO dT16 kQ42 := by decide +kernel
theorem Wd86 : WT (.methodLink zZ6 11 ⟨zZ0, "indexOf", "(I)I"⟩) := wA 86 rfl
theorem Wd89 : WT (.selects zZ0 ⟨zZ0, "indexOf", "(I)I"⟩ ⟨zZ0, "indexOf", "(I)I"⟩) := wA 89 rfl
theorem Wd90 : WT (.code ⟨zZ0, "indexOf", "(I)I"⟩ kQ31 2 (Option.some FieldType.int)) := wA 90 rfl
theorem Wd87 : WT (.declares ⟨zZ0, "indexOf", "(I)I"⟩) := wA 87 rfl
theorem Wd88 : WT (.instanceMethod ⟨zZ0, "indexOf", "(I)I"⟩) := wA 88 rfl
theorem pd20 : parseMethodDescriptor "(I)I" = some ⟨[.int], some .int⟩ := by decide +kernel
def dT62 : List DE := [(0, .iload_n 0, 1), (1, .ifCond .ge 11, 3), (12, .iload_n 0, 1), (13, .ldc 20, 2), (15, .if_icmp .lt 40, 3), (55, .iload_n 0, 1), (56, .iconst 1, 1), (57, .ishl, 1), (58, .ireturn, 1)]
theorem dP62 : DO dT62 kQ43 := by decide +kernel
theorem Wd296 : WT (.constant zZ1 20 (1073741823 : Int32)) := wA 296 rfl
def dT61 : List DE := [(0, .iload_n 0, 1), (1, .invokestatic 11, 3), (4, .newarray .byte, 2), (6, .areturn, 1)]
theorem dP61 : DO dT61 kQ44 := by decide +kernel
theorem Wd293 : WT (.methodLink zZ1 11 ⟨zZ1, zZ56, "(I)I"⟩) := wA 293 rfl
theorem Wd295 : WT (.code ⟨zZ1, zZ56, "(I)I"⟩ kQ43 1 (Option.some FieldType.int)) := wA 295 rfl
theorem Wd294 : WT (.static ⟨zZ1, zZ56, "(I)I"⟩) := wA 294 rfl
theorem Wd19 : WT (.arrayClass FieldType.byte) := wA 19 rfl
theorem ef17 (m : MethodId) (x0 : Addr) (x1 : Int32) (x2 : Addr) (x3 : Int32) (x4 : Int32) : entryFrame m #[(.ref x0), (.int x1), (.ref x2), (.int x3), (.int x4)] 7 = mkF m 0 #[vR x0, vI x1, vR x2, vI x3, vI x4, .unset, .unset] [] := by first | (simp [entryFrame, mkF, argsToLocals, Value.category]; done) | rfl
def dT5 : List DE := [(0, .iconst 0, 1), (1, .istore 5, 2), (3, .iload 5, 2), (5, .iload 4, 2), (7, .if_icmp .ge 37, 3), (10, .aload_n 0, 1), (11, .iload_n 1, 1), (12, .caload, 1), (13, .istore 6, 2), (15, .iload 6, 2), (17, .sipush 255, 3), (20, .if_icmp .le 6, 3), (26, .aload_n 2, 1), (27, .iload_n 3, 1), (28, .iload 6, 2), (30, .i2b, 1), (31, .bastore, 1), (32, .iinc 1 1, 3), (35, .iinc 3 1, 3), (38, .iinc 5 1, 3), (41, .goto (-38), 3), (44, .iload 4, 2), (46, .ireturn, 1), (23, .iload 5, 2), (25, .ireturn, 1)]
theorem dP5 : DO dT5 kQ45 := by decide +kernel
theorem ef18 (m : MethodId) (x0 : Addr) (x1 : Int32) (x2 : Int32) : entryFrame m #[(.ref x0), (.int x1), (.int x2)] 5 = mkF m 0 #[vR x0, vI x1, vI x2, .unset, .unset] [] := by first | (simp [entryFrame, mkF, argsToLocals, Value.category]; done) | rfl
def dT63 : List DE := [(0, .iload_n 2, 1), (1, .invokestatic 107, 3), (4, .astore_n 3, 1), (5, .iconst 0, 1), (6, .istore 4, 2), (8, .iload 4, 2), (10, .iload_n 2, 1), (11, .if_icmp .ge 21, 3), (14, .aload_n 3, 1), (15, .iload 4, 2), (17, .aload_n 0, 1), (18, .iload_n 1, 1), (19, .caload, 1), (20, .invokestatic 111, 3), (23, .iinc 1 1, 3), (26, .iinc 4 1, 3), (29, .goto (-21), 3), (32, .aload_n 3, 1), (33, .areturn, 1)]
theorem dP63 : DO dT63 kQ46 := by decide +kernel
theorem Wd300 : WT (.methodLink zZ1 107 ⟨zZ1, zZ34, "(I)[B"⟩) := wA 300 rfl
theorem Wd292 : WT (.code ⟨zZ1, zZ34, "(I)[B"⟩ kQ44 1 (Option.some (FieldType.array FieldType.byte))) := wA 292 rfl
theorem Wd291 : WT (.static ⟨zZ1, zZ34, "(I)[B"⟩) := wA 291 rfl
theorem pd21 : parseMethodDescriptor "(I)[B" = some ⟨[.int], some (.array .byte)⟩ := by decide +kernel
theorem Wd301 : WT (.methodLink zZ1 111 ⟨zZ1, "putChar", "([BII)V"⟩) := wA 301 rfl
theorem Wd303 : WT (.code ⟨zZ1, "putChar", "([BII)V"⟩ kQ24 3 (Option.none : Option Jvm.ClassFile.FieldType)) := wA 303 rfl
theorem Wd302 : WT (.static ⟨zZ1, "putChar", "([BII)V"⟩) := wA 302 rfl
theorem pd22 : parseMethodDescriptor "([BII)V" = some ⟨[(.array .byte), .int, .int], none⟩ := by decide +kernel
def dT6 : List DE := [(0, .iload_n 1, 1), (1, .aload_n 0, 1), (2, .arraylength, 1), (3, .isub, 1), (4, .bipush 31, 2), (6, .iushr, 1), (7, .i2b, 1), (8, .ireturn, 1)]
theorem dP6 : DO dT6 kQ47 := by decide +kernel
theorem ef19 (m : MethodId) (x0 : Addr) (x1 : Int32) (x2 : Int32) : entryFrame m #[(.ref x0), (.int x1), (.int x2)] 6 = mkF m 0 #[vR x0, vI x1, vI x2, .unset, .unset, .unset] [] := by first | (simp [entryFrame, mkF, argsToLocals, Value.category]; done) | rfl
def dT4 : List DE := [(0, .iload_n 2, 1), (1, .newarray .byte, 2), (3, .astore_n 3, 1), (4, .aload_n 0, 1), (5, .iload_n 1, 1), (6, .aload_n 3, 1), (7, .iconst 0, 1), (8, .iload_n 2, 1), (9, .invokestatic 115, 3), (12, .istore 4, 2), (14, .iload 4, 2), (16, .iload_n 2, 1), (17, .if_icmp .eq 40, 3), (20, .aload_n 0, 1), (21, .iload_n 1, 1), (22, .iload_n 2, 1), (23, .invokestatic 119, 3), (26, .astore 5, 2), (28, .aload 5, 2), (30, .iload 4, 2), (32, .invokestatic 71, 3), (35, .sipush 255, 3), (38, .if_icmp .gt 16, 3), (54, .aload 5, 2), (56, .areturn, 1), (57, .aload_n 3, 1), (58, .areturn, 1)]
theorem dP4 : DO dT4 kQ48 := by decide +kernel
theorem Wd20 : WT (.methodLink zZ1 115 ⟨zZ1, "compress", zZ23⟩) := wA 20 rfl
theorem Wd22 : WT (.code ⟨zZ1, "compress", zZ23⟩ kQ45 7 (Option.some FieldType.int)) := wA 22 rfl
theorem Wd21 : WT (.static ⟨zZ1, "compress", zZ23⟩) := wA 21 rfl
theorem pd23 : parseMethodDescriptor "([CI[BII)I" = some ⟨[(.array .char), .int, (.array .byte), .int, .int], some .int⟩ := by decide +kernel
theorem Wd297 : WT (.methodLink zZ1 119 ⟨zZ1, "toBytes", "([CII)[B"⟩) := wA 297 rfl
theorem Wd299 : WT (.code ⟨zZ1, "toBytes", "([CII)[B"⟩ kQ46 5 (Option.some (FieldType.array FieldType.byte))) := wA 299 rfl
theorem Wd298 : WT (.static ⟨zZ1, "toBytes", "([CII)[B"⟩) := wA 298 rfl
theorem pd24 : parseMethodDescriptor "([CII)[B" = some ⟨[(.array .char), .int, .int], some (.array .byte)⟩ := by decide +kernel
theorem ef20 (m : MethodId) (x0 : Addr) (x1 : Addr) (x2 : Int32) (x3 : Int32) : entryFrame m #[(.ref x0), (.ref x1), (.int x2), (.int x3), .null] 6 = mkF m 0 #[vR x0, vR x1, vI x2, vI x3, .val .null, .unset] [] := by first | (simp [entryFrame, mkF, argsToLocals, Value.category]; done) | rfl
def dT2 : List DE := [(0, .aload_n 0, 1), (1, .invokespecial 1, 3), (4, .iload_n 3, 1), (5, .ifCond .ne 22, 3), (27, .getstatic 38, 3), (30, .ifCond .eq 28, 3), (33, .aload_n 1, 1), (34, .iload_n 2, 1), (35, .iload_n 3, 1), (36, .invokestatic 177, 3), (39, .astore 5, 2), (41, .aload_n 0, 1), (42, .aload 5, 2), (44, .iload_n 3, 1), (45, .invokestatic 47, 3), (48, .putfield 15, 3), (51, .aload_n 0, 1), (52, .aload 5, 2), (54, .putfield 9, 3), (57, .return_, 1), (8, .aload_n 0, 1), (9, .ldc 7, 2), (11, .getfield 9, 3), (14, .putfield 9, 3), (17, .aload_n 0, 1), (18, .ldc 7, 2), (20, .getfield 15, 3), (23, .putfield 15, 3), (26, .return_, 1)]
theorem dP2 : DO dT2 kQ49 := by decide +kernel
theorem Wd11 : WT (.methodLink zZ0 1 ⟨zZ24, "<init>", "()V"⟩) := wA 11 rfl
theorem Wd12 : WT (.instanceMethod ⟨zZ24, "<init>", "()V"⟩) := wA 12 rfl
theorem Wd13 : WT (.code ⟨zZ24, "<init>", "()V"⟩ object_method_1_code 1 (Option.none : Option Jvm.ClassFile.FieldType)) := wA 13 rfl
theorem Wd15 : WT (.methodLink zZ0 177 ⟨zZ1, "compress", "([CII)[B"⟩) := wA 15 rfl
theorem Wd18 : WT (.code ⟨zZ1, "compress", "([CII)[B"⟩ kQ48 6 (Option.some (FieldType.array FieldType.byte))) := wA 18 rfl
theorem Wd16 : WT (.static ⟨zZ1, "compress", "([CII)[B"⟩) := wA 16 rfl
theorem Wd23 : WT (.methodLink zZ0 47 ⟨zZ1, zZ57, "([BI)B"⟩) := wA 23 rfl
theorem Wd25 : WT (.code ⟨zZ1, zZ57, "([BI)B"⟩ kQ47 2 (Option.some FieldType.byte)) := wA 25 rfl
theorem Wd24 : WT (.static ⟨zZ1, zZ57, "([BI)B"⟩) := wA 24 rfl
theorem pd25 : parseMethodDescriptor "([BI)B" = some ⟨[(.array .byte), .int], some .byte⟩ := by decide +kernel
theorem Wd27 : WT (.laysFinal zZ0 zZ0 "coder" "B") := wA 27 rfl
theorem Wd2 : WT (.instantiable zZ0 4) := wA 2 rfl
theorem Wd29 : WT (.laysFinal zZ0 zZ0 "value" "[B") := wA 29 rfl
theorem ef21 (m : MethodId) (x0 : Addr) (x1 : Addr) : entryFrame m #[(.ref x0), (.ref x1)] 2 = mkF m 0 #[vR x0, vR x1] [] := by first | (simp [entryFrame, mkF, argsToLocals, Value.category]; done) | rfl
def dT1 : List DE := [(0, .aload_n 0, 1), (1, .aload_n 1, 1), (2, .iconst 0, 1), (3, .aload_n 1, 1), (4, .arraylength, 1), (5, .aconst_null, 1), (6, .invokespecial 27, 3), (9, .return_, 1)]
theorem dP1 : DO dT1 kQ50 := by decide +kernel
theorem Wd7 : WT (.methodLink zZ0 27 ⟨zZ0, "<init>", zZ25⟩) := wA 7 rfl
theorem Wd10 : WT (.code ⟨zZ0, "<init>", zZ25⟩ kQ49 6 (Option.none : Option Jvm.ClassFile.FieldType)) := wA 10 rfl
theorem Wd8 : WT (.instanceMethod ⟨zZ0, "<init>", zZ25⟩) := wA 8 rfl
theorem pd26 : parseMethodDescriptor "([CIILjava/lang/Void;)V" = some ⟨[(.array .char), .int, .int, (.object "java/lang/Void")], none⟩ := by decide +kernel
theorem ef22 (m : MethodId) (x0 : Int32) (x1 : Addr) (x2 : Int32) : entryFrame m #[(.int x0), (.ref x1), (.int x2)] 3 = mkF m 0 #[vI x0, vR x1, vI x2] [] := by first | (simp [entryFrame, mkF, argsToLocals, Value.category]; done) | rfl
def dT72 : List DE := [(0, .aload_n 1, 1), (1, .iload_n 2, 1), (2, .iconst 1, 1), (3, .iadd, 1), (4, .iload_n 0, 1), (5, .invokestatic 133, 3), (8, .castore, 1), (9, .aload_n 1, 1), (10, .iload_n 2, 1), (11, .iload_n 0, 1), (12, .invokestatic 136, 3), (15, .castore, 1), (16, .return_, 1)]
theorem dP72 : DO dT72 kQ51 := by decide +kernel
theorem Wd338 : WT (.methodLink zZ4 133 ⟨zZ4, zZ44, "(I)C"⟩) := wA 338 rfl
theorem Wd341 : WT (.methodLink zZ4 136 ⟨zZ4, zZ43, "(I)C"⟩) := wA 341 rfl
def dT25 : List DE := [(0, .iload_n 0, 1), (1, .invokestatic 111, 3), (4, .ifCond .eq 12, 3), (7, .iconst 1, 1), (8, .newarray .char, 2), (10, .dup, 1), (11, .iconst 0, 1), (12, .iload_n 0, 1), (13, .i2c, 1), (14, .castore, 1), (15, .areturn, 1), (16, .iload_n 0, 1), (17, .invokestatic 115, 3), (20, .ifCond .eq 15, 3), (23, .iconst 2, 1), (24, .newarray .char, 2), (26, .astore_n 1, 1), (27, .iload_n 0, 1), (28, .aload_n 1, 1), (29, .iconst 0, 1), (30, .invokestatic 118, 3), (33, .aload_n 1, 1), (34, .areturn, 1)]
theorem dP25 : DO dT25 kQ52 := by decide +kernel
theorem Wd122 : WT (.methodLink zZ4 111 ⟨zZ4, zZ45, "(I)Z"⟩) := wA 122 rfl
theorem Wd124 : WT (.code ⟨zZ4, zZ45, "(I)Z"⟩ kQ0 1 (Option.some FieldType.boolean)) := wA 124 rfl
theorem Wd123 : WT (.static ⟨zZ4, zZ45, "(I)Z"⟩) := wA 123 rfl
theorem Wd0 : WT (.arrayClass FieldType.char) := wA 0 rfl
theorem Wd332 : WT (.methodLink zZ4 115 ⟨zZ4, zZ42, "(I)Z"⟩) := wA 332 rfl
theorem Wd335 : WT (.methodLink zZ4 118 ⟨zZ4, "toSurrogates", "(I[CI)V"⟩) := wA 335 rfl
theorem Wd337 : WT (.code ⟨zZ4, "toSurrogates", "(I[CI)V"⟩ kQ51 3 (Option.none : Option Jvm.ClassFile.FieldType)) := wA 337 rfl
theorem Wd336 : WT (.static ⟨zZ4, "toSurrogates", "(I[CI)V"⟩) := wA 336 rfl
theorem pd27 : parseMethodDescriptor "(I[CI)V" = some ⟨[.int, (.array .char), .int], none⟩ := by decide +kernel
theorem pn6 : plainName "java/util/Arrays" = true := by first | (simp [plainName, overriddenIn]; done) | decide +kernel
def dT39 : List DE := [(0, .iload_n 1, 1), (1, .aload_n 0, 1), (2, .arraylength, 1), (3, .if_icmp .ne 11, 3), (14, .iload_n 1, 1), (15, .newarray .byte, 2), (17, .astore_n 2, 1), (18, .aload_n 0, 1), (19, .iconst 0, 1), (20, .aload_n 2, 1), (21, .iconst 0, 1), (22, .aload_n 0, 1), (23, .arraylength, 1), (24, .iload_n 1, 1), (25, .invokestatic 304, 3), (28, .invokestatic 150, 3), (31, .aload_n 2, 1), (32, .areturn, 1)]
theorem dP39 : DO dT39 kQ53 := by decide +kernel
theorem Wd200 : WT (.methodLink zZ8 304 ⟨zZ10, "min", "(II)I"⟩) := wA 200 rfl
theorem Wd201 : WT (.methodLink zZ8 150 ⟨zZ58, "arraycopy", zZ67⟩) := wA 201 rfl
theorem Wd204 : WT (.native ⟨zZ58, "arraycopy", zZ67⟩) := wA 204 rfl
theorem Wd202 : WT (.static ⟨zZ58, "arraycopy", zZ67⟩) := wA 202 rfl
theorem Wd203 : WT (.initialized zZ58) := wA 203 rfl
theorem pn7 : plainName "java/lang/StringCoding" = true := by first | (simp [plainName, overriddenIn]; done) | decide +kernel
def dT31 : List DE := [(0, .iload_n 1, 1), (1, .iload_n 2, 1), (2, .iadd, 1), (3, .istore_n 3, 1), (4, .iload_n 1, 1), (5, .istore 4, 2), (7, .iload 4, 2), (9, .iload_n 3, 1), (10, .if_icmp .ge 21, 3), (13, .aload_n 0, 1), (14, .iload 4, 2), (16, .baload, 1), (17, .ifCond .ge 8, 3), (20, .iload 4, 2), (22, .iload_n 1, 1), (23, .isub, 1), (24, .ireturn, 1), (25, .iinc 4 1, 3), (28, .goto (-21), 3), (31, .iload_n 2, 1), (32, .ireturn, 1)]
theorem dP31 : DO dT31 kQ54 := by decide +kernel
def dT30 : List DE := [(0, .aload_n 0, 1), (1, .iload_n 1, 1), (2, .iload_n 2, 1), (3, .invokestatic 7, 3), (6, .iload_n 2, 1), (7, .if_icmp .eq 7, 3), (10, .iconst 1, 1), (11, .goto 4, 3), (15, .ireturn, 1), (14, .iconst 0, 1)]
theorem dP30 : DO dT30 kQ55 := by decide +kernel
theorem Wd145 : WT (.methodLink zZ14 7 ⟨zZ14, zZ46, "([BII)I"⟩) := wA 145 rfl
theorem Wd147 : WT (.code ⟨zZ14, zZ46, "([BII)I"⟩ kQ54 5 (Option.some FieldType.int)) := wA 147 rfl
theorem Wd143 : WT (.initialized zZ14) := wA 143 rfl
theorem Wd146 : WT (.static ⟨zZ14, zZ46, "([BII)I"⟩) := wA 146 rfl
theorem ef23 (m : MethodId) (x0 : Addr) (x1 : Int32) : entryFrame m #[(.ref x0), (.int x1)] 9 = mkF m 0 #[vR x0, vI x1, .unset, .unset, .unset, .unset, .unset, .unset, .unset] [] := by first | (simp [entryFrame, mkF, argsToLocals, Value.category]; done) | rfl
def dT75 : List DE := [(0, .iconst 0, 1), (1, .istore_n 2, 1), (2, .iconst 0, 1), (3, .istore_n 3, 1), (4, .aload_n 0, 1), (5, .arraylength, 1), (6, .iconst 1, 1), (7, .ishr, 1), (8, .istore 4, 2), (10, .iload 4, 2), (12, .iconst 3, 1), (13, .imul, 1), (14, .newarray .byte, 2), (16, .astore 5, 2), (18, .iload_n 3, 1), (19, .iload 4, 2), (21, .if_icmp .ge 37, 3), (24, .aload_n 0, 1), (25, .iload_n 3, 1), (26, .invokestatic 360, 3), (29, .istore 6, 2), (31, .iload 6, 2), (33, .sipush 128, 3), (36, .if_icmp .lt 6, 3), (42, .aload 5, 2), (44, .iload_n 2, 1), (45, .iinc 2 1, 3), (48, .iload 6, 2), (50, .i2b, 1), (51, .bastore, 1), (52, .iinc 3 1, 3), (55, .goto (-37), 3), (58, .iload_n 3, 1), (59, .iload 4, 2), (61, .if_icmp .ge 294, 3), (355, .iload_n 2, 1), (356, .aload 5, 2), (358, .arraylength, 1), (359, .if_icmp .ne 6, 3), (365, .aload 5, 2), (367, .iload_n 2, 1), (368, .invokestatic 102, 3), (371, .areturn, 1), (39, .goto 19, 3), (64, .aload_n 0, 1), (65, .iload_n 3, 1), (66, .iinc 3 1, 3), (69, .invokestatic 360, 3), (72, .istore 6, 2), (74, .iload 6, 2), (76, .sipush 128, 3), (79, .if_icmp .ge 16, 3), (95, .iload 6, 2), (97, .sipush 2048, 3), (100, .if_icmp .ge 40, 3), (103, .aload 5, 2), (105, .iload_n 2, 1), (106, .iinc 2 1, 3), (109, .sipush 192, 3), (112, .iload 6, 2), (114, .bipush 6, 2), (116, .ishr, 1), (117, .ior, 1), (118, .i2b, 1), (119, .bastore, 1), (120, .aload 5, 2), (122, .iload_n 2, 1), (123, .iinc 2 1, 3), (126, .sipush 128, 3), (129, .iload 6, 2), (131, .bipush 63, 2), (133, .iand, 1), (134, .ior, 1), (135, .i2b, 1), (136, .bastore, 1), (137, .goto 215, 3), (352, .goto (-294), 3), (140, .iload 6, 2), (142, .invokestatic 404, 3), (145, .ifCond .eq 153, 3), (298, .aload 5, 2), (300, .iload_n 2, 1), (301, .iinc 2 1, 3), (304, .sipush 224, 3), (307, .iload 6, 2), (309, .bipush 12, 2), (311, .ishr, 1), (312, .ior, 1), (313, .i2b, 1), (314, .bastore, 1), (315, .aload 5, 2), (317, .iload_n 2, 1), (318, .iinc 2 1, 3), (321, .sipush 128, 3), (324, .iload 6, 2), (326, .bipush 6, 2), (328, .ishr, 1), (329, .bipush 63, 2), (331, .iand, 1), (332, .ior, 1), (333, .i2b, 1), (334, .bastore, 1), (335, .aload 5, 2), (337, .iload_n 2, 1), (338, .iinc 2 1, 3), (341, .sipush 128, 3), (344, .iload 6, 2), (346, .bipush 63, 2), (348, .iand, 1), (349, .ior, 1), (350, .i2b, 1), (351, .bastore, 1), (362, .aload 5, 2), (364, .areturn, 1), (148, .iconst (-1), 1), (149, .istore 7, 2), (151, .iload 6, 2), (153, .invokestatic 364, 3), (156, .ifCond .eq 32, 3), (188, .iload 7, 2), (190, .ifCond .ge 28, 3), (193, .iload_n 1, 1), (194, .ifCond .eq 15, 3), (197, .aload 5, 2), (199, .iload_n 2, 1), (200, .iinc 2 1, 3), (203, .bipush 63, 2), (205, .bastore, 1), (206, .goto 89, 3), (295, .goto 57, 3), (159, .iload_n 3, 1), (160, .iload 4, 2), (162, .if_icmp .ge 26, 3), (165, .aload_n 0, 1), (166, .iload_n 3, 1), (167, .invokestatic 360, 3), (170, .dup, 1), (171, .istore 8, 2), (173, .invokestatic 370, 3), (176, .ifCond .eq 12, 3), (179, .iload 6, 2), (181, .iload 8, 2), (183, .invokestatic 477, 3), (186, .istore 7, 2), (218, .aload 5, 2), (220, .iload_n 2, 1), (221, .iinc 2 1, 3), (224, .sipush 240, 3), (227, .iload 7, 2), (229, .bipush 18, 2), (231, .ishr, 1), (232, .ior, 1), (233, .i2b, 1), (234, .bastore, 1), (235, .aload 5, 2), (237, .iload_n 2, 1), (238, .iinc 2 1, 3), (241, .sipush 128, 3), (244, .iload 7, 2), (246, .bipush 12, 2), (248, .ishr, 1), (249, .bipush 63, 2), (251, .iand, 1), (252, .ior, 1), (253, .i2b, 1), (254, .bastore, 1), (255, .aload 5, 2), (257, .iload_n 2, 1), (258, .iinc 2 1, 3), (261, .sipush 128, 3), (264, .iload 7, 2), (266, .bipush 6, 2), (268, .ishr, 1), (269, .bipush 63, 2), (271, .iand, 1), (272, .ior, 1), (273, .i2b, 1), (274, .bastore, 1), (275, .aload 5, 2), (277, .iload_n 2, 1), (278, .iinc 2 1, 3), (281, .sipush 128, 3), (284, .iload 7, 2), (286, .bipush 63, 2), (288, .iand, 1), (289, .ior, 1), (290, .i2b, 1), (291, .bastore, 1), (292, .iinc 3 1, 3)]
theorem dP75 : DO dT75 kQ56 := by decide +kernel
theorem Wd348 : WT (.methodLink zZ0 360 ⟨zZ1, "getChar", "([BI)C"⟩) := wA 348 rfl
theorem Wd355 : WT (.methodLink zZ0 102 ⟨zZ8, "copyOf", "([BI)[B"⟩) := wA 355 rfl
theorem Wd199 : WT (.code ⟨zZ8, "copyOf", "([BI)[B"⟩ kQ53 3 (Option.some (FieldType.array FieldType.byte))) := wA 199 rfl
theorem Wd198 : WT (.initialized zZ8) := wA 198 rfl
theorem Wd197 : WT (.static ⟨zZ8, "copyOf", "([BI)[B"⟩) := wA 197 rfl
theorem pd28 : parseMethodDescriptor "([BI)[B" = some ⟨[(.array .byte), .int], some (.array .byte)⟩ := by decide +kernel
theorem Wd349 : WT (.methodLink zZ0 404 ⟨zZ4, "isSurrogate", "(C)Z"⟩) := wA 349 rfl
theorem Wd351 : WT (.code ⟨zZ4, "isSurrogate", "(C)Z"⟩ kQ4 1 (Option.some FieldType.boolean)) := wA 351 rfl
theorem Wd350 : WT (.static ⟨zZ4, "isSurrogate", "(C)Z"⟩) := wA 350 rfl
theorem Wd352 : WT (.methodLink zZ0 364 ⟨zZ4, zZ39, "(C)Z"⟩) := wA 352 rfl
theorem Wd353 : WT (.methodLink zZ0 370 ⟨zZ4, zZ40, "(C)Z"⟩) := wA 353 rfl
theorem Wd354 : WT (.methodLink zZ0 477 ⟨zZ4, zZ41, "(CC)I"⟩) := wA 354 rfl
theorem ef24 (m : MethodId) (x0 : Int32) (x1 : Addr) (x2 : Int32) : entryFrame m #[(.int x0), (.ref x1), (.int x2)] 9 = mkF m 0 #[vI x0, vR x1, vI x2, .unset, .unset, .unset, .unset, .unset, .unset] [] := by first | (simp [entryFrame, mkF, argsToLocals, Value.category]; done) | rfl
def dT29 : List DE := [(0, .iload_n 0, 1), (1, .iconst 1, 1), (2, .if_icmp .ne 9, 3), (11, .aload_n 1, 1), (12, .iconst 0, 1), (13, .aload_n 1, 1), (14, .arraylength, 1), (15, .invokestatic 128, 3), (18, .ifCond .ne 11, 3), (29, .iconst 0, 1), (30, .istore_n 3, 1), (31, .aload_n 1, 1), (32, .arraylength, 1), (33, .invokestatic 60, 3), (36, .astore 4, 2), (38, .aload_n 1, 1), (39, .astore 5, 2), (41, .aload 5, 2), (43, .arraylength, 1), (44, .istore 6, 2), (46, .iconst 0, 1), (47, .istore 7, 2), (49, .iload 7, 2), (51, .iload 6, 2), (53, .if_icmp .ge 71, 3), (56, .aload 5, 2), (58, .iload 7, 2), (60, .baload, 1), (61, .istore 8, 2), (63, .iload 8, 2), (65, .ifCond .ge 44, 3), (68, .aload 4, 2), (70, .iload_n 3, 1), (71, .iinc 3 1, 3), (74, .sipush 192, 3), (77, .iload 8, 2), (79, .sipush 255, 3), (82, .iand, 1), (83, .bipush 6, 2), (85, .ishr, 1), (86, .ior, 1), (87, .i2b, 1), (88, .bastore, 1), (89, .aload 4, 2), (91, .iload_n 3, 1), (92, .iinc 3 1, 3), (95, .sipush 128, 3), (98, .iload 8, 2), (100, .bipush 63, 2), (102, .iand, 1), (103, .ior, 1), (104, .i2b, 1), (105, .bastore, 1), (106, .goto 12, 3), (118, .iinc 7 1, 3), (121, .goto (-72), 3), (124, .iload_n 3, 1), (125, .aload 4, 2), (127, .arraylength, 1), (128, .if_icmp .ne 6, 3), (131, .aload 4, 2), (133, .areturn, 1), (21, .aload_n 1, 1), (22, .invokevirtual 279, 3), (25, .checkcast 280, 3), (28, .areturn, 1), (5, .aload_n 1, 1), (6, .iload_n 2, 1), (7, .invokestatic 473, 3), (10, .areturn, 1)]
theorem dP29 : DO dT29 kQ57 := by decide +kernel
theorem Wd141 : WT (.methodLink zZ0 128 ⟨zZ14, zZ47, "([BII)Z"⟩) := wA 141 rfl
theorem Wd144 : WT (.code ⟨zZ14, zZ47, "([BII)Z"⟩ kQ55 3 (Option.some FieldType.boolean)) := wA 144 rfl
theorem Wd142 : WT (.static ⟨zZ14, zZ47, "([BII)Z"⟩) := wA 142 rfl
theorem pd29 : parseMethodDescriptor "([BII)Z" = some ⟨[(.array .byte), .int, .int], some .boolean⟩ := by decide +kernel
theorem Wd290 : WT (.methodLink zZ0 60 ⟨zZ1, zZ34, "(I)[B"⟩) := wA 290 rfl
theorem Wd148 : WT (.methodLink zZ0 279 ⟨"[B", "clone", zZ29⟩) := wA 148 rfl
theorem Wd149 : WT (.sameMethod "[B" zZ24 "clone" zZ29) := wA 149 rfl
theorem Wd153 : WT (.native ⟨zZ24, "clone", zZ29⟩) := wA 153 rfl
theorem Wd151 : WT (.instanceMethod ⟨zZ24, "clone", zZ29⟩) := wA 151 rfl
theorem Wd152 : WT (.selects "[B" ⟨"[B", "clone", zZ29⟩ ⟨zZ24, "clone", zZ29⟩) := wA 152 rfl
theorem Wd154 : WT (.castable "[B" "java/lang/Cloneable") := wA 154 rfl
theorem Wd155 : WT (.classLink zZ0 280 "[B") := wA 155 rfl
theorem Wd345 : WT (.methodLink zZ0 473 ⟨zZ0, zZ48, "([BZ)[B"⟩) := wA 345 rfl
theorem Wd347 : WT (.code ⟨zZ0, zZ48, "([BZ)[B"⟩ kQ56 9 (Option.some (FieldType.array FieldType.byte))) := wA 347 rfl
theorem Wd346 : WT (.static ⟨zZ0, zZ48, "([BZ)[B"⟩) := wA 346 rfl
theorem pd30 : parseMethodDescriptor "([BZ)[B" = some ⟨[(.array .byte), .boolean], some (.array .byte)⟩ := by decide +kernel
theorem ef25 (m : MethodId) (x0 : Addr) (x1 : Int32) (x2 : Addr) : entryFrame m #[(.ref x0), (.int x1), (.ref x2)] 3 = mkF m 0 #[vR x0, vI x1, vR x2] [] := by first | (simp [entryFrame, mkF, argsToLocals, Value.category]; done) | rfl
def dT28 : List DE := [(0, .aload_n 0, 1), (1, .getstatic 86, 3), (4, .if_acmp .ne 10, 3), (7, .iload_n 1, 1), (8, .aload_n 2, 1), (9, .iconst 1, 1), (10, .invokestatic 252, 3), (13, .areturn, 1)]
theorem dP28 : DO dT28 kQ58 := by decide +kernel
theorem Wd136 : WT (.fieldLink zZ0 86 "sun/nio/cs/UTF_8" "INSTANCE" "Lsun/nio/cs/UTF_8;") := wA 136 rfl
theorem Wd138 : WT (.methodLink zZ0 252 ⟨zZ0, zZ35, "(B[BZ)[B"⟩) := wA 138 rfl
theorem Wd140 : WT (.code ⟨zZ0, zZ35, "(B[BZ)[B"⟩ kQ57 9 (Option.some (FieldType.array FieldType.byte))) := wA 140 rfl
theorem Wd139 : WT (.static ⟨zZ0, zZ35, "(B[BZ)[B"⟩) := wA 139 rfl
theorem pd31 : parseMethodDescriptor "(B[BZ)[B" = some ⟨[.byte, (.array .byte), .boolean], some (.array .byte)⟩ := by decide +kernel
def dT27 : List DE := [(0, .aload_n 1, 1), (1, .ifnonnull 11, 3), (12, .aload_n 1, 1), (13, .aload_n 0, 1), (14, .invokevirtual 335, 3), (17, .aload_n 0, 1), (18, .getfield 9, 3), (21, .invokestatic 535, 3), (24, .areturn, 1)]
theorem dP27 : DO dT27 kQ59 := by decide +kernel
theorem Wd133 : WT (.methodLink zZ0 535 ⟨zZ0, "encode", zZ36⟩) := wA 133 rfl
theorem Wd135 : WT (.code ⟨zZ0, "encode", zZ36⟩ kQ58 3 (Option.some (FieldType.array FieldType.byte))) := wA 135 rfl
theorem Wd134 : WT (.static ⟨zZ0, "encode", zZ36⟩) := wA 134 rfl
theorem pd32 : parseMethodDescriptor "(Ljava/nio/charset/Charset;B[B)[B" = some ⟨[(.object "java/nio/charset/Charset"), .byte, (.array .byte)], some (.array .byte)⟩ := by decide +kernel
theorem pn8 : plainName "java/lang/AbstractStringBuilder" = true := by first | (simp [plainName, overriddenIn]; done) | decide +kernel
def dT35 : List DE := [(0, .getstatic 18, 3), (3, .ifCond .eq 14, 3), (6, .aload_n 0, 1), (7, .getfield 22, 3), (10, .ifCond .ne 7, 3), (13, .iconst 1, 1), (14, .goto 4, 3), (18, .ireturn, 1), (17, .iconst 0, 1)]
theorem dP35 : DO dT35 kQ60 := by decide +kernel
theorem Wd57 : WT (.fieldLink zZ2 18 zZ0 zZ17 "Z") := wA 57 rfl
theorem Wd60 : WT (.fieldLink zZ2 22 zZ2 "coder" "B") := wA 60 rfl
theorem ef26 (m : MethodId) (x0 : Int32) (x1 : Int32) (x2 : Int32) : entryFrame m #[(.int x0), (.int x1), (.int x2)] 4 = mkF m 0 #[vI x0, vI x1, vI x2, .unset] [] := by first | (simp [entryFrame, mkF, argsToLocals, Value.category]; done) | rfl
theorem pn9 : plainName "jdk/internal/util/ArraysSupport" = true := by first | (simp [plainName, overriddenIn]; done) | decide +kernel
def dT38 : List DE := [(0, .iload_n 0, 1), (1, .iload_n 1, 1), (2, .iload_n 2, 1), (3, .invokestatic 194, 3), (6, .iadd, 1), (7, .istore_n 3, 1), (8, .iconst 0, 1), (9, .iload_n 3, 1), (10, .if_icmp .ge 11, 3), (13, .iload_n 3, 1), (14, .ldc 200, 2), (16, .if_icmp .gt 5, 3), (19, .iload_n 3, 1), (20, .ireturn, 1)]
theorem dP38 : DO dT38 kQ61 := by decide +kernel
theorem Wd193 : WT (.methodLink zZ30 194 ⟨zZ10, "max", "(II)I"⟩) := wA 193 rfl
theorem Wd194 : WT (.constant zZ30 200 (2147483639 : Int32)) := wA 194 rfl
theorem ef27 (m : MethodId) (x0 : Addr) (x1 : Int32) : entryFrame m #[(.ref x0), (.int x1)] 6 = mkF m 0 #[vR x0, vI x1, .unset, .unset, .unset, .unset] [] := by first | (simp [entryFrame, mkF, argsToLocals, Value.category]; done) | rfl
def dT37 : List DE := [(0, .aload_n 0, 1), (1, .getfield 15, 3), (4, .arraylength, 1), (5, .istore_n 2, 1), (6, .iload_n 1, 1), (7, .aload_n 0, 1), (8, .getfield 22, 3), (11, .ishl, 1), (12, .istore_n 3, 1), (13, .iload_n 3, 1), (14, .iload_n 2, 1), (15, .isub, 1), (16, .istore 4, 2), (18, .iload_n 2, 1), (19, .iload 4, 2), (21, .iload_n 2, 1), (22, .iconst 2, 1), (23, .aload_n 0, 1), (24, .getfield 22, 3), (27, .ishl, 1), (28, .iadd, 1), (29, .invokestatic 114, 3), (32, .istore 5, 2), (34, .iload 5, 2), (36, .ldc 39, 2), (38, .if_icmp .ne 13, 3), (51, .iload 5, 2), (53, .aload_n 0, 1), (54, .getfield 22, 3), (57, .ishr, 1), (58, .ireturn, 1)]
theorem dP37 : DO dT37 kQ62 := by decide +kernel
theorem Wd58 : WT (.fieldLink zZ2 15 zZ2 "value" "[B") := wA 58 rfl
theorem Wd189 : WT (.methodLink zZ2 114 ⟨zZ30, "newLength", "(III)I"⟩) := wA 189 rfl
theorem Wd192 : WT (.code ⟨zZ30, "newLength", "(III)I"⟩ kQ61 4 (Option.some FieldType.int)) := wA 192 rfl
theorem Wd191 : WT (.initialized zZ30) := wA 191 rfl
theorem Wd190 : WT (.static ⟨zZ30, "newLength", "(III)I"⟩) := wA 190 rfl
theorem Wd195 : WT (.constant zZ2 39 (2147483647 : Int32)) := wA 195 rfl
def dT34 : List DE := [(0, .aload_n 0, 1), (1, .getfield 15, 3), (4, .arraylength, 1), (5, .aload_n 0, 1), (6, .getfield 22, 3), (9, .ishr, 1), (10, .istore_n 2, 1), (11, .iload_n 1, 1), (12, .iload_n 2, 1), (13, .isub, 1), (14, .ifCond .le 24, 3), (17, .aload_n 0, 1), (18, .aload_n 0, 1), (19, .getfield 15, 3), (22, .aload_n 0, 1), (23, .iload_n 1, 1), (24, .invokevirtual 104, 3), (27, .aload_n 0, 1), (28, .getfield 22, 3), (31, .ishl, 1), (32, .invokestatic 108, 3), (35, .putfield 15, 3), (38, .return_, 1)]
theorem dP34 : DO dT34 kQ63 := by decide +kernel
theorem Wd184 : WT (.methodLink zZ2 104 ⟨zZ2, zZ26, "(I)I"⟩) := wA 184 rfl
theorem Wd188 : WT (.code ⟨zZ2, zZ26, "(I)I"⟩ kQ62 6 (Option.some FieldType.int)) := wA 188 rfl
theorem Wd54 : WT (.initialized zZ2) := wA 54 rfl
theorem Wd185 : WT (.instanceMethod ⟨zZ2, zZ26, "(I)I"⟩) := wA 185 rfl
theorem Wd172 : WT (.selects zZ3 ⟨zZ2, zZ15, "(I)V"⟩ ⟨zZ2, zZ15, "(I)V"⟩) := wA 172 rfl
theorem Wd170 : WT (.instanceMethod ⟨zZ2, zZ15, "(I)V"⟩) := wA 170 rfl
theorem Wd186 : WT (.privateMethod ⟨zZ2, zZ26, "(I)I"⟩) := wA 186 rfl
theorem Wd196 : WT (.methodLink zZ2 108 ⟨zZ8, "copyOf", "([BI)[B"⟩) := wA 196 rfl
theorem Wd59 : WT (.lays zZ3 zZ2 "value" "[B") := wA 59 rfl
theorem Wd35 : WT (.instantiable zZ3 4) := wA 35 rfl
theorem Wd168 : WT (.lays zZ3 zZ2 "count" "I") := wA 168 rfl
theorem Wd61 : WT (.lays zZ3 zZ2 "coder" "B") := wA 61 rfl
theorem Wd418 : WT (.lays zZ3 zZ2 zZ33 "Z") := wA 418 rfl
def dT91 : List DE := [(0, .iload_n 1, 1), (1, .aload_n 0, 1), (2, .invokestatic 67, 3), (5, .aload_n 0, 1), (6, .iload_n 1, 1), (7, .iload_n 2, 1), (8, .invokestatic 111, 3), (11, .return_, 1)]
theorem dP91 : DO dT91 kQ64 := by decide +kernel
theorem ef28 (m : MethodId) (x0 : Addr) (x1 : Int32) (x2 : Addr) (x3 : Int32) (x4 : Int32) : entryFrame m #[(.ref x0), (.int x1), (.ref x2), (.int x3), (.int x4)] 6 = mkF m 0 #[vR x0, vI x1, vR x2, vI x3, vI x4, .unset] [] := by first | (simp [entryFrame, mkF, argsToLocals, Value.category]; done) | rfl
def dT87 : List DE := [(0, .iload_n 3, 1), (1, .iload 4, 2), (3, .aload_n 2, 1), (4, .invokestatic 173, 3), (7, .iconst 0, 1), (8, .istore 5, 2), (10, .iload 5, 2), (12, .iload 4, 2), (14, .if_icmp .ge 27, 3), (41, .return_, 1), (17, .aload_n 2, 1), (18, .iload_n 3, 1), (19, .iinc 3 1, 3), (22, .aload_n 0, 1), (23, .iload_n 1, 1), (24, .iinc 1 1, 3), (27, .baload, 1), (28, .sipush 255, 3), (31, .iand, 1), (32, .invokestatic 111, 3), (35, .iinc 5 1, 3), (38, .goto (-28), 3)]
theorem dP87 : DO dT87 kQ65 := by decide +kernel
theorem Wd401 : WT (.methodLink zZ1 173 ⟨zZ1, zZ22, "(II[B)V"⟩) := wA 401 rfl
theorem Wd403 : WT (.code ⟨zZ1, zZ22, "(II[B)V"⟩ kQ22 3 (Option.none : Option Jvm.ClassFile.FieldType)) := wA 403 rfl
theorem Wd402 : WT (.static ⟨zZ1, zZ22, "(II[B)V"⟩) := wA 402 rfl
theorem ef29 (m : MethodId) (x0 : Addr) (x1 : Int32) (x2 : Addr) (x3 : Int32) (x4 : Int32) : entryFrame m #[(.ref x0), (.int x1), (.ref x2), (.int x3), (.int x4)] 5 = mkF m 0 #[vR x0, vI x1, vR x2, vI x3, vI x4] [] := by first | (simp [entryFrame, mkF, argsToLocals, Value.category]; done) | rfl
def dT86 : List DE := [(0, .aload_n 0, 1), (1, .iload_n 1, 1), (2, .aload_n 2, 1), (3, .iload_n 3, 1), (4, .iload 4, 2), (6, .invokestatic 240, 3), (9, .return_, 1)]
theorem dP86 : DO dT86 kQ66 := by decide +kernel
theorem Wd398 : WT (.methodLink zZ7 240 ⟨zZ1, "inflate", zZ27⟩) := wA 398 rfl
theorem Wd400 : WT (.code ⟨zZ1, "inflate", zZ27⟩ kQ65 6 (Option.none : Option Jvm.ClassFile.FieldType)) := wA 400 rfl
theorem Wd399 : WT (.static ⟨zZ1, "inflate", zZ27⟩) := wA 399 rfl
theorem pd33 : parseMethodDescriptor "([BI[BII)V" = some ⟨[(.array .byte), .int, (.array .byte), .int, .int], none⟩ := by decide +kernel
theorem ef30 (m : MethodId) (x0 : Addr) : entryFrame m #[(.ref x0)] 2 = mkF m 0 #[vR x0, .unset] [] := by first | (simp [entryFrame, mkF, argsToLocals, Value.category]; done) | rfl
def dT85 : List DE := [(0, .aload_n 0, 1), (1, .invokevirtual 83, 3), (4, .ifCond .ne 4, 3), (8, .aload_n 0, 1), (9, .getfield 15, 3), (12, .arraylength, 1), (13, .invokestatic 26, 3), (16, .astore_n 1, 1), (17, .aload_n 0, 1), (18, .getfield 15, 3), (21, .iconst 0, 1), (22, .aload_n 1, 1), (23, .iconst 0, 1), (24, .aload_n 0, 1), (25, .getfield 79, 3), (28, .invokestatic 125, 3), (31, .aload_n 0, 1), (32, .aload_n 1, 1), (33, .putfield 15, 3), (36, .aload_n 0, 1), (37, .iconst 1, 1), (38, .putfield 22, 3), (41, .return_, 1)]
theorem dP85 : DO dT85 kQ67 := by decide +kernel
theorem Wd174 : WT (.methodLink zZ2 83 ⟨zZ2, "isLatin1", "()Z"⟩) := wA 174 rfl
theorem Wd177 : WT (.selects zZ3 ⟨zZ2, "isLatin1", "()Z"⟩ ⟨zZ2, "isLatin1", "()Z"⟩) := wA 177 rfl
theorem Wd178 : WT (.code ⟨zZ2, "isLatin1", "()Z"⟩ kQ60 1 (Option.some FieldType.boolean)) := wA 178 rfl
theorem Wd175 : WT (.declares ⟨zZ2, "isLatin1", "()Z"⟩) := wA 175 rfl
theorem Wd176 : WT (.instanceMethod ⟨zZ2, "isLatin1", "()Z"⟩) := wA 176 rfl
theorem Wd394 : WT (.methodLink zZ2 26 ⟨zZ1, zZ34, "(I)[B"⟩) := wA 394 rfl
theorem Wd167 : WT (.fieldLink zZ2 79 zZ2 "count" "I") := wA 167 rfl
theorem Wd395 : WT (.methodLink zZ2 125 ⟨zZ7, "inflate", zZ27⟩) := wA 395 rfl
theorem Wd397 : WT (.code ⟨zZ7, "inflate", zZ27⟩ kQ66 5 (Option.none : Option Jvm.ClassFile.FieldType)) := wA 397 rfl
theorem Wd396 : WT (.static ⟨zZ7, "inflate", zZ27⟩) := wA 396 rfl
def dT33 : List DE := [(0, .aload_n 0, 1), (1, .aload_n 0, 1), (2, .getfield 79, 3), (5, .iconst 1, 1), (6, .iadd, 1), (7, .invokevirtual 100, 3), (10, .aload_n 0, 1), (11, .invokevirtual 83, 3), (14, .ifCond .eq 31, 3), (17, .iload_n 1, 1), (18, .invokestatic 191, 3), (21, .ifCond .eq 24, 3), (24, .aload_n 0, 1), (25, .getfield 15, 3), (28, .aload_n 0, 1), (29, .dup, 1), (30, .getfield 79, 3), (33, .dup_x1, 1), (34, .iconst 1, 1), (35, .iadd, 1), (36, .putfield 79, 3), (39, .iload_n 1, 1), (40, .i2b, 1), (41, .bastore, 1), (42, .goto 33, 3), (75, .aload_n 0, 1), (76, .areturn, 1), (45, .aload_n 0, 1), (46, .invokevirtual 83, 3), (49, .ifCond .eq 7, 3), (52, .aload_n 0, 1), (53, .invokevirtual 195, 3), (56, .aload_n 0, 1), (57, .getfield 15, 3), (60, .aload_n 0, 1), (61, .dup, 1), (62, .getfield 79, 3), (65, .dup_x1, 1), (66, .iconst 1, 1), (67, .iadd, 1), (68, .putfield 79, 3), (71, .iload_n 1, 1), (72, .invokestatic 197, 3)]
theorem dP33 : DO dT33 kQ68 := by decide +kernel
theorem Wd169 : WT (.methodLink zZ2 100 ⟨zZ2, zZ15, "(I)V"⟩) := wA 169 rfl
theorem Wd173 : WT (.code ⟨zZ2, zZ15, "(I)V"⟩ kQ63 3 (Option.none : Option Jvm.ClassFile.FieldType)) := wA 173 rfl
theorem pd34 : parseMethodDescriptor "(I)V" = some ⟨[.int], none⟩ := by decide +kernel
theorem Wd171 : WT (.privateMethod ⟨zZ2, zZ15, "(I)V"⟩) := wA 171 rfl
theorem Wd179 : WT (.methodLink zZ2 191 ⟨zZ7, "canEncode", "(C)Z"⟩) := wA 179 rfl
theorem Wd181 : WT (.code ⟨zZ7, "canEncode", "(C)Z"⟩ kQ9 1 (Option.some FieldType.boolean)) := wA 181 rfl
theorem Wd180 : WT (.static ⟨zZ7, "canEncode", "(C)Z"⟩) := wA 180 rfl
theorem Wd389 : WT (.methodLink zZ2 195 ⟨zZ2, "inflate", "()V"⟩) := wA 389 rfl
theorem Wd393 : WT (.code ⟨zZ2, "inflate", "()V"⟩ kQ67 2 (Option.none : Option Jvm.ClassFile.FieldType)) := wA 393 rfl
theorem pd35 : parseMethodDescriptor "()V" = some ⟨[], none⟩ := by decide +kernel
theorem Wd390 : WT (.instanceMethod ⟨zZ2, "inflate", "()V"⟩) := wA 390 rfl
theorem Wd391 : WT (.privateMethod ⟨zZ2, "inflate", "()V"⟩) := wA 391 rfl
theorem Wd410 : WT (.methodLink zZ2 197 ⟨zZ1, "putCharSB", "([BII)V"⟩) := wA 410 rfl
theorem Wd412 : WT (.code ⟨zZ1, "putCharSB", "([BII)V"⟩ kQ64 3 (Option.none : Option Jvm.ClassFile.FieldType)) := wA 412 rfl
theorem Wd411 : WT (.static ⟨zZ1, "putCharSB", "([BII)V"⟩) := wA 411 rfl
theorem pn10 : plainName "java/lang/StringBuilder" = true := by first | (simp [plainName, overriddenIn]; done) | decide +kernel
def dT32 : List DE := [(0, .aload_n 0, 1), (1, .iload_n 1, 1), (2, .invokespecial 50, 3), (5, .pop, 1), (6, .aload_n 0, 1), (7, .areturn, 1)]
theorem dP32 : DO dT32 kQ69 := by decide +kernel
theorem Wd162 : WT (.methodLink zZ3 50 ⟨zZ2, "append", zZ13⟩) := wA 162 rfl
theorem Wd166 : WT (.code ⟨zZ2, "append", zZ13⟩ kQ68 2 (Option.some (FieldType.object zZ2))) := wA 166 rfl
theorem Wd163 : WT (.instanceMethod ⟨zZ2, "append", zZ13⟩) := wA 163 rfl
theorem Wd164 : WT (.superclass zZ3 zZ2) := wA 164 rfl
theorem pd36 : parseMethodDescriptor "(C)Ljava/lang/AbstractStringBuilder;" = some ⟨[.char], some (.object "java/lang/AbstractStringBuilder")⟩ := by decide +kernel
def dT60 : List DE := [(0, .aload_n 0, 1), (1, .iload_n 1, 1), (2, .invokevirtual 284, 3), (5, .areturn, 1)]
theorem dP60 : DO dT60 kQ70 := by decide +kernel
theorem Wd287 : WT (.methodLink zZ3 284 ⟨zZ3, "append", zZ19⟩) := wA 287 rfl
theorem Wd160 : WT (.selects zZ3 ⟨zZ3, "append", zZ19⟩ ⟨zZ3, "append", zZ19⟩) := wA 160 rfl
theorem Wd161 : WT (.code ⟨zZ3, "append", zZ19⟩ kQ69 2 (Option.some (FieldType.object zZ3))) := wA 161 rfl
theorem Wd36 : WT (.initialized zZ3) := wA 36 rfl
theorem Wd158 : WT (.declares ⟨zZ3, "append", zZ19⟩) := wA 158 rfl
theorem Wd159 : WT (.instanceMethod ⟨zZ3, "append", zZ19⟩) := wA 159 rfl
theorem pd37 : parseMethodDescriptor "(C)Ljava/lang/StringBuilder;" = some ⟨[.char], some (.object "java/lang/StringBuilder")⟩ := by decide +kernel
def dT59 : List DE := [(0, .iload_n 1, 1), (1, .invokestatic 286, 3), (4, .ifCond .eq 10, 3), (7, .aload_n 0, 1), (8, .iload_n 1, 1), (9, .i2c, 1), (10, .invokevirtual 290, 3), (13, .areturn, 1)]
theorem dP59 : DO dT59 kQ71 := by decide +kernel
theorem Wd282 : WT (.methodLink zZ2 286 ⟨zZ4, zZ45, "(I)Z"⟩) := wA 282 rfl
theorem Wd283 : WT (.methodLink zZ2 290 ⟨zZ2, "append", zZ13⟩) := wA 283 rfl
theorem Wd284 : WT (.selects zZ3 ⟨zZ2, "append", zZ13⟩ ⟨zZ3, "append", zZ13⟩) := wA 284 rfl
theorem Wd286 : WT (.code ⟨zZ3, "append", zZ13⟩ kQ70 2 (Option.some (FieldType.object zZ2))) := wA 286 rfl
theorem Wd165 : WT (.declares ⟨zZ2, "append", zZ13⟩) := wA 165 rfl
theorem Wd285 : WT (.instanceMethod ⟨zZ3, "append", zZ13⟩) := wA 285 rfl
def dT58 : List DE := [(0, .aload_n 0, 1), (1, .iload_n 1, 1), (2, .invokespecial 65, 3), (5, .pop, 1), (6, .aload_n 0, 1), (7, .areturn, 1)]
theorem dP58 : DO dT58 kQ72 := by decide +kernel
theorem Wd278 : WT (.methodLink zZ3 65 ⟨zZ2, zZ16, zZ59⟩) := wA 278 rfl
theorem Wd281 : WT (.code ⟨zZ2, zZ16, zZ59⟩ kQ71 2 (Option.some (FieldType.object zZ2))) := wA 281 rfl
theorem Wd279 : WT (.instanceMethod ⟨zZ2, zZ16, zZ59⟩) := wA 279 rfl
theorem pd38 : parseMethodDescriptor "(I)Ljava/lang/AbstractStringBuilder;" = some ⟨[.int], some (.object "java/lang/AbstractStringBuilder")⟩ := by decide +kernel
def dT11 : List DE := [(0, .aload_n 0, 1), (1, .invokespecial 3, 3), (4, .getstatic 18, 3), (7, .ifCond .eq 18, 3), (10, .aload_n 0, 1), (11, .iload_n 1, 1), (12, .newarray .byte, 2), (14, .putfield 15, 3), (17, .aload_n 0, 1), (18, .iconst 0, 1), (19, .putfield 22, 3), (22, .goto 16, 3), (38, .return_, 1)]
theorem dP11 : DO dT11 kQ73 := by decide +kernel
theorem Wd56 : WT (.methodLink zZ2 3 ⟨zZ24, "<init>", "()V"⟩) := wA 56 rfl
def dT10 : List DE := [(0, .aload_n 0, 1), (1, .iload_n 1, 1), (2, .invokespecial 1, 3), (5, .return_, 1)]
theorem dP10 : DO dT10 kQ74 := by decide +kernel
theorem Wd50 : WT (.methodLink zZ3 1 ⟨zZ2, "<init>", "(I)V"⟩) := wA 50 rfl
theorem Wd55 : WT (.code ⟨zZ2, "<init>", "(I)V"⟩ kQ73 2 (Option.none : Option Jvm.ClassFile.FieldType)) := wA 55 rfl
theorem Wd51 : WT (.instanceMethod ⟨zZ2, "<init>", "(I)V"⟩) := wA 51 rfl
def dT49 : List DE := [(0, .iload_n 1, 1), (1, .iload_n 0, 1), (2, .if_icmp .ge 35, 3), (37, .return_, 1)]
theorem dP49 : DO dT49 kQ75 := by decide +kernel
def dT44 : List DE := [(0, .aload_n 0, 1), (1, .getfield 15, 3), (4, .areturn, 1)]
theorem dP44 : DO dT44 kQ76 := by decide +kernel
def dT46 : List DE := [(0, .aload_n 0, 1), (1, .getfield 79, 3), (4, .ireturn, 1)]
theorem dP46 : DO dT46 kQ77 := by decide +kernel
def dT45 : List DE := [(0, .aload_n 0, 1), (1, .invokespecial 343, 3), (4, .ireturn, 1)]
theorem dP45 : DO dT45 kQ78 := by decide +kernel
theorem Wd232 : WT (.methodLink zZ3 343 ⟨zZ2, "length", "()I"⟩) := wA 232 rfl
theorem Wd233 : WT (.code ⟨zZ2, "length", "()I"⟩ kQ77 1 (Option.some FieldType.int)) := wA 233 rfl
theorem Wd228 : WT (.instanceMethod ⟨zZ2, "length", "()I"⟩) := wA 228 rfl
def dT48 : List DE := [(0, .iload_n 1, 1), (1, .iload_n 2, 1), (2, .invokestatic 343, 3), (5, .iload_n 2, 1), (6, .iload_n 1, 1), (7, .isub, 1), (8, .istore_n 3, 1), (9, .iload_n 3, 1), (10, .newarray .byte, 2), (12, .astore 4, 2), (14, .aload_n 0, 1), (15, .iload_n 1, 1), (16, .aload 4, 2), (18, .iconst 0, 1), (19, .aload_n 0, 1), (20, .arraylength, 1), (21, .iload_n 1, 1), (22, .isub, 1), (23, .iload_n 3, 1), (24, .invokestatic 304, 3), (27, .invokestatic 150, 3), (30, .aload 4, 2), (32, .areturn, 1)]
theorem dP48 : DO dT48 kQ79 := by decide +kernel
theorem Wd241 : WT (.methodLink zZ8 343 ⟨zZ8, "checkLength", "(II)V"⟩) := wA 241 rfl
theorem Wd243 : WT (.code ⟨zZ8, "checkLength", "(II)V"⟩ kQ75 2 (Option.none : Option Jvm.ClassFile.FieldType)) := wA 243 rfl
theorem Wd242 : WT (.static ⟨zZ8, "checkLength", "(II)V"⟩) := wA 242 rfl
def dT47 : List DE := [(0, .iload_n 1, 1), (1, .ifCond .ne 9, 3), (4, .iload_n 2, 1), (5, .aload_n 0, 1), (6, .arraylength, 1), (7, .if_icmp .eq 10, 3), (17, .aload_n 0, 1), (18, .invokevirtual 310, 3), (21, .checkcast 311, 3), (24, .areturn, 1), (10, .aload_n 0, 1), (11, .iload_n 1, 1), (12, .iload_n 2, 1), (13, .invokestatic 339, 3), (16, .areturn, 1)]
theorem dP47 : DO dT47 kQ80 := by decide +kernel
theorem Wd310 : WT (.methodLink zZ8 310 ⟨"[B", "clone", zZ29⟩) := wA 310 rfl
theorem Wd311 : WT (.classLink zZ8 311 "[B") := wA 311 rfl
theorem Wd238 : WT (.methodLink zZ8 339 ⟨zZ8, zZ60, "([BII)[B"⟩) := wA 238 rfl
theorem Wd240 : WT (.code ⟨zZ8, zZ60, "([BII)[B"⟩ kQ79 5 (Option.some (FieldType.array FieldType.byte))) := wA 240 rfl
theorem Wd239 : WT (.static ⟨zZ8, zZ60, "([BII)[B"⟩) := wA 239 rfl
theorem pd39 : parseMethodDescriptor "([BII)[B" = some ⟨[(.array .byte), .int, .int], some (.array .byte)⟩ := by decide +kernel
theorem ef31 (m : MethodId) (x0 : Addr) (x1 : Addr) : entryFrame m #[(.ref x0), (.ref x1), .null] 5 = mkF m 0 #[vR x0, vR x1, .val .null, .unset, .unset] [] := by first | (simp [entryFrame, mkF, argsToLocals, Value.category]; done) | rfl
def dT43 : List DE := [(0, .aload_n 0, 1), (1, .invokespecial 1, 3), (4, .aload_n 1, 1), (5, .invokevirtual 552, 3), (8, .astore_n 3, 1), (9, .aload_n 1, 1), (10, .invokevirtual 549, 3), (13, .istore 4, 2), (15, .aload_n 1, 1), (16, .invokevirtual 1047, 3), (19, .ifCond .eq 22, 3), (22, .aload_n 0, 1), (23, .iconst 0, 1), (24, .putfield 15, 3), (27, .aload_n 0, 1), (28, .aload_n 3, 1), (29, .iconst 0, 1), (30, .iload 4, 2), (32, .invokestatic 54, 3), (35, .putfield 9, 3), (38, .goto 59, 3), (97, .return_, 1), (41, .getstatic 38, 3), (44, .ifCond .eq 35, 3), (47, .aload_n 1, 1), (48, .getfield 1048, 3), (51, .ifCond .eq 28, 3), (79, .aload_n 0, 1), (80, .iconst 1, 1), (81, .putfield 15, 3), (84, .aload_n 0, 1), (85, .aload_n 3, 1), (86, .iconst 0, 1), (87, .iload 4, 2), (89, .iconst 1, 1), (90, .ishl, 1), (91, .invokestatic 54, 3), (94, .putfield 9, 3)]
theorem dP43 : DO dT43 kQ81 := by decide +kernel
theorem Wd221 : WT (.methodLink zZ0 552 ⟨zZ2, "getValue", "()[B"⟩) := wA 221 rfl
theorem Wd224 : WT (.selects zZ3 ⟨zZ2, "getValue", "()[B"⟩ ⟨zZ2, "getValue", "()[B"⟩) := wA 224 rfl
theorem Wd225 : WT (.code ⟨zZ2, "getValue", "()[B"⟩ kQ76 1 (Option.some (FieldType.array FieldType.byte))) := wA 225 rfl
theorem Wd222 : WT (.declares ⟨zZ2, "getValue", "()[B"⟩) := wA 222 rfl
theorem Wd223 : WT (.instanceMethod ⟨zZ2, "getValue", "()[B"⟩) := wA 223 rfl
theorem pd40 : parseMethodDescriptor "()[B" = some ⟨[], some (.array .byte)⟩ := by decide +kernel
theorem Wd226 : WT (.methodLink zZ0 549 ⟨zZ2, "length", "()I"⟩) := wA 226 rfl
theorem Wd229 : WT (.selects zZ3 ⟨zZ2, "length", "()I"⟩ ⟨zZ3, "length", "()I"⟩) := wA 229 rfl
theorem Wd231 : WT (.code ⟨zZ3, "length", "()I"⟩ kQ78 1 (Option.some FieldType.int)) := wA 231 rfl
theorem Wd227 : WT (.declares ⟨zZ2, "length", "()I"⟩) := wA 227 rfl
theorem Wd230 : WT (.instanceMethod ⟨zZ3, "length", "()I"⟩) := wA 230 rfl
theorem Wd234 : WT (.methodLink zZ0 1047 ⟨zZ2, "isLatin1", "()Z"⟩) := wA 234 rfl
theorem Wd235 : WT (.methodLink zZ0 54 ⟨zZ8, "copyOfRange", "([BII)[B"⟩) := wA 235 rfl
theorem Wd237 : WT (.code ⟨zZ8, "copyOfRange", "([BII)[B"⟩ kQ80 3 (Option.some (FieldType.array FieldType.byte))) := wA 237 rfl
theorem Wd236 : WT (.static ⟨zZ8, "copyOfRange", "([BII)[B"⟩) := wA 236 rfl
theorem Wd417 : WT (.fieldLink zZ0 1048 zZ2 zZ33 "Z") := wA 417 rfl
def dT42 : List DE := [(0, .aload_n 0, 1), (1, .aload_n 1, 1), (2, .aconst_null, 1), (3, .invokespecial 489, 3), (6, .return_, 1)]
theorem dP42 : DO dT42 kQ82 := by decide +kernel
theorem Wd218 : WT (.methodLink zZ0 489 ⟨zZ0, "<init>", zZ61⟩) := wA 218 rfl
theorem Wd220 : WT (.code ⟨zZ0, "<init>", zZ61⟩ kQ81 5 (Option.none : Option Jvm.ClassFile.FieldType)) := wA 220 rfl
theorem Wd219 : WT (.instanceMethod ⟨zZ0, "<init>", zZ61⟩) := wA 219 rfl
theorem pd41 : parseMethodDescriptor "(Ljava/lang/AbstractStringBuilder;Ljava/lang/Void;)V" = some ⟨[(.object "java/lang/AbstractStringBuilder"), (.object "java/lang/Void")], none⟩ := by decide +kernel
def dT41 : List DE := [(0, .new 18, 3), (3, .dup, 1), (4, .aload_n 0, 1), (5, .invokespecial 137, 3), (8, .areturn, 1)]
theorem dP41 : DO dT41 kQ83 := by decide +kernel
theorem Wd214 : WT (.classLink zZ3 18 zZ0) := wA 214 rfl
theorem Wd215 : WT (.methodLink zZ3 137 ⟨zZ0, "<init>", zZ62⟩) := wA 215 rfl
theorem Wd217 : WT (.code ⟨zZ0, "<init>", zZ62⟩ kQ82 2 (Option.none : Option Jvm.ClassFile.FieldType)) := wA 217 rfl
theorem Wd216 : WT (.instanceMethod ⟨zZ0, "<init>", zZ62⟩) := wA 216 rfl
theorem pd42 : parseMethodDescriptor "(Ljava/lang/StringBuilder;)V" = some ⟨[(.object "java/lang/StringBuilder")], none⟩ := by decide +kernel
theorem ef32 (m : MethodId) (x0 : Addr) (x1 : Int32) : entryFrame m #[(.ref x0), (.int x1)] 7 = mkF m 0 #[vR x0, vI x1, .unset, .unset, .unset, .unset, .unset] [] := by first | (simp [entryFrame, mkF, argsToLocals, Value.category]; done) | rfl
def dT24 : List DE := [(0, .new 12, 3), (3, .dup, 1), (4, .iload_n 1, 1), (5, .invokestatic 50, 3), (8, .invokespecial 54, 3), (11, .getstatic 57, 3), (14, .invokevirtual 63, 3), (17, .astore_n 2, 1), (18, .aload_n 2, 1), (19, .astore_n 3, 1), (20, .aload_n 3, 1), (21, .arraylength, 1), (22, .istore 4, 2), (24, .iconst 0, 1), (25, .istore 5, 2), (27, .iload 5, 2), (29, .iload 4, 2), (31, .if_icmp .ge 48, 3), (79, .return_, 1), (34, .aload_n 3, 1), (35, .iload 5, 2), (37, .baload, 1), (38, .istore 6, 2), (40, .aload_n 0, 1), (41, .bipush 37, 2), (43, .invokevirtual 67, 3), (46, .getstatic 71, 3), (49, .iload 6, 2), (51, .iconst 4, 1), (52, .ishr, 1), (53, .bipush 15, 2), (55, .iand, 1), (56, .caload, 1), (57, .invokevirtual 67, 3), (60, .getstatic 71, 3), (63, .iload 6, 2), (65, .bipush 15, 2), (67, .iand, 1), (68, .caload, 1), (69, .invokevirtual 67, 3), (72, .pop, 1), (73, .iinc 5 1, 3), (76, .goto (-49), 3)]
theorem dP24 : DO dT24 kQ84 := by decide +kernel
theorem Wd117 : WT (.classLink zZ6 12 zZ0) := wA 117 rfl
theorem Wd118 : WT (.methodLink zZ6 50 ⟨zZ4, "toChars", "(I)[C"⟩) := wA 118 rfl
theorem Wd121 : WT (.code ⟨zZ4, "toChars", "(I)[C"⟩ kQ52 2 (Option.some (FieldType.array FieldType.char))) := wA 121 rfl
theorem Wd119 : WT (.static ⟨zZ4, "toChars", "(I)[C"⟩) := wA 119 rfl
theorem pd43 : parseMethodDescriptor "(I)[C" = some ⟨[.int], some (.array .char)⟩ := by decide +kernel
theorem Wd125 : WT (.methodLink zZ6 54 ⟨zZ0, "<init>", "([C)V"⟩) := wA 125 rfl
theorem Wd6 : WT (.code ⟨zZ0, "<init>", "([C)V"⟩ kQ50 2 (Option.none : Option Jvm.ClassFile.FieldType)) := wA 6 rfl
theorem Wd5 : WT (.instanceMethod ⟨zZ0, "<init>", "([C)V"⟩) := wA 5 rfl
theorem pd44 : parseMethodDescriptor "([C)V" = some ⟨[(.array .char)], none⟩ := by decide +kernel
theorem Wd126 : WT (.fieldLink zZ6 57 zZ65 "UTF_8" zZ66) := wA 126 rfl
theorem Wd128 : WT (.methodLink zZ6 63 ⟨zZ0, "getBytes", zZ28⟩) := wA 128 rfl
theorem Wd131 : WT (.selects zZ0 ⟨zZ0, "getBytes", zZ28⟩ ⟨zZ0, "getBytes", zZ28⟩) := wA 131 rfl
theorem Wd132 : WT (.code ⟨zZ0, "getBytes", zZ28⟩ kQ59 2 (Option.some (FieldType.array FieldType.byte))) := wA 132 rfl
theorem Wd129 : WT (.declares ⟨zZ0, "getBytes", zZ28⟩) := wA 129 rfl
theorem Wd130 : WT (.instanceMethod ⟨zZ0, "getBytes", zZ28⟩) := wA 130 rfl
theorem pd45 : parseMethodDescriptor "(Ljava/nio/charset/Charset;)[B" = some ⟨[(.object "java/nio/charset/Charset")], some (.array .byte)⟩ := by decide +kernel
theorem Wd157 : WT (.methodLink zZ6 67 ⟨zZ3, "append", zZ19⟩) := wA 157 rfl
theorem Wd182 : WT (.fieldLink zZ6 71 zZ6 "HEX" "[C") := wA 182 rfl
theorem ef33 (m : MethodId) (x0 : Addr) (x1 : Addr) : entryFrame m #[(.ref x0), (.ref x1)] 5 = mkF m 0 #[vR x0, vR x1, .unset, .unset, .unset] [] := by first | (simp [entryFrame, mkF, argsToLocals, Value.category]; done) | rfl
def dT7 : List DE := [(0, .new 17, 3), (3, .dup, 1), (4, .aload_n 0, 1), (5, .invokevirtual 19, 3), (8, .invokespecial 23, 3), (11, .astore_n 2, 1), (12, .iconst 0, 1), (13, .istore_n 3, 1), (14, .iload_n 3, 1), (15, .aload_n 0, 1), (16, .invokevirtual 19, 3), (19, .if_icmp .ge 46, 3), (22, .aload_n 0, 1), (23, .iload_n 3, 1), (24, .invokevirtual 26, 3), (27, .istore 4, 2), (29, .iload 4, 2), (31, .aload_n 1, 1), (32, .invokestatic 29, 3), (35, .ifCond .eq 13, 3), (48, .aload_n 2, 1), (49, .iload 4, 2), (51, .invokestatic 37, 3), (54, .iload_n 3, 1), (55, .iload 4, 2), (57, .invokestatic 41, 3), (60, .iadd, 1), (61, .istore_n 3, 1), (62, .goto (-48), 3), (38, .aload_n 2, 1), (39, .iload 4, 2), (41, .invokevirtual 33, 3), (44, .pop, 1), (45, .goto 9, 3), (65, .aload_n 2, 1), (66, .invokevirtual 46, 3), (69, .areturn, 1)]
theorem dP7 : DO dT7 kQ85 := by decide +kernel
theorem Wd34 : WT (.classLink zZ6 17 zZ3) := wA 34 rfl
theorem Wd37 : WT (.methodLink zZ6 19 ⟨zZ0, "length", "()I"⟩) := wA 37 rfl
theorem Wd47 : WT (.methodLink zZ6 23 ⟨zZ3, "<init>", "(I)V"⟩) := wA 47 rfl
theorem Wd49 : WT (.code ⟨zZ3, "<init>", "(I)V"⟩ kQ74 2 (Option.none : Option Jvm.ClassFile.FieldType)) := wA 49 rfl
theorem Wd48 : WT (.instanceMethod ⟨zZ3, "<init>", "(I)V"⟩) := wA 48 rfl
theorem Wd62 : WT (.methodLink zZ6 26 ⟨zZ0, zZ11, "(I)I"⟩) := wA 62 rfl
theorem Wd65 : WT (.selects zZ0 ⟨zZ0, zZ11, "(I)I"⟩ ⟨zZ0, zZ11, "(I)I"⟩) := wA 65 rfl
theorem Wd66 : WT (.code ⟨zZ0, zZ11, "(I)I"⟩ kQ37 3 (Option.some FieldType.int)) := wA 66 rfl
theorem Wd63 : WT (.declares ⟨zZ0, zZ11, "(I)I"⟩) := wA 63 rfl
theorem Wd64 : WT (.instanceMethod ⟨zZ0, zZ11, "(I)I"⟩) := wA 64 rfl
theorem Wd80 : WT (.methodLink zZ6 29 ⟨zZ6, "isKept", zZ37⟩) := wA 80 rfl
theorem Wd82 : WT (.code ⟨zZ6, "isKept", zZ37⟩ kQ42 3 (Option.some FieldType.boolean)) := wA 82 rfl
theorem Wd32 : WT (.initialized zZ6) := wA 32 rfl
theorem pd46 : parseMethodDescriptor "(ILjava/lang/String;)Z" = some ⟨[.int, (.object "java/lang/String")], some .boolean⟩ := by decide +kernel
theorem Wd81 : WT (.static ⟨zZ6, "isKept", zZ37⟩) := wA 81 rfl
theorem Wd114 : WT (.methodLink zZ6 37 ⟨zZ6, zZ49, zZ50⟩) := wA 114 rfl
theorem Wd116 : WT (.code ⟨zZ6, zZ49, zZ50⟩ kQ84 7 (Option.none : Option Jvm.ClassFile.FieldType)) := wA 116 rfl
theorem Wd115 : WT (.static ⟨zZ6, zZ49, zZ50⟩) := wA 115 rfl
theorem pd47 : parseMethodDescriptor "(Ljava/lang/StringBuilder;I)V" = some ⟨[(.object "java/lang/StringBuilder"), .int], none⟩ := by decide +kernel
theorem Wd205 : WT (.methodLink zZ6 41 ⟨zZ4, "charCount", "(I)I"⟩) := wA 205 rfl
theorem Wd207 : WT (.code ⟨zZ4, "charCount", "(I)I"⟩ kQ8 1 (Option.some FieldType.int)) := wA 207 rfl
theorem Wd206 : WT (.static ⟨zZ4, "charCount", "(I)I"⟩) := wA 206 rfl
theorem Wd273 : WT (.methodLink zZ6 33 ⟨zZ3, zZ16, zZ31⟩) := wA 273 rfl
theorem Wd276 : WT (.selects zZ3 ⟨zZ3, zZ16, zZ31⟩ ⟨zZ3, zZ16, zZ31⟩) := wA 276 rfl
theorem Wd277 : WT (.code ⟨zZ3, zZ16, zZ31⟩ kQ72 2 (Option.some (FieldType.object zZ3))) := wA 277 rfl
theorem Wd274 : WT (.declares ⟨zZ3, zZ16, zZ31⟩) := wA 274 rfl
theorem Wd275 : WT (.instanceMethod ⟨zZ3, zZ16, zZ31⟩) := wA 275 rfl
theorem pd48 : parseMethodDescriptor "(I)Ljava/lang/StringBuilder;" = some ⟨[.int], some (.object "java/lang/StringBuilder")⟩ := by decide +kernel
theorem Wd209 : WT (.methodLink zZ6 46 ⟨zZ3, "toString", zZ32⟩) := wA 209 rfl
theorem Wd212 : WT (.selects zZ3 ⟨zZ3, "toString", zZ32⟩ ⟨zZ3, "toString", zZ32⟩) := wA 212 rfl
theorem Wd213 : WT (.code ⟨zZ3, "toString", zZ32⟩ kQ83 1 (Option.some (FieldType.object zZ0))) := wA 213 rfl
theorem Wd210 : WT (.declares ⟨zZ3, "toString", zZ32⟩) := wA 210 rfl
theorem Wd211 : WT (.instanceMethod ⟨zZ3, "toString", zZ32⟩) := wA 211 rfl
theorem pd49 : parseMethodDescriptor "()Ljava/lang/String;" = some ⟨[], some (.object "java/lang/String")⟩ := by decide +kernel
theorem pn11 : plainName "com/example/triad/triad/rest/PercentEncodingEncodePinLaw" = true := by first | (simp [plainName, overriddenIn]; done) | decide +kernel
def dT54 : List DE := [(0, .iload_n 0, 1), (1, .bipush 10, 2), (3, .if_icmp .ge 9, 3), (6, .bipush 48, 2), (8, .iload_n 0, 1), (9, .iadd, 1), (10, .i2c, 1), (11, .ireturn, 1), (12, .bipush 65, 2), (14, .iload_n 0, 1), (15, .iadd, 1), (16, .bipush 10, 2), (18, .isub, 1), (19, .i2c, 1), (20, .ireturn, 1)]
theorem dP54 : DO dT54 method_6_code := by decide +kernel
def dT51 : List DE := [(42, .iload_n 0, 1), (43, .bipush 45, 2), (45, .if_icmp .eq 21, 3), (66, .iconst 1, 1), (67, .ireturn, 1), (48, .iload_n 0, 1), (49, .bipush 46, 2), (51, .if_icmp .eq 15, 3), (54, .iload_n 0, 1), (55, .bipush 95, 2), (57, .if_icmp .eq 9, 3), (60, .iload_n 0, 1), (61, .bipush 126, 2), (63, .if_icmp .ne 5, 3), (68, .iload_n 2, 1), (69, .ifCond .eq 12, 3), (81, .iconst 0, 1), (82, .ireturn, 1), (72, .iload_n 0, 1), (73, .iload_n 1, 1), (74, .if_icmp .ne 7, 3), (77, .iconst 1, 1), (78, .goto 4, 3), (28, .iload_n 0, 1), (29, .bipush 48, 2), (31, .if_icmp .lt 11, 3), (34, .iload_n 0, 1), (35, .bipush 57, 2), (37, .if_icmp .gt 5, 3), (40, .iconst 1, 1), (41, .ireturn, 1), (14, .iload_n 0, 1), (15, .bipush 65, 2), (17, .if_icmp .lt 11, 3), (20, .iload_n 0, 1), (21, .bipush 90, 2), (23, .if_icmp .gt 5, 3), (26, .iconst 1, 1), (27, .ireturn, 1), (0, .iload_n 0, 1), (1, .bipush 97, 2), (3, .if_icmp .lt 11, 3), (6, .iload_n 0, 1), (7, .bipush 122, 2), (9, .if_icmp .gt 5, 3), (12, .iconst 1, 1), (13, .ireturn, 1)]
theorem dP51 : DO dT51 method_4_code := by decide +kernel
def dT53 : List DE := [(0, .aload_n 0, 1), (1, .iload_n 1, 1), (2, .bipush 37, 2), (4, .castore, 1), (5, .aload_n 0, 1), (6, .iload_n 1, 1), (7, .iconst 1, 1), (8, .iadd, 1), (9, .iload_n 2, 1), (10, .iconst 4, 1), (11, .ishr, 1), (12, .bipush 15, 2), (14, .iand, 1), (15, .invokestatic 49, 3), (18, .castore, 1), (19, .aload_n 0, 1), (20, .iload_n 1, 1), (21, .iconst 2, 1), (22, .iadd, 1), (23, .iload_n 2, 1), (24, .bipush 15, 2), (26, .iand, 1), (27, .invokestatic 49, 3), (30, .castore, 1), (31, .iload_n 1, 1), (32, .iconst 3, 1), (33, .iadd, 1), (34, .ireturn, 1)]
theorem dP53 : DO dT53 method_7_code := by decide +kernel
theorem Wd257 : WT (.methodLink zZ5 49 ⟨zZ5, "hex", "(I)C"⟩) := wA 257 rfl
theorem Wd259 : WT (.code ⟨zZ5, "hex", "(I)C"⟩ method_6_code 1 (Option.some FieldType.char)) := wA 259 rfl
theorem Wd246 : WT (.initialized zZ5) := wA 246 rfl
theorem Wd258 : WT (.static ⟨zZ5, "hex", "(I)C"⟩) := wA 258 rfl
theorem ef34 (m : MethodId) (x0 : Addr) (x1 : Int32) (x2 : Int32) : entryFrame m #[(.ref x0), (.int x1), (.int x2)] 4 = mkF m 0 #[vR x0, vI x1, vI x2, .unset] [] := by first | (simp [entryFrame, mkF, argsToLocals, Value.category]; done) | rfl
def dT52 : List DE := [(0, .iload_n 1, 1), (1, .istore_n 3, 1), (2, .iload_n 2, 1), (3, .sipush 128, 3), (6, .if_icmp .ge 13, 3), (9, .aload_n 0, 1), (10, .iload_n 3, 1), (11, .iload_n 2, 1), (12, .invokestatic 52, 3), (15, .istore_n 3, 1), (16, .goto 180, 3), (196, .iload_n 3, 1), (197, .ireturn, 1), (19, .iload_n 2, 1), (20, .sipush 2048, 3), (23, .if_icmp .ge 34, 3), (26, .aload_n 0, 1), (27, .iload_n 3, 1), (28, .sipush 192, 3), (31, .iload_n 2, 1), (32, .bipush 6, 2), (34, .ishr, 1), (35, .ior, 1), (36, .invokestatic 52, 3), (39, .istore_n 3, 1), (40, .aload_n 0, 1), (41, .iload_n 3, 1), (42, .sipush 128, 3), (45, .iload_n 2, 1), (46, .bipush 63, 2), (48, .iand, 1), (49, .ior, 1), (50, .invokestatic 52, 3), (53, .istore_n 3, 1), (54, .goto 142, 3), (57, .iload_n 2, 1), (58, .ldc 7, 2), (60, .if_icmp .lt 20, 3), (80, .iload_n 2, 1), (81, .ldc 28, 2), (83, .if_icmp .ge 51, 3), (86, .aload_n 0, 1), (87, .iload_n 3, 1), (88, .sipush 224, 3), (91, .iload_n 2, 1), (92, .bipush 12, 2), (94, .ishr, 1), (95, .ior, 1), (96, .invokestatic 52, 3), (99, .istore_n 3, 1), (100, .aload_n 0, 1), (101, .iload_n 3, 1), (102, .sipush 128, 3), (105, .iload_n 2, 1), (106, .bipush 6, 2), (108, .ishr, 1), (109, .bipush 63, 2), (111, .iand, 1), (112, .ior, 1), (113, .invokestatic 52, 3), (116, .istore_n 3, 1), (117, .aload_n 0, 1), (118, .iload_n 3, 1), (119, .sipush 128, 3), (122, .iload_n 2, 1), (123, .bipush 63, 2), (125, .iand, 1), (126, .ior, 1), (127, .invokestatic 52, 3), (130, .istore_n 3, 1), (131, .goto 65, 3), (134, .aload_n 0, 1), (135, .iload_n 3, 1), (136, .sipush 240, 3), (139, .iload_n 2, 1), (140, .bipush 18, 2), (142, .ishr, 1), (143, .ior, 1), (144, .invokestatic 52, 3), (147, .istore_n 3, 1), (148, .aload_n 0, 1), (149, .iload_n 3, 1), (150, .sipush 128, 3), (153, .iload_n 2, 1), (154, .bipush 12, 2), (156, .ishr, 1), (157, .bipush 63, 2), (159, .iand, 1), (160, .ior, 1), (161, .invokestatic 52, 3), (164, .istore_n 3, 1), (165, .aload_n 0, 1), (166, .iload_n 3, 1), (167, .sipush 128, 3), (170, .iload_n 2, 1), (171, .bipush 6, 2), (173, .ishr, 1), (174, .bipush 63, 2), (176, .iand, 1), (177, .ior, 1), (178, .invokestatic 52, 3), (181, .istore_n 3, 1), (182, .aload_n 0, 1), (183, .iload_n 3, 1), (184, .sipush 128, 3), (187, .iload_n 2, 1), (188, .bipush 63, 2), (190, .iand, 1), (191, .ior, 1), (192, .invokestatic 52, 3), (195, .istore_n 3, 1), (63, .iload_n 2, 1), (64, .ldc 27, 2), (66, .if_icmp .gt 14, 3), (69, .aload_n 0, 1), (70, .iload_n 3, 1), (71, .bipush 63, 2), (73, .invokestatic 52, 3), (76, .istore_n 3, 1), (77, .goto 119, 3)]
theorem dP52 : DO dT52 method_8_code := by decide +kernel
theorem Wd254 : WT (.methodLink zZ5 52 ⟨zZ5, "pct", "([CII)I"⟩) := wA 254 rfl
theorem Wd256 : WT (.code ⟨zZ5, "pct", "([CII)I"⟩ method_7_code 3 (Option.some FieldType.int)) := wA 256 rfl
theorem Wd255 : WT (.static ⟨zZ5, "pct", "([CII)I"⟩) := wA 255 rfl
theorem pd50 : parseMethodDescriptor "([CII)I" = some ⟨[(.array .char), .int, .int], some .int⟩ := by decide +kernel
theorem Wd288 : WT (.constant zZ5 7 (55296 : Int32)) := wA 288 rfl
theorem Wd358 : WT (.constant zZ5 28 (65536 : Int32)) := wA 358 rfl
theorem Wd357 : WT (.constant zZ5 27 (57343 : Int32)) := wA 357 rfl
theorem ef35 (m : MethodId) (x0 : Addr) (x1 : Int32) (x2 : Int32) (x3 : Int32) (x4 : Int32) : entryFrame m #[(.ref x0), (.int x1), (.int x2), (.int x3), (.int x4)] 5 = mkF m 0 #[vR x0, vI x1, vI x2, vI x3, vI x4] [] := by first | (simp [entryFrame, mkF, argsToLocals, Value.category]; done) | rfl
def dT50 : List DE := [(0, .iload_n 2, 1), (1, .iload_n 3, 1), (2, .iload 4, 2), (4, .invokestatic 45, 3), (7, .ifCond .eq 11, 3), (18, .aload_n 0, 1), (19, .iload_n 1, 1), (20, .iload_n 2, 1), (21, .invokestatic 29, 3), (24, .ireturn, 1), (10, .aload_n 0, 1), (11, .iload_n 1, 1), (12, .iload_n 2, 1), (13, .castore, 1), (14, .iload_n 1, 1), (15, .iconst 1, 1), (16, .iadd, 1), (17, .ireturn, 1)]
theorem dP50 : DO dT50 method_5_code := by decide +kernel
theorem Wd248 : WT (.methodLink zZ5 45 ⟨zZ5, "keptChar", "(CCZ)Z"⟩) := wA 248 rfl
theorem Wd250 : WT (.code ⟨zZ5, "keptChar", "(CCZ)Z"⟩ method_4_code 3 (Option.some FieldType.boolean)) := wA 250 rfl
theorem Wd249 : WT (.static ⟨zZ5, "keptChar", "(CCZ)Z"⟩) := wA 249 rfl
theorem pd51 : parseMethodDescriptor "(CCZ)Z" = some ⟨[.char, .char, .boolean], some .boolean⟩ := by decide +kernel
theorem Wd251 : WT (.methodLink zZ5 29 ⟨zZ5, "encCp", "([CII)I"⟩) := wA 251 rfl
theorem Wd253 : WT (.code ⟨zZ5, "encCp", "([CII)I"⟩ method_8_code 4 (Option.some FieldType.int)) := wA 253 rfl
theorem Wd252 : WT (.static ⟨zZ5, "encCp", "([CII)I"⟩) := wA 252 rfl
theorem ef36 (m : MethodId) (x0 : Addr) (x1 : Addr) (x2 : Int32) (x3 : Int32) : entryFrame m #[(.ref x0), (.ref x1), (.int x2), (.int x3)] 4 = mkF m 0 #[vR x0, vR x1, vI x2, vI x3] [] := by first | (simp [entryFrame, mkF, argsToLocals, Value.category]; done) | rfl
def dT55 : List DE := [(0, .iload_n 3, 1), (1, .iload_n 2, 1), (2, .if_icmp .ge 14, 3), (5, .aload_n 0, 1), (6, .iload_n 3, 1), (7, .invokevirtual 41, 3), (10, .aload_n 1, 1), (11, .iload_n 3, 1), (12, .caload, 1), (13, .if_icmp .ne 7, 3), (16, .iconst 1, 1), (17, .goto 4, 3), (21, .ireturn, 1)]
theorem dP55 : DO dT55 method_3_code := by decide +kernel
theorem Wd264 : WT (.methodLink zZ5 41 ⟨zZ0, "charAt", "(I)C"⟩) := wA 264 rfl
theorem Wd267 : WT (.selects zZ0 ⟨zZ0, "charAt", "(I)C"⟩ ⟨zZ0, "charAt", "(I)C"⟩) := wA 267 rfl
theorem Wd268 : WT (.code ⟨zZ0, "charAt", "(I)C"⟩ kQ34 2 (Option.some FieldType.char)) := wA 268 rfl
theorem Wd265 : WT (.declares ⟨zZ0, "charAt", "(I)C"⟩) := wA 265 rfl
theorem Wd266 : WT (.instanceMethod ⟨zZ0, "charAt", "(I)C"⟩) := wA 266 rfl
theorem ef37 (m : MethodId) (x0 : Int32) (x1 : Int32) (x2 : Int32) (x3 : Int32) : entryFrame m #[(.int x0), (.int x1), (.int x2), (.int x3)] maxLocals = mkF m 0 #[vI x0, vI x1, vI x2, vI x3, .unset, .unset, .unset, .unset, .unset, .unset, .unset, .unset, .unset, .unset, .unset, .unset] [] := by first | (simp [entryFrame, mkF, argsToLocals, Value.category, maxLocals]; done) | rfl
theorem Wd312 : WT (.constant zZ5 8 (56320 : Int32)) := wA 312 rfl
theorem Wd30 : WT (.methodLink zZ5 14 ⟨zZ6, "encode", zZ38⟩) := wA 30 rfl
theorem Wd33 : WT (.code ⟨zZ6, "encode", zZ38⟩ kQ85 5 (Option.some (FieldType.object zZ0))) := wA 33 rfl
theorem pd52 : parseMethodDescriptor "(Ljava/lang/String;Ljava/lang/String;)Ljava/lang/String;" = some ⟨[(.object "java/lang/String"), (.object "java/lang/String")], some (.object "java/lang/String")⟩ := by decide +kernel
theorem Wd31 : WT (.static ⟨zZ6, "encode", zZ38⟩) := wA 31 rfl
theorem Wd260 : WT (.methodLink zZ5 33 ⟨zZ0, "length", "()I"⟩) := wA 260 rfl
theorem Wd261 : WT (.methodLink zZ5 37 ⟨zZ5, "at", zZ63⟩) := wA 261 rfl
theorem Wd263 : WT (.code ⟨zZ5, "at", zZ63⟩ method_3_code 4 (Option.some FieldType.boolean)) := wA 263 rfl
theorem Wd262 : WT (.static ⟨zZ5, "at", zZ63⟩) := wA 262 rfl
theorem pd53 : parseMethodDescriptor "(Ljava/lang/String;[CII)Z" = some ⟨[(.object "java/lang/String"), (.array .char), .int, .int], some .boolean⟩ := by decide +kernel
theorem Wd244 : WT (.methodLink zZ5 20 ⟨zZ5, "one", "([CICCZ)I"⟩) := wA 244 rfl
theorem Wd247 : WT (.code ⟨zZ5, "one", "([CICCZ)I"⟩ method_5_code 5 (Option.some FieldType.int)) := wA 247 rfl
theorem Wd245 : WT (.static ⟨zZ5, "one", "([CICCZ)I"⟩) := wA 245 rfl
theorem pd54 : parseMethodDescriptor "([CICCZ)I" = some ⟨[(.array .char), .int, .char, .char, .boolean], some .int⟩ := by decide +kernel
theorem Wd356 : WT (.constant zZ5 26 (56319 : Int32)) := wA 356 rfl
theorem Wd1 : WT (.classLink zZ5 9 zZ0) := wA 1 rfl
theorem Wd4 : WT (.methodLink zZ5 11 ⟨zZ0, "<init>", "([C)V"⟩) := wA 4 rfl
abbrev own_EL : List (String × Nat) := [(zZ6, 9), (zZ0, 7)]
theorem EL_in {Z : State} {a0 : Array Value} (hw : ∀ d ∈ tables_1, d.before a0 Z = true) : EW Z a0 own_EL := (EW.cons (Wd83 hw) (by decide) (EW.cons (Wd289 hw) (by decide) EW.nil))
variable {l : Launch} {Z : State} {a0 : Array Value} (hw : HW a0 Z) {zc : Int32} {fm : Value} {u8 hxa : Addr} {kh : ClassId}
theorem rm_isBmpCodePoint (x0 : Int32) (h0 : Heap) :
    MF l hw ⟨zZ4, zZ45, "(I)Z"⟩ kQ0 1 (some .boolean) (rO 0 0 0 0) #[(.int x0)] h0 (Pu (some (.int (own_isBmpCodePoint x0))) h0) := by
  refine MF.of (pF pn0) (ef0 · x0) dP26 ?_
  intro p e s m below meth c s₁ bd hlk hml hown hnm hrt hZ X0 e0
  refine OD.at 4 (fun t k => ziN X0 (bd 0) rfl (zcB X0 (bd 1) 16 rfl (ziushr X0 (bd 2) k))) ?_
  obtain ⟨v12_51, hv12_51⟩ : ∃ z : Int32, z = (if ((x0.toUInt32 >>> ((16 : Int32) &&& 31).toUInt32).toInt32) = (0 : Int32) then (1 : Int32) else (0 : Int32)) := ⟨_, rfl⟩
  refine OD.cut (B := (s₁.setTop (mkF m 12 #[vI x0] [(.int v12_51)]))) (fun J12_52 => ?_) ?_
  · skip
    by_cases c4_53 : ((x0.toUInt32 >>> ((16 : Int32) &&& 31).toUInt32).toInt32) = (0 : Int32)
    · refine OD.at 12 (fun t k => zjN X0 (bd 3) (teq c4_53).2 (zcI X0 (bd 4) 1 rfl (zgO X0 (bd 5) 12 k))) ?_
      rw [if_pos c4_53] at hv12_51
      rw [hv12_51] at J12_52
      exact J12_52
    · refine OD.at 12 (fun t k => zjY X0 (bd 3) 11 (feq c4_53).2 (zcI X0 (bd 6) 0 rfl k)) ?_
      rw [if_neg c4_53] at hv12_51
      rw [hv12_51] at J12_52
      exact J12_52
  have fin : v12_51 = own_isBmpCodePoint x0 := by rw [hv12_51]; rfl
  rw [fin]
  exact OD.rZ X0 (bd 7) hlk hrt (own_isBmpCodePoint_nar x0) ⟨rfl, rfl, e0⟩
theorem rm_isValidCodePoint (x0 : Int32) (h0 : Heap) :
    MF l hw ⟨zZ4, zZ42, "(I)Z"⟩ kQ1 2 (some .boolean) (rO 0 0 0 0) #[(.int x0)] h0 (Pu (some (.int (own_isValidCodePoint x0))) h0) := by
  refine MF.of (pF pn0) (ef1 · x0) dP71 ?_
  intro p e s m below meth c s₁ bd hlk hml hown hnm hrt hZ X0 e0
  refine OD.at 8 (fun t k => ziN X0 (bd 0) rfl (zcB X0 (bd 1) 16 rfl (ziushr X0 (bd 2) (zsN X0 (bd 3) #[vI x0, vI (((x0.toUInt32 >>> ((16 : Int32) &&& 31).toUInt32).toInt32))] rfl (ziN X0 (bd 4) rfl (zcB X0 (bd 5) 17 rfl k)))))) ?_
  obtain ⟨v16_51, hv16_51⟩ : ∃ z : Int32, z = (if ((x0.toUInt32 >>> ((16 : Int32) &&& 31).toUInt32).toInt32) < (17 : Int32) then (1 : Int32) else (0 : Int32)) := ⟨_, rfl⟩
  refine OD.cut (B := (s₁.setTop (mkF m 16 #[vI x0, vI (((x0.toUInt32 >>> ((16 : Int32) &&& 31).toUInt32).toInt32))] [(.int v16_51)]))) (fun J16_52 => ?_) ?_
  · skip
    by_cases c8_53 : ((x0.toUInt32 >>> ((16 : Int32) &&& 31).toUInt32).toInt32) < (17 : Int32)
    · refine OD.at 16 (fun t k => zkN X0 (bd 6) (tlt c8_53).2.1 (zcI X0 (bd 7) 1 rfl (zgO X0 (bd 8) 16 k))) ?_
      rw [if_pos c8_53] at hv16_51
      rw [hv16_51] at J16_52
      exact J16_52
    · refine OD.at 16 (fun t k => zkY X0 (bd 6) 15 (flt c8_53).2.1 (zcI X0 (bd 9) 0 rfl k)) ?_
      rw [if_neg c8_53] at hv16_51
      rw [hv16_51] at J16_52
      exact J16_52
  have fin : v16_51 = own_isValidCodePoint x0 := by rw [hv16_51]; rfl
  rw [fin]
  exact OD.rZ X0 (bd 10) hlk hrt (own_isValidCodePoint_nar x0) ⟨rfl, rfl, e0⟩
theorem rm_isHighSurrogate (x0 : Int32) (h0 : Heap) :
    MF l hw ⟨zZ4, zZ39, "(C)Z"⟩ kQ2 1 (some .boolean) (rO 0 0 0 0) #[(.int x0)] h0 (Pu (some (.int (own_isHighSurrogate x0))) h0) := by
  refine MF.of (pF pn0) (ef0 · x0) dP68 ?_
  intro p e s m below meth c s₁ bd hlk hml hown hnm hrt hZ X0 e0
  have hx := (bd 0).1
  refine OD.go (B := (s₁.setTop (mkF m 3 #[vI x0] [(.int 55296), (.int x0)]))) (fun t k => ziN X0 (bd 0) rfl (X0.ldcInt hx hown (mv hZ (Wd322 hw)) (g := (mkF m 1 #[vI x0] [(.int x0)])) rfl (bd 1).2 _ k)) ?_
  obtain ⟨v17_51, hv17_51⟩ : ∃ z : Int32, z = (if x0 < (55296 : Int32) then (0 : Int32) else (if x0 < (56320 : Int32) then (1 : Int32) else (0 : Int32))) := ⟨_, rfl⟩
  refine OD.cut (B := (s₁.setTop (mkF m 17 #[vI x0] [(.int v17_51)]))) (fun J17_52 => ?_) ?_
  · skip
    by_cases c3_53 : x0 < (55296 : Int32)
    · refine OD.at 17 (fun t k => zkY X0 (bd 2) 16 (tlt c3_53).1 (zcI X0 (bd 3) 0 rfl k)) ?_
      rw [if_pos c3_53] at hv17_51
      rw [hv17_51] at J17_52
      exact J17_52
    · refine OD.go (B := (s₁.setTop (mkF m 9 #[vI x0] [(.int 56320), (.int x0)]))) (fun t k => zkN X0 (bd 2) (flt c3_53).1 (ziN X0 (bd 4) rfl (X0.ldcInt hx hown (mv hZ (Wd323 hw)) (g := (mkF m 7 #[vI x0] [(.int x0)])) rfl (bd 5).2 _ k))) ?_
      by_cases c9_54 : x0 < (56320 : Int32)
      · refine OD.at 17 (fun t k => zkN X0 (bd 6) (tlt c9_54).2.1 (zcI X0 (bd 7) 1 rfl (zgO X0 (bd 8) 17 k))) ?_
        rw [if_neg c3_53, if_pos c9_54] at hv17_51
        rw [hv17_51] at J17_52
        exact J17_52
      · refine OD.at 17 (fun t k => zkY X0 (bd 6) 16 (flt c9_54).2.1 (zcI X0 (bd 3) 0 rfl k)) ?_
        rw [if_neg c3_53, if_neg c9_54] at hv17_51
        rw [hv17_51] at J17_52
        exact J17_52
  have fin : v17_51 = own_isHighSurrogate x0 := by rw [hv17_51]; rfl
  rw [fin]
  exact OD.rZ X0 (bd 9) hlk hrt (own_isHighSurrogate_nar x0) ⟨rfl, rfl, e0⟩
theorem rm_isLowSurrogate (x0 : Int32) (h0 : Heap) :
    MF l hw ⟨zZ4, zZ40, "(C)Z"⟩ kQ3 1 (some .boolean) (rO 0 0 0 0) #[(.int x0)] h0 (Pu (some (.int (own_isLowSurrogate x0))) h0) := by
  refine MF.of (pF pn0) (ef0 · x0) dP69 ?_
  intro p e s m below meth c s₁ bd hlk hml hown hnm hrt hZ X0 e0
  have hx := (bd 0).1
  refine OD.go (B := (s₁.setTop (mkF m 3 #[vI x0] [(.int 56320), (.int x0)]))) (fun t k => ziN X0 (bd 0) rfl (X0.ldcInt hx hown (mv hZ (Wd323 hw)) (g := (mkF m 1 #[vI x0] [(.int x0)])) rfl (bd 1).2 _ k)) ?_
  obtain ⟨v17_51, hv17_51⟩ : ∃ z : Int32, z = (if x0 < (56320 : Int32) then (0 : Int32) else (if x0 < (57344 : Int32) then (1 : Int32) else (0 : Int32))) := ⟨_, rfl⟩
  refine OD.cut (B := (s₁.setTop (mkF m 17 #[vI x0] [(.int v17_51)]))) (fun J17_52 => ?_) ?_
  · skip
    by_cases c3_53 : x0 < (56320 : Int32)
    · refine OD.at 17 (fun t k => zkY X0 (bd 2) 16 (tlt c3_53).1 (zcI X0 (bd 3) 0 rfl k)) ?_
      rw [if_pos c3_53] at hv17_51
      rw [hv17_51] at J17_52
      exact J17_52
    · refine OD.go (B := (s₁.setTop (mkF m 9 #[vI x0] [(.int 57344), (.int x0)]))) (fun t k => zkN X0 (bd 2) (flt c3_53).1 (ziN X0 (bd 4) rfl (X0.ldcInt hx hown (mv hZ (Wd327 hw)) (g := (mkF m 7 #[vI x0] [(.int x0)])) rfl (bd 5).2 _ k))) ?_
      by_cases c9_54 : x0 < (57344 : Int32)
      · refine OD.at 17 (fun t k => zkN X0 (bd 6) (tlt c9_54).2.1 (zcI X0 (bd 7) 1 rfl (zgO X0 (bd 8) 17 k))) ?_
        rw [if_neg c3_53, if_pos c9_54] at hv17_51
        rw [hv17_51] at J17_52
        exact J17_52
      · refine OD.at 17 (fun t k => zkY X0 (bd 6) 16 (flt c9_54).2.1 (zcI X0 (bd 3) 0 rfl k)) ?_
        rw [if_neg c3_53, if_neg c9_54] at hv17_51
        rw [hv17_51] at J17_52
        exact J17_52
  have fin : v17_51 = own_isLowSurrogate x0 := by rw [hv17_51]; rfl
  rw [fin]
  exact OD.rZ X0 (bd 9) hlk hrt (own_isLowSurrogate_nar x0) ⟨rfl, rfl, e0⟩
theorem rm_isSurrogate (x0 : Int32) (h0 : Heap) :
    MF l hw ⟨zZ4, "isSurrogate", "(C)Z"⟩ kQ4 1 (some .boolean) (rO 0 0 0 0) #[(.int x0)] h0 (Pu (some (.int (own_isSurrogate x0))) h0) := by
  refine MF.of (pF pn0) (ef0 · x0) dP76 ?_
  intro p e s m below meth c s₁ bd hlk hml hown hnm hrt hZ X0 e0
  have hx := (bd 0).1
  refine OD.go (B := (s₁.setTop (mkF m 3 #[vI x0] [(.int 55296), (.int x0)]))) (fun t k => ziN X0 (bd 0) rfl (X0.ldcInt hx hown (mv hZ (Wd322 hw)) (g := (mkF m 1 #[vI x0] [(.int x0)])) rfl (bd 1).2 _ k)) ?_
  obtain ⟨v17_51, hv17_51⟩ : ∃ z : Int32, z = (if x0 < (55296 : Int32) then (0 : Int32) else (if x0 < (57344 : Int32) then (1 : Int32) else (0 : Int32))) := ⟨_, rfl⟩
  refine OD.cut (B := (s₁.setTop (mkF m 17 #[vI x0] [(.int v17_51)]))) (fun J17_52 => ?_) ?_
  · skip
    by_cases c3_53 : x0 < (55296 : Int32)
    · refine OD.at 17 (fun t k => zkY X0 (bd 2) 16 (tlt c3_53).1 (zcI X0 (bd 3) 0 rfl k)) ?_
      rw [if_pos c3_53] at hv17_51
      rw [hv17_51] at J17_52
      exact J17_52
    · refine OD.go (B := (s₁.setTop (mkF m 9 #[vI x0] [(.int 57344), (.int x0)]))) (fun t k => zkN X0 (bd 2) (flt c3_53).1 (ziN X0 (bd 4) rfl (X0.ldcInt hx hown (mv hZ (Wd327 hw)) (g := (mkF m 7 #[vI x0] [(.int x0)])) rfl (bd 5).2 _ k))) ?_
      by_cases c9_54 : x0 < (57344 : Int32)
      · refine OD.at 17 (fun t k => zkN X0 (bd 6) (tlt c9_54).2.1 (zcI X0 (bd 7) 1 rfl (zgO X0 (bd 8) 17 k))) ?_
        rw [if_neg c3_53, if_pos c9_54] at hv17_51
        rw [hv17_51] at J17_52
        exact J17_52
      · refine OD.at 17 (fun t k => zkY X0 (bd 6) 16 (flt c9_54).2.1 (zcI X0 (bd 3) 0 rfl k)) ?_
        rw [if_neg c3_53, if_neg c9_54] at hv17_51
        rw [hv17_51] at J17_52
        exact J17_52
  have fin : v17_51 = own_isSurrogate x0 := by rw [hv17_51]; rfl
  rw [fin]
  exact OD.rZ X0 (bd 9) hlk hrt (own_isSurrogate_nar x0) ⟨rfl, rfl, e0⟩
theorem rm_toCodePoint (x0 : Int32) (x1 : Int32) (h0 : Heap) :
    MF l hw ⟨zZ4, zZ41, "(CC)I"⟩ kQ5 2 (some .int) (rO 0 0 0 0) #[(.int x0), (.int x1)] h0 (Pu (some (.int (own_toCodePoint x0 x1))) h0) := by
  refine MF.of (pF pn0) (ef2 · x0 x1) dP70 ?_
  intro p e s m below meth c s₁ bd hlk hml hown hnm hrt hZ X0 e0
  have hx := (bd 0).1
  refine OD.go (B := (s₁.setTop (mkF m 9 #[vI x0, vI x1] [(.int (((x0 <<< ((10 : Int32) &&& 31)) + x1) + (-56613888 : Int32)))]))) (fun t k => ziN X0 (bd 0) rfl (zcB X0 (bd 1) 10 rfl (zishl X0 (bd 2) (ziN X0 (bd 3) rfl (ziadd X0 (bd 4) (X0.ldcInt hx hown (mv hZ (Wd331 hw)) (g := (mkF m 6 #[vI x0, vI x1] [(.int ((x0 <<< ((10 : Int32) &&& 31)) + x1))])) rfl (bd 5).2 _ (ziadd X0 (bd 6) k))))))) ?_
  show OD _ _ _ _ _ _ _ (s₁.setTop (mkF m 9 #[vI x0, vI x1] [.int (own_toCodePoint x0 x1)]))
  exact OD.rI X0 (bd 7) hlk hrt rfl ⟨rfl, rfl, e0⟩
theorem rm_lowSurrogate (x0 : Int32) (h0 : Heap) :
    MF l hw ⟨zZ4, zZ44, "(I)C"⟩ kQ6 1 (some .char) (rO 0 0 0 0) #[(.int x0)] h0 (Pu (some (.int (own_lowSurrogate x0))) h0) := by
  refine MF.of (pF pn0) (ef0 · x0) dP73 ?_
  intro p e s m below meth c s₁ bd hlk hml hown hnm hrt hZ X0 e0
  have hx := (bd 0).1
  refine OD.go (B := (s₁.setTop (mkF m 9 #[vI x0] [(.int ((x0 &&& (1023 : Int32)) + (56320 : Int32)).toUInt32.toUInt16.toUInt32.toInt32)]))) (fun t k => ziN X0 (bd 0) rfl (zcS X0 (bd 1) 1023 rfl (ziand X0 (bd 2) (X0.ldcInt hx hown (mv hZ (Wd323 hw)) (g := (mkF m 5 #[vI x0] [(.int (x0 &&& (1023 : Int32)))])) rfl (bd 3).2 _ (ziadd X0 (bd 4) (zi2c X0 (bd 5) k)))))) ?_
  show OD _ _ _ _ _ _ _ (s₁.setTop (mkF m 9 #[vI x0] [.int (own_lowSurrogate x0)]))
  exact OD.rC X0 (bd 6) hlk hrt (own_lowSurrogate_nar x0) ⟨rfl, rfl, e0⟩
theorem rm_highSurrogate (x0 : Int32) (h0 : Heap) :
    MF l hw ⟨zZ4, zZ43, "(I)C"⟩ kQ7 1 (some .char) (rO 0 0 0 0) #[(.int x0)] h0 (Pu (some (.int (own_highSurrogate x0))) h0) := by
  refine MF.of (pF pn0) (ef0 · x0) dP74 ?_
  intro p e s m below meth c s₁ bd hlk hml hown hnm hrt hZ X0 e0
  have hx := (bd 0).1
  refine OD.go (B := (s₁.setTop (mkF m 8 #[vI x0] [(.int (((x0.toUInt32 >>> ((10 : Int32) &&& 31).toUInt32).toInt32) + (55232 : Int32)).toUInt32.toUInt16.toUInt32.toInt32)]))) (fun t k => ziN X0 (bd 0) rfl (zcB X0 (bd 1) 10 rfl (ziushr X0 (bd 2) (X0.ldcInt hx hown (mv hZ (Wd344 hw)) (g := (mkF m 4 #[vI x0] [(.int ((x0.toUInt32 >>> ((10 : Int32) &&& 31).toUInt32).toInt32))])) rfl (bd 3).2 _ (ziadd X0 (bd 4) (zi2c X0 (bd 5) k)))))) ?_
  show OD _ _ _ _ _ _ _ (s₁.setTop (mkF m 8 #[vI x0] [.int (own_highSurrogate x0)]))
  exact OD.rC X0 (bd 6) hlk hrt (own_highSurrogate_nar x0) ⟨rfl, rfl, e0⟩
theorem rm_charCount (x0 : Int32) (h0 : Heap) :
    MF l hw ⟨zZ4, "charCount", "(I)I"⟩ kQ8 1 (some .int) (rO 0 0 0 0) #[(.int x0)] h0 (Pu (some (.int (own_charCount x0))) h0) := by
  refine MF.of (pF pn0) (ef0 · x0) dP40 ?_
  intro p e s m below meth c s₁ bd hlk hml hown hnm hrt hZ X0 e0
  have hx := (bd 0).1
  refine OD.go (B := (s₁.setTop (mkF m 3 #[vI x0] [(.int 65536), (.int x0)]))) (fun t k => ziN X0 (bd 0) rfl (X0.ldcInt hx hown (mv hZ (Wd208 hw)) (g := (mkF m 1 #[vI x0] [(.int x0)])) rfl (bd 1).2 _ k)) ?_
  obtain ⟨v11_51, hv11_51⟩ : ∃ z : Int32, z = (if x0 < (65536 : Int32) then (1 : Int32) else (2 : Int32)) := ⟨_, rfl⟩
  refine OD.cut (B := (s₁.setTop (mkF m 11 #[vI x0] [(.int v11_51)]))) (fun J11_52 => ?_) ?_
  · skip
    by_cases c3_53 : x0 < (65536 : Int32)
    · refine OD.at 11 (fun t k => zkY X0 (bd 2) 10 (tlt c3_53).1 (zcI X0 (bd 3) 1 rfl k)) ?_
      rw [if_pos c3_53] at hv11_51
      rw [hv11_51] at J11_52
      exact J11_52
    · refine OD.at 11 (fun t k => zkN X0 (bd 2) (flt c3_53).1 (zcI X0 (bd 4) 2 rfl (zgO X0 (bd 5) 11 k))) ?_
      rw [if_neg c3_53] at hv11_51
      rw [hv11_51] at J11_52
      exact J11_52
  have fin : v11_51 = own_charCount x0 := by rw [hv11_51]; rfl
  rw [fin]
  exact OD.rI X0 (bd 6) hlk hrt rfl ⟨rfl, rfl, e0⟩
theorem rm_canEncodeC (x0 : Int32) (h0 : Heap) :
    MF l hw ⟨zZ7, "canEncode", "(C)Z"⟩ kQ9 1 (some .boolean) (rO 0 0 0 0) #[(.int x0)] h0 (Pu (some (.int (own_canEncodeC x0))) h0) := by
  refine MF.of (pF pn1) (ef0 · x0) dP36 ?_
  intro p e s m below meth c s₁ bd hlk hml hown hnm hrt hZ X0 e0
  refine OD.at 4 (fun t k => ziN X0 (bd 0) rfl (zcS X0 (bd 1) 255 rfl k)) ?_
  obtain ⟨v12_51, hv12_51⟩ : ∃ z : Int32, z = (if (255 : Int32) < x0 then (0 : Int32) else (1 : Int32)) := ⟨_, rfl⟩
  refine OD.cut (B := (s₁.setTop (mkF m 12 #[vI x0] [(.int v12_51)]))) (fun J12_52 => ?_) ?_
  · skip
    by_cases c4_53 : (255 : Int32) < x0
    · refine OD.at 12 (fun t k => zkY X0 (bd 2) 11 (tlt c4_53).2.2.1 (zcI X0 (bd 3) 0 rfl k)) ?_
      rw [if_pos c4_53] at hv12_51
      rw [hv12_51] at J12_52
      exact J12_52
    · refine OD.at 12 (fun t k => zkN X0 (bd 2) (flt c4_53).2.2.1 (zcI X0 (bd 4) 1 rfl (zgO X0 (bd 5) 12 k))) ?_
      rw [if_neg c4_53] at hv12_51
      rw [hv12_51] at J12_52
      exact J12_52
  have fin : v12_51 = own_canEncodeC x0 := by rw [hv12_51]; rfl
  rw [fin]
  exact OD.rZ X0 (bd 6) hlk hrt (own_canEncodeC_nar x0) ⟨rfl, rfl, e0⟩
theorem rm_canEncodeI (x0 : Int32) (h0 : Heap) :
    MF l hw ⟨zZ7, "canEncode", "(I)Z"⟩ kQ10 1 (some .boolean) (rO 0 0 0 0) #[(.int x0)] h0 (Pu (some (.int (own_canEncodeI x0))) h0) := by
  refine MF.of (pF pn1) (ef0 · x0) dP20 ?_
  intro p e s m below meth c s₁ bd hlk hml hown hnm hrt hZ X0 e0
  refine OD.at 1 (fun t k => ziN X0 (bd 0) rfl k) ?_
  obtain ⟨v16_51, hv16_51⟩ : ∃ z : Int32, z = (if x0 < (0 : Int32) then (0 : Int32) else (if (255 : Int32) < x0 then (0 : Int32) else (1 : Int32))) := ⟨_, rfl⟩
  refine OD.cut (B := (s₁.setTop (mkF m 16 #[vI x0] [(.int v16_51)]))) (fun J16_52 => ?_) ?_
  · skip
    by_cases c1_53 : x0 < (0 : Int32)
    · refine OD.at 16 (fun t k => zjY X0 (bd 1) 15 (tlt c1_53).1 (zcI X0 (bd 2) 0 rfl k)) ?_
      rw [if_pos c1_53] at hv16_51
      rw [hv16_51] at J16_52
      exact J16_52
    · refine OD.at 8 (fun t k => zjN X0 (bd 1) (flt c1_53).1 (ziN X0 (bd 3) rfl (zcS X0 (bd 4) 255 rfl k))) ?_
      by_cases c8_54 : (255 : Int32) < x0
      · refine OD.at 16 (fun t k => zkY X0 (bd 5) 15 (tlt c8_54).2.2.1 (zcI X0 (bd 2) 0 rfl k)) ?_
        rw [if_neg c1_53, if_pos c8_54] at hv16_51
        rw [hv16_51] at J16_52
        exact J16_52
      · refine OD.at 16 (fun t k => zkN X0 (bd 5) (flt c8_54).2.2.1 (zcI X0 (bd 6) 1 rfl (zgO X0 (bd 7) 16 k))) ?_
        rw [if_neg c1_53, if_neg c8_54] at hv16_51
        rw [hv16_51] at J16_52
        exact J16_52
  have fin : v16_51 = own_canEncodeI x0 := by rw [hv16_51]; rfl
  rw [fin]
  exact OD.rZ X0 (bd 8) hlk hrt (own_canEncodeI_nar x0) ⟨rfl, rfl, e0⟩
theorem rm_max (x0 : Int32) (x1 : Int32) (h0 : Heap) :
    MF l hw ⟨zZ10, "max", "(II)I"⟩ kQ11 2 (some .int) (rO 0 0 0 0) #[(.int x0), (.int x1)] h0 (Pu (some (.int (own_max x0 x1))) h0) := by
  refine MF.of (by decide +kernel) (ef2 · x0 x1) dP21 ?_
  intro p e s m below meth c s₁ bd hlk hml hown hnm hrt hZ X0 e0
  refine OD.at 2 (fun t k => ziN X0 (bd 0) rfl (ziN X0 (bd 1) rfl k)) ?_
  obtain ⟨v10_51, hv10_51⟩ : ∃ z : Int32, z = (if x0 < x1 then x1 else x0) := ⟨_, rfl⟩
  refine OD.cut (B := (s₁.setTop (mkF m 10 #[vI x0, vI x1] [(.int v10_51)]))) (fun J10_52 => ?_) ?_
  · skip
    by_cases c2_53 : x0 < x1
    · refine OD.at 10 (fun t k => zkY X0 (bd 2) 9 (tlt c2_53).1 (ziN X0 (bd 3) rfl k)) ?_
      rw [if_pos c2_53] at hv10_51
      rw [hv10_51] at J10_52
      exact J10_52
    · refine OD.at 10 (fun t k => zkN X0 (bd 2) (flt c2_53).1 (ziN X0 (bd 4) rfl (zgO X0 (bd 5) 10 k))) ?_
      rw [if_neg c2_53] at hv10_51
      rw [hv10_51] at J10_52
      exact J10_52
  have fin : v10_51 = own_max x0 x1 := by rw [hv10_51]; rfl
  rw [fin]
  exact OD.rI X0 (bd 6) hlk hrt rfl ⟨rfl, rfl, e0⟩
theorem rm_min (x0 : Int32) (x1 : Int32) (h0 : Heap) :
    MF l hw ⟨zZ10, "min", "(II)I"⟩ kQ12 2 (some .int) (rO 0 0 0 0) #[(.int x0), (.int x1)] h0 (Pu (some (.int (own_min x0 x1))) h0) := by
  refine MF.of (by decide +kernel) (ef2 · x0 x1) dP22 ?_
  intro p e s m below meth c s₁ bd hlk hml hown hnm hrt hZ X0 e0
  refine OD.at 2 (fun t k => ziN X0 (bd 0) rfl (ziN X0 (bd 1) rfl k)) ?_
  obtain ⟨v10_51, hv10_51⟩ : ∃ z : Int32, z = (if x1 < x0 then x1 else x0) := ⟨_, rfl⟩
  refine OD.cut (B := (s₁.setTop (mkF m 10 #[vI x0, vI x1] [(.int v10_51)]))) (fun J10_52 => ?_) ?_
  · skip
    by_cases c2_53 : x1 < x0
    · refine OD.at 10 (fun t k => zkY X0 (bd 2) 9 (tlt c2_53).2.2.1 (ziN X0 (bd 3) rfl k)) ?_
      rw [if_pos c2_53] at hv10_51
      rw [hv10_51] at J10_52
      exact J10_52
    · refine OD.at 10 (fun t k => zkN X0 (bd 2) (flt c2_53).2.2.1 (ziN X0 (bd 4) rfl (zgO X0 (bd 5) 10 k))) ?_
      rw [if_neg c2_53] at hv10_51
      rw [hv10_51] at J10_52
      exact J10_52
  have fin : v10_51 = own_min x0 x1 := by rw [hv10_51]; rfl
  rw [fin]
  exact OD.rI X0 (bd 6) hlk hrt rfl ⟨rfl, rfl, e0⟩
theorem rm_pcCI (x0 : Int32) (x1 : Int32) (fm : Value) (rfm : fm.isRef = true) (h0 : Heap) (hq : ¬ x0 < (0 : Int32) ∧ x0 < x1) :
    MF l hw ⟨zZ9, zZ12, zZ51⟩ kQ13 3 (some .int) (rO 0 0 0 0) #[(.int x0), (.int x1), fm] h0 (Pu (some (.int x0)) h0) := by
  refine MF.of (pF pn2) (ef3 · x0 x1 fm rfm) dP15 ?_
  intro p e s m below meth c s₁ bd hlk hml hown hnm hrt hZ X0 e0
  refine OD.at 17 (fun t k => ziN X0 (bd 0) rfl (zjN X0 (bd 1) (flt hq.1).1 (ziN X0 (bd 2) rfl (ziN X0 (bd 3) rfl (zkY X0 (bd 4) 16 (tlt hq.2).1 (ziN X0 (bd 5) rfl k)))))) ?_
  exact OD.rI X0 (bd 6) hlk hrt rfl ⟨rfl, rfl, e0⟩
theorem rm_stCI (x0 : Int32) (x1 : Int32) (h0 : Heap) (n0 : Nat) (X00 : Old Z n0 h0) (SS : STs Z zc fm u8 hxa kh) (hq : ¬ x0 < (0 : Int32) ∧ x0 < x1) :
    MF l hw ⟨zZ0, zZ12, "(II)V"⟩ kQ14 2 none (rO 1 0 0 18) #[(.int x0), (.int x1)] h0 (Pu none h0) := by
  refine MF.of (pF pn3) (ef2 · x0 x1) dP14 ?_
  intro p e s m below meth c s₁ bd hlk hml hown hnm hrt hZ X0 e0
  have hx := (bd 0).1
  refine OD.at 2 (fun t k => ziN X0 (bd 0) rfl (ziN X0 (bd 1) rfl k)) ?_
  have f51 := (SS.2.2.2.2.2.1.ext X00.2)
  refine OD.gS X0 (bd 2) hZ hown hw Wd75 Via.refl e0 f51 (fun T52 X52 e52 => ?_)
  refine OD.cS X52 (bd 3) hZ hown hml Wd77 Wd78 Wd76 Wd79 pd0 (rm_pcCI hw x0 x1 fm SS.2.2.2.2.2.2.1 h0 hq) e52 rfl (fun v53 T53 L53 X53 hQ53 => ?_)
  obtain ⟨rfl, rfl, e53⟩ := hQ53
  refine OD.at 9 (fun t k => XS.pop X53.here hx rfl (bd 4).2 rfl rfl k) ?_
  exact OD.rV X53 (bd 5) hlk hrt ⟨rfl, rfl, e53⟩
theorem rm_pcFT (x0 : Int32) (x1 : Int32) (x2 : Int32) (fm : Value) (rfm : fm.isRef = true) (h0 : Heap) (hq : ¬ x0 < (0 : Int32) ∧ ¬ x1 < x0 ∧ ¬ x2 < x1) :
    MF l hw ⟨zZ9, zZ52, zZ20⟩ kQ15 4 (some .int) (rO 0 0 0 0) #[(.int x0), (.int x1), (.int x2), fm] h0 (Pu (some (.int x0)) h0) := by
  refine MF.of (pF pn2) (ef4 · x0 x1 x2 fm rfm) dP82 ?_
  intro p e s m below meth c s₁ bd hlk hml hown hnm hrt hZ X0 e0
  refine OD.at 23 (fun t k => ziN X0 (bd 0) rfl (zjN X0 (bd 1) (flt hq.1).1 (ziN X0 (bd 2) rfl (ziN X0 (bd 3) rfl (zkN X0 (bd 4) (flt hq.2.1).2.2.1 (ziN X0 (bd 5) rfl (ziN X0 (bd 6) rfl (zkY X0 (bd 7) 22 (flt hq.2.2).2.2.2 (ziN X0 (bd 8) rfl k))))))))) ?_
  exact OD.rI X0 (bd 9) hlk hrt rfl ⟨rfl, rfl, e0⟩
theorem rm_stBE (x0 : Int32) (x1 : Int32) (x2 : Int32) (h0 : Heap) (n0 : Nat) (X00 : Old Z n0 h0) (SS : STs Z zc fm u8 hxa kh) (hq : ¬ x0 < (0 : Int32) ∧ ¬ x1 < x0 ∧ ¬ x2 < x1) :
    MF l hw ⟨zZ0, zZ21, "(III)V"⟩ kQ16 3 none (rO 1 0 0 19) #[(.int x0), (.int x1), (.int x2)] h0 (Pu none h0) := by
  refine MF.of (pF pn3) (ef5 · x0 x1 x2) dP81 ?_
  intro p e s m below meth c s₁ bd hlk hml hown hnm hrt hZ X0 e0
  have hx := (bd 0).1
  refine OD.at 3 (fun t k => ziN X0 (bd 0) rfl (ziN X0 (bd 1) rfl (ziN X0 (bd 2) rfl k))) ?_
  have f51 := (SS.2.2.2.2.2.1.ext X00.2)
  refine OD.gS X0 (bd 3) hZ hown hw Wd75 Via.refl e0 f51 (fun T52 X52 e52 => ?_)
  refine OD.cS X52 (bd 4) hZ hown hml Wd380 Wd381 Wd76 Wd382 pd1 (rm_pcFT hw x0 x1 x2 fm SS.2.2.2.2.2.2.1 h0 hq) e52 rfl (fun v53 T53 L53 X53 hQ53 => ?_)
  obtain ⟨rfl, rfl, e53⟩ := hQ53
  refine OD.at 10 (fun t k => XS.pop X53.here hx rfl (bd 5).2 rfl rfl k) ?_
  exact OD.rV X53 (bd 6) hlk hrt ⟨rfl, rfl, e53⟩
theorem rm_pcFS (x0 : Int32) (x1 : Int32) (x2 : Int32) (fm : Value) (rfm : fm.isRef = true) (h0 : Heap) (hq : ¬ ((x2 ||| x0) ||| x1) < (0 : Int32) ∧ ¬ (x2 - x0) < x1) :
    MF l hw ⟨zZ9, zZ53, zZ20⟩ kQ17 4 (some .int) (rO 0 0 0 0) #[(.int x0), (.int x1), (.int x2), fm] h0 (Pu (some (.int x0)) h0) := by
  refine MF.of (pF pn2) (ef4 · x0 x1 x2 fm rfm) dP90 ?_
  intro p e s m below meth c s₁ bd hlk hml hown hnm hrt hZ X0 e0
  refine OD.at 24 (fun t k => ziN X0 (bd 0) rfl (ziN X0 (bd 1) rfl (zior X0 (bd 2) (ziN X0 (bd 3) rfl (zior X0 (bd 4) (zjN X0 (bd 5) (flt hq.1).1 (ziN X0 (bd 6) rfl (ziN X0 (bd 7) rfl (ziN X0 (bd 8) rfl (zisub X0 (bd 9) (zkY X0 (bd 10) 23 (flt hq.2).2.2.2 (ziN X0 (bd 11) rfl k)))))))))))) ?_
  exact OD.rI X0 (bd 12) hlk hrt rfl ⟨rfl, rfl, e0⟩
theorem rm_stOC (x0 : Int32) (x1 : Int32) (x2 : Int32) (h0 : Heap) (n0 : Nat) (X00 : Old Z n0 h0) (SS : STs Z zc fm u8 hxa kh) (hq : ¬ ((x2 ||| x0) ||| x1) < (0 : Int32) ∧ ¬ (x2 - x0) < x1) :
    MF l hw ⟨zZ0, zZ22, "(III)I"⟩ kQ18 3 (some .int) (rO 1 0 0 19) #[(.int x0), (.int x1), (.int x2)] h0 (Pu (some (.int x0)) h0) := by
  refine MF.of (pF pn3) (ef5 · x0 x1 x2) dP89 ?_
  intro p e s m below meth c s₁ bd hlk hml hown hnm hrt hZ X0 e0
  refine OD.at 3 (fun t k => ziN X0 (bd 0) rfl (ziN X0 (bd 1) rfl (ziN X0 (bd 2) rfl k))) ?_
  have f51 := (SS.2.2.2.2.2.1.ext X00.2)
  refine OD.gS X0 (bd 3) hZ hown hw Wd75 Via.refl e0 f51 (fun T52 X52 e52 => ?_)
  refine OD.cS X52 (bd 4) hZ hown hml Wd407 Wd408 Wd76 Wd409 pd1 (rm_pcFS hw x0 x1 x2 fm SS.2.2.2.2.2.2.1 h0 hq) e52 rfl (fun v53 T53 L53 X53 hQ53 => ?_)
  obtain ⟨rfl, rfl, e53⟩ := hQ53
  exact OD.rI X53 (bd 5) hlk hrt rfl ⟨rfl, rfl, e53⟩
theorem rmUL (va : Addr) (h0 : Heap) (ka : ClassId) (z : Int32) (F : Int32 → Int32) (Aa : Arv Z h0 va ka .byte z (own_rg z.toNatClampNeg (fun x => .int (F x))) (.int 0)) :
    MF l hw ⟨zZ1, "length", "([B)I"⟩ kQ19 1 (some .int) (rO 0 0 0 0) #[(.ref va)] h0 (Pu (some (.int (z >>> ((1 : Int32) &&& 31)))) h0) := by
  refine MF.of (pF pn4) (ef6 · va) dP80 ?_
  intro p e s m below meth c s₁ bd hlk hml hown hnm hrt hZ X0 e0
  refine OD.at 4 (fun t k => zaN X0 (bd 0) rfl rfl (zal X0 (bd 1) hZ e0 Aa (zcI X0 (bd 2) 1 rfl (zishr X0 (bd 3) k)))) ?_
  exact OD.rI X0 (bd 4) hlk hrt rfl ⟨rfl, rfl, e0⟩
theorem rmUCI (x0 : Int32) (va : Addr) (h0 : Heap) (n0 : Nat) (X00 : Old Z n0 h0) (SS : STs Z zc fm u8 hxa kh) (ka : ClassId) (z : Int32) (F : Int32 → Int32) (Aa : Arv Z h0 va ka .byte z (own_rg z.toNatClampNeg (fun x => .int (F x))) (.int 0)) (hq : ¬ x0 < (0 : Int32) ∧ x0 < (z >>> ((1 : Int32) &&& 31))) :
    MF l hw ⟨zZ1, zZ12, "(I[B)V"⟩ kQ20 2 none (rO 2 0 0 35) #[(.int x0), (.ref va)] h0 (Pu none h0) := by
  refine MF.of (pF pn4) (ef7 · x0 va) dP92 ?_
  intro p e s m below meth c s₁ bd hlk hml hown hnm hrt hZ X0 e0
  refine OD.at 2 (fun t k => ziN X0 (bd 0) rfl (zaN X0 (bd 1) rfl rfl k)) ?_
  refine OD.cS X0 (bd 2) hZ hown hml Wd374 Wd375 Wd17 Wd376 pd2 (rmUL hw va h0 ka z F Aa) e0 rfl (fun v51 T51 L51 X51 hQ51 => ?_)
  obtain ⟨rfl, rfl, e51⟩ := hQ51
  refine OD.cS X51 (bd 3) hZ hown hml Wd416 Wd73 Wd3 Wd74 pd3 (rm_stCI hw x0 (z >>> ((1 : Int32) &&& 31)) h0 n0 X00 SS hq) e51 rfl (fun v52 T52 L52 X52 hQ52 => ?_)
  obtain ⟨rfl, rfl, e52⟩ := hQ52
  exact OD.rV X52 (bd 4) hlk hrt ⟨rfl, rfl, e52⟩
theorem rmUBE (x0 : Int32) (x1 : Int32) (va : Addr) (h0 : Heap) (n0 : Nat) (X00 : Old Z n0 h0) (SS : STs Z zc fm u8 hxa kh) (ka : ClassId) (z : Int32) (F : Int32 → Int32) (Aa : Arv Z h0 va ka .byte z (own_rg z.toNatClampNeg (fun x => .int (F x))) (.int 0)) (hq : ¬ x0 < (0 : Int32) ∧ ¬ x1 < x0 ∧ ¬ (z >>> ((1 : Int32) &&& 31)) < x1) :
    MF l hw ⟨zZ1, zZ21, "(II[B)V"⟩ kQ21 3 none (rO 2 0 0 37) #[(.int x0), (.int x1), (.ref va)] h0 (Pu none h0) := by
  refine MF.of (pF pn4) (ef8 · x0 x1 va) dP79 ?_
  intro p e s m below meth c s₁ bd hlk hml hown hnm hrt hZ X0 e0
  refine OD.at 3 (fun t k => ziN X0 (bd 0) rfl (ziN X0 (bd 1) rfl (zaN X0 (bd 2) rfl rfl k))) ?_
  refine OD.cS X0 (bd 3) hZ hown hml Wd374 Wd375 Wd17 Wd376 pd2 (rmUL hw va h0 ka z F Aa) e0 rfl (fun v51 T51 L51 X51 hQ51 => ?_)
  obtain ⟨rfl, rfl, e51⟩ := hQ51
  refine OD.cS X51 (bd 4) hZ hown hml Wd377 Wd378 Wd3 Wd379 pd4 (rm_stBE hw x0 x1 (z >>> ((1 : Int32) &&& 31)) h0 n0 X00 SS hq) e51 rfl (fun v52 T52 L52 X52 hQ52 => ?_)
  obtain ⟨rfl, rfl, e52⟩ := hQ52
  exact OD.rV X52 (bd 5) hlk hrt ⟨rfl, rfl, e52⟩
theorem rmUOC (x0 : Int32) (x1 : Int32) (va : Addr) (h0 : Heap) (n0 : Nat) (X00 : Old Z n0 h0) (SS : STs Z zc fm u8 hxa kh) (ka : ClassId) (z : Int32) (F : Int32 → Int32) (Aa : Arv Z h0 va ka .byte z (own_rg z.toNatClampNeg (fun x => .int (F x))) (.int 0)) (hq : ¬ (((z >>> ((1 : Int32) &&& 31)) ||| x0) ||| x1) < (0 : Int32) ∧ ¬ ((z >>> ((1 : Int32) &&& 31)) - x0) < x1) :
    MF l hw ⟨zZ1, zZ22, "(II[B)V"⟩ kQ22 3 none (rO 2 0 0 37) #[(.int x0), (.int x1), (.ref va)] h0 (Pu none h0) := by
  refine MF.of (pF pn4) (ef8 · x0 x1 va) dP88 ?_
  intro p e s m below meth c s₁ bd hlk hml hown hnm hrt hZ X0 e0
  have hx := (bd 0).1
  refine OD.at 3 (fun t k => ziN X0 (bd 0) rfl (ziN X0 (bd 1) rfl (zaN X0 (bd 2) rfl rfl k))) ?_
  refine OD.cS X0 (bd 3) hZ hown hml Wd374 Wd375 Wd17 Wd376 pd2 (rmUL hw va h0 ka z F Aa) e0 rfl (fun v51 T51 L51 X51 hQ51 => ?_)
  obtain ⟨rfl, rfl, e51⟩ := hQ51
  refine OD.cS X51 (bd 4) hZ hown hml Wd404 Wd405 Wd3 Wd406 pd5 (rm_stOC hw x0 x1 (z >>> ((1 : Int32) &&& 31)) h0 n0 X00 SS hq) e51 rfl (fun v52 T52 L52 X52 hQ52 => ?_)
  obtain ⟨rfl, rfl, e52⟩ := hQ52
  refine OD.at 10 (fun t k => XS.pop X52.here hx rfl (bd 5).2 rfl rfl k) ?_
  exact OD.rV X52 (bd 6) hlk hrt ⟨rfl, rfl, e52⟩
theorem rmGC (va : Addr) (x1 : Int32) (h0 : Heap) (n0 : Nat) (X00 : Old Z n0 h0) (SS : STs Z zc fm u8 hxa kh) (ka : ClassId) (z : Int32) (F : Int32 → Int32) (Aa : Arv Z h0 va ka .byte z (own_rg z.toNatClampNeg (fun x => .int (F x))) (.int 0)) (hb0 : ¬ (x1 <<< ((1 : Int32) &&& 31)) < 0 ∧ (x1 <<< ((1 : Int32) &&& 31)) < z) (hb1 : ¬ ((x1 <<< ((1 : Int32) &&& 31)) + (1 : Int32)) < 0 ∧ ((x1 <<< ((1 : Int32) &&& 31)) + (1 : Int32)) < z) :
    MF l hw ⟨zZ1, "getChar", "([BI)C"⟩ kQ23 2 (some .char) (rO 0 0 0 0) #[(.ref va), (.int x1)] h0 (Pu (some (.int (own_gc F x1))) h0) := by
  refine MF.of (pF pn4) (ef9 · va x1) dP65 ?_
  intro p e s m below meth c s₁ bd hlk hml hown hnm hrt hZ X0 e0
  have hx := (bd 0).1
  have f51 := (SS.2.2.1.ext X00.2)
  refine OD.gS X0 (bd 0) hZ hown hw Wd304 Via.refl e0 f51 (fun T52 X52 e52 => ?_)
  refine OD.at 37 (fun t k => zjY X52 (bd 1) 28 (feq (by decide : ¬ (1 : Int32) = (0 : Int32))).2 (ziN X52 (bd 2) rfl (zcI X52 (bd 3) 1 rfl (zishl X52 (bd 4) (zsN X52 (bd 5) #[vR va, vI ((x1 <<< ((1 : Int32) &&& 31)))] rfl (zaN X52 (bd 6) rfl rfl (ziN X52 (bd 7) rfl (zic X52 (bd 8) rfl #[vR va, vI (((x1 <<< ((1 : Int32) &&& 31)) + (1 : Int32)))] rfl k)))))))) ?_
  obtain ⟨cl53, Ar53, hi53, ha53⟩ := own_at Aa (j := (x1 <<< ((1 : Int32) &&& 31))) (v := (.int (F (x1 <<< ((1 : Int32) &&& 31))))) hb0 (own_rg_at hb0 _ _)
  refine OD.at 42 (fun t k => X52.baloadBytes hx (j := (x1 <<< ((1 : Int32) &&& 31))) (v := (.int (F (x1 <<< ((1 : Int32) &&& 31))))) (by rw [e52]; exact Ar53.1) (State.isArrayOf_alike hZ.alike Ar53.2.1) Ar53.2.2 hi53 ha53 (g := (mkF m 37 #[vR va, vI (((x1 <<< ((1 : Int32) &&& 31)) + (1 : Int32)))] [(.int (x1 <<< ((1 : Int32) &&& 31))), (.ref va)])) rfl rfl (bd 9).2 _ (zcS X52 (bd 10) 255 rfl (ziand X52 (bd 11) k))) ?_
  have f54 := (SS.2.2.2.1.ext X00.2)
  refine OD.gS X52 (bd 12) hZ hown hw Wd305 Via.refl e52 f54 (fun T55 X55 e55 => ?_)
  refine OD.at 48 (fun t k => zishl X55 (bd 13) (zaN X55 (bd 14) rfl rfl (ziN X55 (bd 15) rfl k))) ?_
  obtain ⟨cl56, Ar56, hi56, ha56⟩ := own_at Aa (j := ((x1 <<< ((1 : Int32) &&& 31)) + (1 : Int32))) (v := (.int (F ((x1 <<< ((1 : Int32) &&& 31)) + (1 : Int32))))) hb1 (own_rg_at hb1 _ _)
  refine OD.at 53 (fun t k => X55.baloadBytes hx (j := ((x1 <<< ((1 : Int32) &&& 31)) + (1 : Int32))) (v := (.int (F ((x1 <<< ((1 : Int32) &&& 31)) + (1 : Int32))))) (by rw [e55]; exact Ar56.1) (State.isArrayOf_alike hZ.alike Ar56.2.1) Ar56.2.2 hi56 ha56 (g := (mkF m 48 #[vR va, vI (((x1 <<< ((1 : Int32) &&& 31)) + (1 : Int32)))] [(.int ((x1 <<< ((1 : Int32) &&& 31)) + (1 : Int32))), (.ref va), (.int (((F (x1 <<< ((1 : Int32) &&& 31))) &&& (255 : Int32)) <<< ((0 : Int32) &&& 31)))])) rfl rfl (bd 16).2 _ (zcS X55 (bd 17) 255 rfl (ziand X55 (bd 18) k))) ?_
  have f57 := (SS.2.2.2.2.1.ext X00.2)
  refine OD.gS X55 (bd 19) hZ hown hw Wd306 Via.refl e55 f57 (fun T58 X58 e58 => ?_)
  refine OD.at 59 (fun t k => zishl X58 (bd 20) (zior X58 (bd 21) (zi2c X58 (bd 22) k))) ?_
  show OD _ _ _ _ _ _ _ (T58.setTop (mkF m 59 #[vR va, vI (((x1 <<< ((1 : Int32) &&& 31)) + (1 : Int32)))] [.int (own_gc F x1)]))
  exact OD.rC X58 (bd 23) hlk hrt (own_i2c_nar _) ⟨rfl, rfl, e58⟩
def Q_rmPC (Z : State) (va : Addr) (x1 : Int32) (x2 : Int32) (h0 : Heap) (n0 : Nat) (ka : ClassId) (z : Int32) (F : Int32 → Int32) : QT := fun v h L => v = none ∧ Fr n0 L ∧ Keep h0 h [va] ∧ Arv Z h va ka .byte z (own_rg z.toNatClampNeg (fun x => .int ((own_pc F x1 x2) x))) (.int 0)
theorem rmPC (va : Addr) (x1 : Int32) (x2 : Int32) (h0 : Heap) (n0 : Nat) (X00 : Old Z n0 h0) (SS : STs Z zc fm u8 hxa kh) (Z0 : n0 ≤ h0.size) (ka : ClassId) (z : Int32) (F : Int32 → Int32) (Aa : Arv Z h0 va ka .byte z (own_rg z.toNatClampNeg (fun x => .int (F x))) (.int 0)) (hb0 : ¬ (x1 <<< ((1 : Int32) &&& 31)) < 0 ∧ (x1 <<< ((1 : Int32) &&& 31)) < z) (hb1 : ¬ ((x1 <<< ((1 : Int32) &&& 31)) + (1 : Int32)) < 0 ∧ ((x1 <<< ((1 : Int32) &&& 31)) + (1 : Int32)) < z) (gv : n0 ≤ va) :
    MF l hw ⟨zZ1, "putChar", "([BII)V"⟩ kQ24 3 none (rO 0 0 0 0) #[(.ref va), (.int x1), (.int x2)] h0 (Q_rmPC Z va x1 x2 h0 n0 ka z F) := by
  refine MF.of (pF pn4) (ef10 · va x1 x2) dP64 ?_
  intro p e s m below meth c s₁ bd hlk hml hown hnm hrt hZ X0 e0
  have hx := (bd 0).1
  have N0 := Fr.nil n0
  have f51 := (SS.2.2.1.ext X00.2)
  refine OD.gS X0 (bd 0) hZ hown hw Wd304 Via.refl e0 f51 (fun T52 X52 e52 => ?_)
  refine OD.at 38 (fun t k => zjY X52 (bd 1) 28 (feq (by decide : ¬ (1 : Int32) = (0 : Int32))).2 (ziN X52 (bd 2) rfl (zcI X52 (bd 3) 1 rfl (zishl X52 (bd 4) (zsN X52 (bd 5) #[vR va, vI ((x1 <<< ((1 : Int32) &&& 31))), vI x2] rfl (zaN X52 (bd 6) rfl rfl (ziN X52 (bd 7) rfl (zic X52 (bd 8) rfl #[vR va, vI (((x1 <<< ((1 : Int32) &&& 31)) + (1 : Int32))), vI x2] rfl (ziN X52 (bd 9) rfl k))))))))) ?_
  have f53 := (SS.2.2.2.1.ext X00.2)
  refine OD.gS X52 (bd 10) hZ hown hw Wd305 Via.refl e52 f53 (fun T54 X54 e54 => ?_)
  refine OD.at 43 (fun t k => zishr X54 (bd 11) (zi2b X54 (bd 12) k)) ?_
  obtain ⟨cl56, Ar56, q56, S56, M56, H56, G56⟩ := id Aa
  obtain ⟨T56, h56, X56, e56, W56, st56⟩ := stB X54 hx hZ e54 Ar56 (j := (x1 <<< ((1 : Int32) &&& 31))) (inb_of S56 hb0) (g := (mkF m 43 #[vR va, vI (((x1 <<< ((1 : Int32) &&& 31)) + (1 : Int32))), vI x2] [(.int (x2 >>> ((0 : Int32) &&& 31)).toInt8.toInt32), (.int (x1 <<< ((1 : Int32) &&& 31))), (.ref va)])) rfl rfl (bd 13).2
  have V56 : Arv Z h56 va ka .byte z (own_rg z.toNatClampNeg (fun x => .int ((own_up F (x1 <<< ((1 : Int32) &&& 31)) (x2 >>> ((0 : Int32) &&& 31)).toInt8.toInt32.toInt8.toInt32) x))) (.int 0) := own_put (fun x => .int ((own_up F (x1 <<< ((1 : Int32) &&& 31)) (x2 >>> ((0 : Int32) &&& 31)).toInt8.toInt32.toInt8.toInt32) x)) Ar56 q56 S56 M56 H56 G56 (fits_nar_byte _) W56 hb0 (congrArg Value.int (own_up_at _ _ _)) (fun x q => congrArg Value.int (own_up_ne _ _ q))
  have N56 := Fr.snoc X56 N0 gv
  refine OD.go (B := (T56.setTop (mkF m 44 #[vR va, vI (((x1 <<< ((1 : Int32) &&& 31)) + (1 : Int32))), vI x2] []))) st56 ?_
  refine OD.at 47 (fun t k => zaN X56 (bd 14) rfl rfl (ziN X56 (bd 15) rfl (ziN X56 (bd 16) rfl k))) ?_
  have f57 := (SS.2.2.2.2.1.ext (X00.wr W56 gv).2)
  refine OD.gS X56 (bd 17) hZ hown hw Wd306 Via.refl e56 f57 (fun T58 X58 e58 => ?_)
  refine OD.at 52 (fun t k => zishr X58 (bd 18) (zi2b X58 (bd 19) k)) ?_
  obtain ⟨cl60, Ar60, q60, S60, M60, H60, G60⟩ := id V56
  obtain ⟨T60, h60, X60, e60, W60, st60⟩ := stB X58 hx hZ e58 Ar60 (j := ((x1 <<< ((1 : Int32) &&& 31)) + (1 : Int32))) (inb_of S60 hb1) (g := (mkF m 52 #[vR va, vI (((x1 <<< ((1 : Int32) &&& 31)) + (1 : Int32))), vI x2] [(.int (x2 >>> ((8 : Int32) &&& 31)).toInt8.toInt32), (.int ((x1 <<< ((1 : Int32) &&& 31)) + (1 : Int32))), (.ref va)])) rfl rfl (bd 20).2
  have V60 : Arv Z h60 va ka .byte z (own_rg z.toNatClampNeg (fun x => .int ((own_up (own_up F (x1 <<< ((1 : Int32) &&& 31)) (x2 >>> ((0 : Int32) &&& 31)).toInt8.toInt32.toInt8.toInt32) ((x1 <<< ((1 : Int32) &&& 31)) + (1 : Int32)) (x2 >>> ((8 : Int32) &&& 31)).toInt8.toInt32.toInt8.toInt32) x))) (.int 0) := own_put (fun x => .int ((own_up (own_up F (x1 <<< ((1 : Int32) &&& 31)) (x2 >>> ((0 : Int32) &&& 31)).toInt8.toInt32.toInt8.toInt32) ((x1 <<< ((1 : Int32) &&& 31)) + (1 : Int32)) (x2 >>> ((8 : Int32) &&& 31)).toInt8.toInt32.toInt8.toInt32) x)) Ar60 q60 S60 M60 H60 G60 (fits_nar_byte _) W60 hb1 (congrArg Value.int (own_up_at _ _ _)) (fun x q => congrArg Value.int (own_up_ne _ _ q))
  have N60 := Fr.snoc X60 N56 gv
  refine OD.go (B := (T60.setTop (mkF m 53 #[vR va, vI (((x1 <<< ((1 : Int32) &&& 31)) + (1 : Int32))), vI x2] []))) st60 ?_
  exact OD.rV X60 (bd 21) hlk hrt ⟨rfl, N60, by rw [e60]; exact (((Keep.refl h0 [va]).wr W56 (Or.inl (mG 0 rfl))).wr W60 (Or.inl (mG 0 rfl))), by rw [e60]; exact V60⟩
theorem rmIL_4 (a1 : Addr) (h0 : Heap) (E1 : Exa Z h0 a1 zZ0) (C1 : Fld Z h0 a1 zZ0 "coder" "B" (.int 0)) (t1 : Addr) (kt : ClassId) (V1 : Fld Z h0 a1 zZ0 "value" "[B" (.ref t1)) (c0 c1 c2 c3 : Int32) (A1 : Arv Z h0 t1 kt .byte (4 : Int32) [(.int c0), (.int c1), (.int c2), (.int c3)] (.int 0)) (n0 : Nat) (X00 : Old Z n0 h0) (zc : Int32) (O2 : Sta Z Z.heap zZ0 zZ17 "Z" (.int zc)) (P5 : ¬ zc = 0) :
    MF l hw ⟨zZ0, "isLatin1", "()Z"⟩ kQ25 1 (some .boolean) (rO 0 0 0 0) #[(.ref a1)] h0 (Pu (some (.int 1)) h0) := by
  refine MF.of (pF pn3) (ef6 · a1) dP13 ?_
  intro p e s m below meth c s₁ bd hlk hml hown hnm hrt hZ X0 e0
  have f51 := (O2.ext X00.2)
  refine OD.gS X0 (bd 0) hZ hown hw Wd14 Via.refl e0 f51 (fun T52 X52 e52 => ?_)
  refine OD.at 7 (fun t k => zjN X52 (bd 1) (feq P5).1 (zaN X52 (bd 2) rfl rfl k)) ?_
  refine OD.gF X52 (bd 3) hZ hown hw Wd26 Via.refl e52 C1 (fun T53 X53 e53 => ?_)
  refine OD.at 18 (fun t k => zjN X53 (bd 4) (teq (by decide : (0 : Int32) = (0 : Int32))).2 (zcI X53 (bd 5) 1 rfl (zgO X53 (bd 6) 18 k))) ?_
  exact OD.rZ X53 (bd 7) hlk hrt rfl ⟨rfl, rfl, e53⟩
theorem rmCo_4 (a1 : Addr) (h0 : Heap) (E1 : Exa Z h0 a1 zZ0) (C1 : Fld Z h0 a1 zZ0 "coder" "B" (.int 0)) (t1 : Addr) (kt : ClassId) (V1 : Fld Z h0 a1 zZ0 "value" "[B" (.ref t1)) (c0 c1 c2 c3 : Int32) (A1 : Arv Z h0 t1 kt .byte (4 : Int32) [(.int c0), (.int c1), (.int c2), (.int c3)] (.int 0)) (n0 : Nat) (X00 : Old Z n0 h0) (zc : Int32) (O2 : Sta Z Z.heap zZ0 zZ17 "Z" (.int zc)) (P5 : ¬ zc = 0) :
    MF l hw ⟨zZ0, "coder", "()B"⟩ kQ26 1 (some .byte) (rO 0 0 0 0) #[(.ref a1)] h0 (Pu (some (.int 0)) h0) := by
  refine MF.of (pF pn3) (ef6 · a1) dP9 ?_
  intro p e s m below meth c s₁ bd hlk hml hown hnm hrt hZ X0 e0
  have f51 := (O2.ext X00.2)
  refine OD.gS X0 (bd 0) hZ hown hw Wd14 Via.refl e0 f51 (fun T52 X52 e52 => ?_)
  refine OD.at 7 (fun t k => zjN X52 (bd 1) (feq P5).1 (zaN X52 (bd 2) rfl rfl k)) ?_
  refine OD.gF X52 (bd 3) hZ hown hw Wd26 Via.refl e52 C1 (fun T53 X53 e53 => ?_)
  refine OD.at 14 (fun t k => zgO X53 (bd 4) 14 k) ?_
  exact OD.rB X53 (bd 5) hlk hrt rfl ⟨rfl, rfl, e53⟩
theorem rmLe_4 (a1 : Addr) (h0 : Heap) (E1 : Exa Z h0 a1 zZ0) (C1 : Fld Z h0 a1 zZ0 "coder" "B" (.int 0)) (t1 : Addr) (kt : ClassId) (V1 : Fld Z h0 a1 zZ0 "value" "[B" (.ref t1)) (c0 c1 c2 c3 : Int32) (A1 : Arv Z h0 t1 kt .byte (4 : Int32) [(.int c0), (.int c1), (.int c2), (.int c3)] (.int 0)) (n0 : Nat) (X00 : Old Z n0 h0) (zc : Int32) (O2 : Sta Z Z.heap zZ0 zZ17 "Z" (.int zc)) (P5 : ¬ zc = 0) :
    MF l hw ⟨zZ0, "length", "()I"⟩ kQ27 1 (some .int) (rO 1 0 0 13) #[(.ref a1)] h0 (Pu (some (.int 4)) h0) := by
  refine MF.of (pF pn3) (ef6 · a1) dP8 ?_
  intro p e s m below meth c s₁ bd hlk hml hown hnm hrt hZ X0 e0
  refine OD.at 1 (fun t k => zaN X0 (bd 0) rfl rfl k) ?_
  refine OD.gF X0 (bd 1) hZ hown hw Wd28 Via.refl e0 V1 (fun T51 X51 e51 => ?_)
  refine OD.at 6 (fun t k => zal X51 (bd 2) hZ e51 A1 (zaN X51 (bd 3) rfl rfl k)) ?_
  refine OD.cV X51 (bd 4) hZ hown hml Wd42 Wd43 (nfs hZ (Wd45 hw)) Wd45 Wd44 Wd3 Wd46 pd6 (rmCo_4 hw a1  h0 E1 C1 t1 kt V1 c0 c1 c2 c3 A1 n0 X00 zc O2 P5) e51 E1 rfl (fun v52 T52 L52 X52 hQ52 => ?_)
  obtain ⟨rfl, rfl, e52⟩ := hQ52
  refine OD.at 10 (fun t k => zishr X52 (bd 5) k) ?_
  have fin : ((4 : Int32) >>> ((0 : Int32) &&& 31)) = (4 : Int32) := by decide
  rw [fin]
  exact OD.rI X52 (bd 6) hlk hrt rfl ⟨rfl, rfl, e52⟩
theorem rmCEi (x0 : Int32) (h0 : Heap) :
    MF l hw ⟨zZ7, "canEncode", "(I)Z"⟩ kQ10 1 (some .boolean) (rO 0 0 0 0) #[(.int x0)] h0 (Pu (some (.int (own_ce x0))) h0) := by
  refine MF.of (pF pn1) (ef0 · x0) dP20 ?_
  intro p e s m below meth c s₁ bd hlk hml hown hnm hrt hZ X0 e0
  refine OD.at 1 (fun t k => ziN X0 (bd 0) rfl k) ?_
  obtain ⟨v16_51, hv16_51⟩ : ∃ z : Int32, z = (if x0 < (0 : Int32) then (0 : Int32) else (if (255 : Int32) < x0 then (0 : Int32) else (1 : Int32))) := ⟨_, rfl⟩
  refine OD.cut (B := (s₁.setTop (mkF m 16 #[vI x0] [(.int v16_51)]))) (fun J16_52 => ?_) ?_
  · skip
    by_cases c1_53 : x0 < (0 : Int32)
    · refine OD.at 16 (fun t k => zjY X0 (bd 1) 15 (tlt c1_53).1 (zcI X0 (bd 2) 0 rfl k)) ?_
      rw [if_pos c1_53] at hv16_51
      rw [hv16_51] at J16_52
      exact J16_52
    · refine OD.at 8 (fun t k => zjN X0 (bd 1) (flt c1_53).1 (ziN X0 (bd 3) rfl (zcS X0 (bd 4) 255 rfl k))) ?_
      by_cases c8_54 : (255 : Int32) < x0
      · refine OD.at 16 (fun t k => zkY X0 (bd 5) 15 (tlt c8_54).2.2.1 (zcI X0 (bd 2) 0 rfl k)) ?_
        rw [if_neg c1_53, if_pos c8_54] at hv16_51
        rw [hv16_51] at J16_52
        exact J16_52
      · refine OD.at 16 (fun t k => zkN X0 (bd 5) (flt c8_54).2.2.1 (zcI X0 (bd 6) 1 rfl (zgO X0 (bd 7) 16 k))) ?_
        rw [if_neg c1_53, if_neg c8_54] at hv16_51
        rw [hv16_51] at J16_52
        exact J16_52
  have fin : v16_51 = own_ce x0 := by rw [hv16_51]; rfl
  rw [fin]
  exact OD.rZ X0 (bd 8) hlk hrt (own_ce_nar x0) ⟨rfl, rfl, e0⟩
theorem rmMx00 (h0 : Heap) :
    MF l hw ⟨zZ10, "max", "(II)I"⟩ kQ11 2 (some .int) (rO 0 0 0 0) #[(.int 0), (.int 0)] h0 (Pu (some (.int 0)) h0) := by
  refine MF.of (by decide +kernel) (ef2 · (0 : Int32) (0 : Int32)) dP21 ?_
  intro p e s m below meth c s₁ bd hlk hml hown hnm hrt hZ X0 e0
  refine OD.at 10 (fun t k => ziN X0 (bd 0) rfl (ziN X0 (bd 1) rfl (zkN X0 (bd 2) (flt (by decide : ¬ (0 : Int32) < (0 : Int32))).1 (ziN X0 (bd 4) rfl (zgO X0 (bd 5) 10 k))))) ?_
  exact OD.rI X0 (bd 6) hlk hrt rfl ⟨rfl, rfl, e0⟩
theorem rmMn4 (h0 : Heap) :
    MF l hw ⟨zZ10, "min", "(II)I"⟩ kQ12 2 (some .int) (rO 0 0 0 0) #[(.int 4), (.int 4)] h0 (Pu (some (.int 4)) h0) := by
  refine MF.of (by decide +kernel) (ef2 · (4 : Int32) (4 : Int32)) dP22 ?_
  intro p e s m below meth c s₁ bd hlk hml hown hnm hrt hZ X0 e0
  refine OD.at 10 (fun t k => ziN X0 (bd 0) rfl (ziN X0 (bd 1) rfl (zkN X0 (bd 2) (flt (by decide : ¬ (4 : Int32) < (4 : Int32))).2.2.1 (ziN X0 (bd 4) rfl (zgO X0 (bd 5) 10 k))))) ?_
  exact OD.rI X0 (bd 6) hlk hrt rfl ⟨rfl, rfl, e0⟩
theorem rmIC4 (a1 : Addr) (x1 : Int32) (h0 : Heap) (kt : ClassId) (c0 c1 c2 c3 : Int32) (A1 : Arv Z h0 a1 kt .byte (4 : Int32) [(.int c0), (.int c1), (.int c2), (.int c3)] (.int 0)) :
    MF l hw ⟨zZ7, zZ18, "([BIII)I"⟩ kQ28 6 (some .int) (rO 0 0 0 0) #[(.ref a1), (.int x1), (.int 0), (.int 4)] h0 (Pu (some (.int (own_ix4 c0 c1 c2 c3 x1))) h0) := by
  refine MF.of (pF pn1) (ef11 · a1 x1 (0 : Int32) (4 : Int32)) dP23 ?_
  intro p e s m below meth c s₁ bd hlk hml hown hnm hrt hZ X0 e0
  have hx := (bd 0).1
  refine OD.at 16 (fun t k => ziN X0 (bd 0) rfl (zi2b X0 (bd 1) (zsI X0 (bd 2) #[vR a1, vI x1, vI 0, vI 4, vI (x1.toInt8.toInt32), .unset] rfl (ziN X0 (bd 3) rfl (zsI X0 (bd 4) #[vR a1, vI x1, vI 0, vI 4, vI (x1.toInt8.toInt32), vI 0] rfl (ziL X0 (bd 5) rfl (ziN X0 (bd 6) rfl (zkN X0 (bd 7) (tlt (by decide : (0 : Int32) < (4 : Int32))).2.1 (zaN X0 (bd 8) rfl rfl (ziL X0 (bd 9) rfl k)))))))))) ?_
  obtain ⟨cl51, Ar51, hi51, ha51⟩ := own_at A1 (j := (0 : Int32)) (v := (.int c0)) ⟨by decide, by decide⟩ rfl
  refine OD.at 19 (fun t k => X0.baloadBytes hx (j := (0 : Int32)) (v := (.int c0)) (by rw [e0]; exact Ar51.1) (State.isArrayOf_alike hZ.alike Ar51.2.1) Ar51.2.2 hi51 ha51 (g := (mkF m 16 #[vR a1, vI x1, vI 0, vI 4, vI (x1.toInt8.toInt32), vI 0] [(.int 0), (.ref a1)])) rfl rfl (bd 10).2 _ (ziL X0 (bd 11) rfl k)) ?_
  by_cases c19_52 : c0 = x1.toInt8.toInt32
  · refine OD.at 24 (fun t k => zkN X0 (bd 12) (teq c19_52).2 (ziL X0 (bd 13) rfl k)) ?_
    have fin : (own_ix4 c0 c1 c2 c3 x1) = (0 : Int32) := by unfold own_ix4; rw [if_pos c19_52]
    exact OD.rI X0 (bd 14) hlk hrt rfl ⟨by rw [fin], rfl, e0⟩
  · refine OD.at 16 (fun t k => zkY X0 (bd 12) 25 (feq c19_52).2 (zic X0 (bd 15) rfl #[vR a1, vI x1, vI 0, vI 4, vI (x1.toInt8.toInt32), vI 1] rfl (zgO X0 (bd 16) 7 (ziL X0 (bd 5) rfl (ziN X0 (bd 6) rfl (zkN X0 (bd 7) (tlt (by decide : (1 : Int32) < (4 : Int32))).2.1 (zaN X0 (bd 8) rfl rfl (ziL X0 (bd 9) rfl k)))))))) ?_
    obtain ⟨cl53, Ar53, hi53, ha53⟩ := own_at A1 (j := (1 : Int32)) (v := (.int c1)) ⟨by decide, by decide⟩ rfl
    refine OD.at 19 (fun t k => X0.baloadBytes hx (j := (1 : Int32)) (v := (.int c1)) (by rw [e0]; exact Ar53.1) (State.isArrayOf_alike hZ.alike Ar53.2.1) Ar53.2.2 hi53 ha53 (g := (mkF m 16 #[vR a1, vI x1, vI 0, vI 4, vI (x1.toInt8.toInt32), vI 1] [(.int 1), (.ref a1)])) rfl rfl (bd 10).2 _ (ziL X0 (bd 11) rfl k)) ?_
    by_cases c19_54 : c1 = x1.toInt8.toInt32
    · refine OD.at 24 (fun t k => zkN X0 (bd 12) (teq c19_54).2 (ziL X0 (bd 13) rfl k)) ?_
      have fin : (own_ix4 c0 c1 c2 c3 x1) = (1 : Int32) := by unfold own_ix4; rw [if_neg c19_52, if_pos c19_54]
      exact OD.rI X0 (bd 14) hlk hrt rfl ⟨by rw [fin], rfl, e0⟩
    · refine OD.at 16 (fun t k => zkY X0 (bd 12) 25 (feq c19_54).2 (zic X0 (bd 15) rfl #[vR a1, vI x1, vI 0, vI 4, vI (x1.toInt8.toInt32), vI 2] rfl (zgO X0 (bd 16) 7 (ziL X0 (bd 5) rfl (ziN X0 (bd 6) rfl (zkN X0 (bd 7) (tlt (by decide : (2 : Int32) < (4 : Int32))).2.1 (zaN X0 (bd 8) rfl rfl (ziL X0 (bd 9) rfl k)))))))) ?_
      obtain ⟨cl55, Ar55, hi55, ha55⟩ := own_at A1 (j := (2 : Int32)) (v := (.int c2)) ⟨by decide, by decide⟩ rfl
      refine OD.at 19 (fun t k => X0.baloadBytes hx (j := (2 : Int32)) (v := (.int c2)) (by rw [e0]; exact Ar55.1) (State.isArrayOf_alike hZ.alike Ar55.2.1) Ar55.2.2 hi55 ha55 (g := (mkF m 16 #[vR a1, vI x1, vI 0, vI 4, vI (x1.toInt8.toInt32), vI 2] [(.int 2), (.ref a1)])) rfl rfl (bd 10).2 _ (ziL X0 (bd 11) rfl k)) ?_
      by_cases c19_56 : c2 = x1.toInt8.toInt32
      · refine OD.at 24 (fun t k => zkN X0 (bd 12) (teq c19_56).2 (ziL X0 (bd 13) rfl k)) ?_
        have fin : (own_ix4 c0 c1 c2 c3 x1) = (2 : Int32) := by unfold own_ix4; rw [if_neg c19_52, if_neg c19_54, if_pos c19_56]
        exact OD.rI X0 (bd 14) hlk hrt rfl ⟨by rw [fin], rfl, e0⟩
      · refine OD.at 16 (fun t k => zkY X0 (bd 12) 25 (feq c19_56).2 (zic X0 (bd 15) rfl #[vR a1, vI x1, vI 0, vI 4, vI (x1.toInt8.toInt32), vI 3] rfl (zgO X0 (bd 16) 7 (ziL X0 (bd 5) rfl (ziN X0 (bd 6) rfl (zkN X0 (bd 7) (tlt (by decide : (3 : Int32) < (4 : Int32))).2.1 (zaN X0 (bd 8) rfl rfl (ziL X0 (bd 9) rfl k)))))))) ?_
        obtain ⟨cl57, Ar57, hi57, ha57⟩ := own_at A1 (j := (3 : Int32)) (v := (.int c3)) ⟨by decide, by decide⟩ rfl
        refine OD.at 19 (fun t k => X0.baloadBytes hx (j := (3 : Int32)) (v := (.int c3)) (by rw [e0]; exact Ar57.1) (State.isArrayOf_alike hZ.alike Ar57.2.1) Ar57.2.2 hi57 ha57 (g := (mkF m 16 #[vR a1, vI x1, vI 0, vI 4, vI (x1.toInt8.toInt32), vI 3] [(.int 3), (.ref a1)])) rfl rfl (bd 10).2 _ (ziL X0 (bd 11) rfl k)) ?_
        by_cases c19_58 : c3 = x1.toInt8.toInt32
        · refine OD.at 24 (fun t k => zkN X0 (bd 12) (teq c19_58).2 (ziL X0 (bd 13) rfl k)) ?_
          have fin : (own_ix4 c0 c1 c2 c3 x1) = (3 : Int32) := by unfold own_ix4; rw [if_neg c19_52, if_neg c19_54, if_neg c19_56, if_pos c19_58]
          exact OD.rI X0 (bd 14) hlk hrt rfl ⟨by rw [fin], rfl, e0⟩
        · refine OD.at 32 (fun t k => zkY X0 (bd 12) 25 (feq c19_58).2 (zic X0 (bd 15) rfl #[vR a1, vI x1, vI 0, vI 4, vI (x1.toInt8.toInt32), vI 4] rfl (zgO X0 (bd 16) 7 (ziL X0 (bd 5) rfl (ziN X0 (bd 6) rfl (zkY X0 (bd 7) 31 (flt (by decide : ¬ (4 : Int32) < (4 : Int32))).2.1 (zcI X0 (bd 17) (-1) rfl k))))))) ?_
          have fin : (own_ix4 c0 c1 c2 c3 x1) = (-1 : Int32) := by unfold own_ix4; rw [if_neg c19_52, if_neg c19_54, if_neg c19_56, if_neg c19_58]
          exact OD.rI X0 (bd 18) hlk hrt rfl ⟨by rw [fin], rfl, e0⟩
theorem rmLI4 (a1 : Addr) (x1 : Int32) (h0 : Heap) (kt : ClassId) (c0 c1 c2 c3 : Int32) (A1 : Arv Z h0 a1 kt .byte (4 : Int32) [(.int c0), (.int c1), (.int c2), (.int c3)] (.int 0)) :
    MF l hw ⟨zZ7, "indexOf", "([BIII)I"⟩ kQ29 4 (some .int) (rO 1 0 0 20) #[(.ref a1), (.int x1), (.int 0), (.int 4)] h0 (Pu (some (.int (own_li4 c0 c1 c2 c3 x1))) h0) := by
  refine MF.of (pF pn1) (ef12 · a1 x1 (0 : Int32) (4 : Int32)) dP19 ?_
  intro p e s m below meth c s₁ bd hlk hml hown hnm hrt hZ X0 e0
  refine OD.at 1 (fun t k => ziN X0 (bd 0) rfl k) ?_
  refine OD.cS X0 (bd 1) hZ hown hml Wd101 Wd102 Wd99 Wd103 pd7 (rmCEi hw x1 h0) e0 rfl (fun v51 T51 L51 X51 hQ51 => ?_)
  obtain ⟨rfl, rfl, e51⟩ := hQ51
  by_cases c4_52 : (own_ce x1) = (0 : Int32)
  · refine OD.at 8 (fun t k => zjN X51 (bd 2) (teq c4_52).2 (zcI X51 (bd 3) (-1) rfl k)) ?_
    have fin : (own_li4 c0 c1 c2 c3 x1) = (-1 : Int32) := by unfold own_li4; rw [if_pos c4_52]
    exact OD.rI X51 (bd 4) hlk hrt rfl ⟨by rw [fin], rfl, e51⟩
  · refine OD.at 11 (fun t k => zjY X51 (bd 2) 9 (feq c4_52).2 (ziN X51 (bd 5) rfl (zcI X51 (bd 6) 0 rfl k))) ?_
    refine OD.cS X51 (bd 7) hZ hown hml Wd104 Wd105 Wd106 Wd107 pd8 (rmMx00 hw h0) e51 rfl (fun v53 T53 L53 X53 hQ53 => ?_)
    obtain ⟨rfl, rfl, e53⟩ := hQ53
    refine OD.at 18 (fun t k => zsN X53 (bd 8) #[vR a1, vI x1, vI 0, vI 4] rfl (ziN X53 (bd 9) rfl (zaN X53 (bd 10) rfl rfl (zal X53 (bd 11) hZ e53 A1 k)))) ?_
    refine OD.cS X53 (bd 12) hZ hown hml Wd108 Wd109 Wd106 Wd110 pd8 (rmMn4 hw h0) e53 rfl (fun v54 T54 L54 X54 hQ54 => ?_)
    obtain ⟨rfl, rfl, e54⟩ := hQ54
    refine OD.at 33 (fun t k => zsN X54 (bd 13) #[vR a1, vI x1, vI 0, vI 4] rfl (ziN X54 (bd 14) rfl (ziN X54 (bd 15) rfl (zkY X54 (bd 16) 29 (tlt (by decide : (0 : Int32) < (4 : Int32))).1 (zaN X54 (bd 17) rfl rfl (ziN X54 (bd 18) rfl (ziN X54 (bd 19) rfl (ziN X54 (bd 20) rfl k)))))))) ?_
    refine OD.cS X54 (bd 21) hZ hown hml Wd111 Wd112 Wd99 Wd113 pd9 (rmIC4 hw a1 x1 h0 kt c0 c1 c2 c3 A1) e54 rfl (fun v55 T55 L55 X55 hQ55 => ?_)
    obtain ⟨rfl, rfl, e55⟩ := hQ55
    have fin : (own_li4 c0 c1 c2 c3 x1) = (own_ix4 c0 c1 c2 c3 x1) := by unfold own_li4; rw [if_neg c4_52]
    exact OD.rI X55 (bd 22) hlk hrt rfl ⟨by rw [fin], rfl, e55⟩
theorem rmX2_4 (a1 : Addr) (x1 : Int32) (h0 : Heap) (E1 : Exa Z h0 a1 zZ0) (C1 : Fld Z h0 a1 zZ0 "coder" "B" (.int 0)) (t1 : Addr) (kt : ClassId) (V1 : Fld Z h0 a1 zZ0 "value" "[B" (.ref t1)) (c0 c1 c2 c3 : Int32) (A1 : Arv Z h0 t1 kt .byte (4 : Int32) [(.int c0), (.int c1), (.int c2), (.int c3)] (.int 0)) (n0 : Nat) (X00 : Old Z n0 h0) (zc : Int32) (O2 : Sta Z Z.heap zZ0 zZ17 "Z" (.int zc)) (P5 : ¬ zc = 0) :
    MF l hw ⟨zZ0, "indexOf", "(II)I"⟩ kQ30 3 (some .int) (rO 3 0 0 60) #[(.ref a1), (.int x1), (.int 0)] h0 (Pu (some (.int (own_li4 c0 c1 c2 c3 x1))) h0) := by
  refine MF.of (pF pn3) (ef10 · a1 x1 (0 : Int32)) dP18 ?_
  intro p e s m below meth c s₁ bd hlk hml hown hnm hrt hZ X0 e0
  refine OD.at 1 (fun t k => zaN X0 (bd 0) rfl rfl k) ?_
  refine OD.cV X0 (bd 1) hZ hown hml Wd67 Wd68 (nfs hZ (Wd70 hw)) Wd70 Wd69 Wd3 Wd71 pd10 (rmIL_4 hw a1  h0 E1 C1 t1 kt V1 c0 c1 c2 c3 A1 n0 X00 zc O2 P5) e0 E1 rfl (fun v51 T51 L51 X51 hQ51 => ?_)
  obtain ⟨rfl, rfl, e51⟩ := hQ51
  refine OD.at 8 (fun t k => zjN X51 (bd 2) (feq (by decide : ¬ (1 : Int32) = (0 : Int32))).1 (zaN X51 (bd 3) rfl rfl k)) ?_
  refine OD.gF X51 (bd 4) hZ hown hw Wd28 Via.refl e51 V1 (fun T52 X52 e52 => ?_)
  refine OD.at 14 (fun t k => ziN X52 (bd 5) rfl (ziN X52 (bd 6) rfl (zaN X52 (bd 7) rfl rfl k))) ?_
  refine OD.cV X52 (bd 8) hZ hown hml Wd96 Wd38 (nfs hZ (Wd40 hw)) Wd40 Wd39 Wd3 Wd41 pd11 (rmLe_4 hw a1  h0 E1 C1 t1 kt V1 c0 c1 c2 c3 A1 n0 X00 zc O2 P5) e52 E1 rfl (fun v53 T53 L53 X53 hQ53 => ?_)
  obtain ⟨rfl, rfl, e53⟩ := hQ53
  refine OD.cS X53 (bd 9) hZ hown hml Wd97 Wd98 Wd99 Wd100 pd9 (rmLI4 hw t1 x1 h0 kt c0 c1 c2 c3 A1) e53 rfl (fun v54 T54 L54 X54 hQ54 => ?_)
  obtain ⟨rfl, rfl, e54⟩ := hQ54
  refine OD.at 36 (fun t k => zgO X54 (bd 10) 36 k) ?_
  exact OD.rI X54 (bd 11) hlk hrt rfl ⟨rfl, rfl, e54⟩
theorem rmX1_4 (a1 : Addr) (x1 : Int32) (h0 : Heap) (E1 : Exa Z h0 a1 zZ0) (C1 : Fld Z h0 a1 zZ0 "coder" "B" (.int 0)) (t1 : Addr) (kt : ClassId) (V1 : Fld Z h0 a1 zZ0 "value" "[B" (.ref t1)) (c0 c1 c2 c3 : Int32) (A1 : Arv Z h0 t1 kt .byte (4 : Int32) [(.int c0), (.int c1), (.int c2), (.int c3)] (.int 0)) (n0 : Nat) (X00 : Old Z n0 h0) (zc : Int32) (O2 : Sta Z Z.heap zZ0 zZ17 "Z" (.int zc)) (P5 : ¬ zc = 0) :
    MF l hw ⟨zZ0, "indexOf", "(I)I"⟩ kQ31 2 (some .int) (rO 4 0 0 80) #[(.ref a1), (.int x1)] h0 (Pu (some (.int (own_li4 c0 c1 c2 c3 x1))) h0) := by
  refine MF.of (pF pn3) (ef9 · a1 x1) dP17 ?_
  intro p e s m below meth c s₁ bd hlk hml hown hnm hrt hZ X0 e0
  refine OD.at 3 (fun t k => zaN X0 (bd 0) rfl rfl (ziN X0 (bd 1) rfl (zcI X0 (bd 2) 0 rfl k))) ?_
  refine OD.cV X0 (bd 3) hZ hown hml Wd91 Wd92 (nfs hZ (Wd94 hw)) Wd94 Wd93 Wd3 Wd95 pd8 (rmX2_4 hw a1 x1 h0 E1 C1 t1 kt V1 c0 c1 c2 c3 A1 n0 X00 zc O2 P5) e0 E1 rfl (fun v51 T51 L51 X51 hQ51 => ?_)
  obtain ⟨rfl, rfl, e51⟩ := hQ51
  exact OD.rI X51 (bd 4) hlk hrt rfl ⟨rfl, rfl, e51⟩
theorem rmSI0 (a1 : Addr) (h0 : Heap) (n0 : Nat) (X00 : Old Z n0 h0) (SS : STs Z zc fm u8 hxa kh) (C1 : Fld Z h0 a1 zZ0 "coder" "B" (.int 0)) (E1 : Exa Z h0 a1 zZ0) :
    MF l hw ⟨zZ0, "isLatin1", "()Z"⟩ kQ25 1 (some .boolean) (rO 0 0 0 0) #[(.ref a1)] h0 (Pu (some (.int 1)) h0) := by
  refine MF.of (pF pn3) (ef6 · a1) dP13 ?_
  intro p e s m below meth c s₁ bd hlk hml hown hnm hrt hZ X0 e0
  have f51 := (SS.1.ext X00.2)
  refine OD.gS X0 (bd 0) hZ hown hw Wd14 Via.refl e0 f51 (fun T52 X52 e52 => ?_)
  refine OD.at 7 (fun t k => zjN X52 (bd 1) (feq SS.2.1).1 (zaN X52 (bd 2) rfl rfl k)) ?_
  refine OD.gF X52 (bd 3) hZ hown hw Wd26 Via.refl e52 C1 (fun T53 X53 e53 => ?_)
  refine OD.at 18 (fun t k => zjN X53 (bd 4) (teq (by decide : (0 : Int32) = (0 : Int32))).2 (zcI X53 (bd 5) 1 rfl (zgO X53 (bd 6) 18 k))) ?_
  exact OD.rZ X53 (bd 7) hlk hrt rfl ⟨rfl, rfl, e53⟩
theorem rmSC0 (a1 : Addr) (h0 : Heap) (n0 : Nat) (X00 : Old Z n0 h0) (SS : STs Z zc fm u8 hxa kh) (C1 : Fld Z h0 a1 zZ0 "coder" "B" (.int 0)) (E1 : Exa Z h0 a1 zZ0) :
    MF l hw ⟨zZ0, "coder", "()B"⟩ kQ26 1 (some .byte) (rO 0 0 0 0) #[(.ref a1)] h0 (Pu (some (.int 0)) h0) := by
  refine MF.of (pF pn3) (ef6 · a1) dP9 ?_
  intro p e s m below meth c s₁ bd hlk hml hown hnm hrt hZ X0 e0
  have f51 := (SS.1.ext X00.2)
  refine OD.gS X0 (bd 0) hZ hown hw Wd14 Via.refl e0 f51 (fun T52 X52 e52 => ?_)
  refine OD.at 7 (fun t k => zjN X52 (bd 1) (feq SS.2.1).1 (zaN X52 (bd 2) rfl rfl k)) ?_
  refine OD.gF X52 (bd 3) hZ hown hw Wd26 Via.refl e52 C1 (fun T53 X53 e53 => ?_)
  refine OD.at 14 (fun t k => zgO X53 (bd 4) 14 k) ?_
  exact OD.rB X53 (bd 5) hlk hrt rfl ⟨rfl, rfl, e53⟩
theorem rmSI1 (a1 : Addr) (h0 : Heap) (n0 : Nat) (X00 : Old Z n0 h0) (SS : STs Z zc fm u8 hxa kh) (C1 : Fld Z h0 a1 zZ0 "coder" "B" (.int 1)) (E1 : Exa Z h0 a1 zZ0) :
    MF l hw ⟨zZ0, "isLatin1", "()Z"⟩ kQ25 1 (some .boolean) (rO 0 0 0 0) #[(.ref a1)] h0 (Pu (some (.int 0)) h0) := by
  refine MF.of (pF pn3) (ef6 · a1) dP13 ?_
  intro p e s m below meth c s₁ bd hlk hml hown hnm hrt hZ X0 e0
  have f51 := (SS.1.ext X00.2)
  refine OD.gS X0 (bd 0) hZ hown hw Wd14 Via.refl e0 f51 (fun T52 X52 e52 => ?_)
  refine OD.at 7 (fun t k => zjN X52 (bd 1) (feq SS.2.1).1 (zaN X52 (bd 2) rfl rfl k)) ?_
  refine OD.gF X52 (bd 3) hZ hown hw Wd26 Via.refl e52 C1 (fun T53 X53 e53 => ?_)
  refine OD.at 18 (fun t k => zjY X53 (bd 4) 17 (feq (by decide : ¬ (1 : Int32) = (0 : Int32))).2 (zcI X53 (bd 8) 0 rfl k)) ?_
  exact OD.rZ X53 (bd 7) hlk hrt rfl ⟨rfl, rfl, e53⟩
theorem rmSC1 (a1 : Addr) (h0 : Heap) (n0 : Nat) (X00 : Old Z n0 h0) (SS : STs Z zc fm u8 hxa kh) (C1 : Fld Z h0 a1 zZ0 "coder" "B" (.int 1)) (E1 : Exa Z h0 a1 zZ0) :
    MF l hw ⟨zZ0, "coder", "()B"⟩ kQ26 1 (some .byte) (rO 0 0 0 0) #[(.ref a1)] h0 (Pu (some (.int 1)) h0) := by
  refine MF.of (pF pn3) (ef6 · a1) dP9 ?_
  intro p e s m below meth c s₁ bd hlk hml hown hnm hrt hZ X0 e0
  have f51 := (SS.1.ext X00.2)
  refine OD.gS X0 (bd 0) hZ hown hw Wd14 Via.refl e0 f51 (fun T52 X52 e52 => ?_)
  refine OD.at 7 (fun t k => zjN X52 (bd 1) (feq SS.2.1).1 (zaN X52 (bd 2) rfl rfl k)) ?_
  refine OD.gF X52 (bd 3) hZ hown hw Wd26 Via.refl e52 C1 (fun T53 X53 e53 => ?_)
  refine OD.at 14 (fun t k => zgO X53 (bd 4) 14 k) ?_
  exact OD.rB X53 (bd 5) hlk hrt rfl ⟨rfl, rfl, e53⟩
theorem rmLn (a1 : Addr) (h0 : Heap) (n0 : Nat) (X00 : Old Z n0 h0) (SS : STs Z zc fm u8 hxa kh) (t1 : Addr) (cs : List Int32) (HS : Strg Z h0 a1 t1 cs) (hl : cs.length ≤ 1000) :
    MF l hw ⟨zZ0, "length", "()I"⟩ kQ27 1 (some .int) (rO 1 0 0 13) #[(.ref a1)] h0 (Pu (some (.int (Int32.ofNat cs.length))) h0) := by
  refine MF.of (pF pn3) (ef6 · a1) dP8 ?_
  intro p e s m below meth c s₁ bd hlk hml hown hnm hrt hZ X0 e0
  obtain ⟨E1, Et, V1, kt, z, F, A1, hcd⟩ := HS
  rcases hcd with ⟨C1, hz, hR⟩ | ⟨C1, hz, hR⟩
  · skip
    refine OD.at 1 (fun t k => zaN X0 (bd 0) rfl rfl k) ?_
    refine OD.gF X0 (bd 1) hZ hown hw Wd28 Via.refl e0 V1 (fun T51 X51 e51 => ?_)
    refine OD.at 6 (fun t k => zal X51 (bd 2) hZ e51 A1 (zaN X51 (bd 3) rfl rfl k)) ?_
    refine OD.cV X51 (bd 4) hZ hown hml Wd42 Wd43 (nfs hZ (Wd45 hw)) Wd45 Wd44 Wd3 Wd46 pd6 (rmSC0 hw a1 h0 n0 X00 SS C1 E1) e51 E1 rfl (fun v52 T52 L52 X52 hQ52 => ?_)
    obtain ⟨rfl, rfl, e52⟩ := hQ52
    refine OD.at 10 (fun t k => zishr X52 (bd 5) k) ?_
    have fin : (z >>> ((0 : Int32) &&& 31)) = Int32.ofNat cs.length := (own_sr0 z).trans (Int32.toInt_inj.mp (by rw [own_on (by omega)]; exact hz))
    rw [fin]
    exact OD.rI X52 (bd 6) hlk hrt rfl ⟨rfl, rfl, e52⟩
  · skip
    refine OD.at 1 (fun t k => zaN X0 (bd 0) rfl rfl k) ?_
    refine OD.gF X0 (bd 1) hZ hown hw Wd28 Via.refl e0 V1 (fun T53 X53 e53 => ?_)
    refine OD.at 6 (fun t k => zal X53 (bd 2) hZ e53 A1 (zaN X53 (bd 3) rfl rfl k)) ?_
    refine OD.cV X53 (bd 4) hZ hown hml Wd42 Wd43 (nfs hZ (Wd45 hw)) Wd45 Wd44 Wd3 Wd46 pd6 (rmSC1 hw a1 h0 n0 X00 SS C1 E1) e53 E1 rfl (fun v54 T54 L54 X54 hQ54 => ?_)
    obtain ⟨rfl, rfl, e54⟩ := hQ54
    refine OD.at 10 (fun t k => zishr X54 (bd 5) k) ?_
    have fin : (z >>> ((1 : Int32) &&& 31)) = Int32.ofNat cs.length := own_sr1 (by rw [own_on (by omega)]; exact hz)
    rw [fin]
    exact OD.rI X54 (bd 6) hlk hrt rfl ⟨rfl, rfl, e54⟩
theorem rmLo0 (a1 : Addr) (h0 : Heap) (n0 : Nat) (X00 : Old Z n0 h0) (SS : STs Z zc fm u8 hxa kh) (va : Addr) (ka : ClassId) (z : Int32) (F : Int32 → Int32) (Aa : Arv Z h0 va ka .byte z (own_rg z.toNatClampNeg (fun x => .int (F x))) (.int 0)) (V1 : Fld Z h0 a1 zZ0 "value" "[B" (.ref va)) (C1 : Fld Z h0 a1 zZ0 "coder" "B" (.int 0)) (E1 : Exa Z h0 a1 zZ0) :
    MF l hw ⟨zZ0, "length", "()I"⟩ kQ27 1 (some .int) (rO 1 0 0 13) #[(.ref a1)] h0 (Pu (some (.int (z >>> ((0 : Int32) &&& 31)))) h0) := by
  refine MF.of (pF pn3) (ef6 · a1) dP8 ?_
  intro p e s m below meth c s₁ bd hlk hml hown hnm hrt hZ X0 e0
  refine OD.at 1 (fun t k => zaN X0 (bd 0) rfl rfl k) ?_
  refine OD.gF X0 (bd 1) hZ hown hw Wd28 Via.refl e0 V1 (fun T51 X51 e51 => ?_)
  refine OD.at 6 (fun t k => zal X51 (bd 2) hZ e51 Aa (zaN X51 (bd 3) rfl rfl k)) ?_
  refine OD.cV X51 (bd 4) hZ hown hml Wd42 Wd43 (nfs hZ (Wd45 hw)) Wd45 Wd44 Wd3 Wd46 pd6 (rmSC0 hw a1 h0 n0 X00 SS C1 E1) e51 E1 rfl (fun v52 T52 L52 X52 hQ52 => ?_)
  obtain ⟨rfl, rfl, e52⟩ := hQ52
  refine OD.at 10 (fun t k => zishr X52 (bd 5) k) ?_
  exact OD.rI X52 (bd 6) hlk hrt rfl ⟨rfl, rfl, e52⟩
theorem rmLo1 (a1 : Addr) (h0 : Heap) (n0 : Nat) (X00 : Old Z n0 h0) (SS : STs Z zc fm u8 hxa kh) (va : Addr) (ka : ClassId) (z : Int32) (F : Int32 → Int32) (Aa : Arv Z h0 va ka .byte z (own_rg z.toNatClampNeg (fun x => .int (F x))) (.int 0)) (V1 : Fld Z h0 a1 zZ0 "value" "[B" (.ref va)) (C1 : Fld Z h0 a1 zZ0 "coder" "B" (.int 1)) (E1 : Exa Z h0 a1 zZ0) :
    MF l hw ⟨zZ0, "length", "()I"⟩ kQ27 1 (some .int) (rO 1 0 0 13) #[(.ref a1)] h0 (Pu (some (.int (z >>> ((1 : Int32) &&& 31)))) h0) := by
  refine MF.of (pF pn3) (ef6 · a1) dP8 ?_
  intro p e s m below meth c s₁ bd hlk hml hown hnm hrt hZ X0 e0
  refine OD.at 1 (fun t k => zaN X0 (bd 0) rfl rfl k) ?_
  refine OD.gF X0 (bd 1) hZ hown hw Wd28 Via.refl e0 V1 (fun T51 X51 e51 => ?_)
  refine OD.at 6 (fun t k => zal X51 (bd 2) hZ e51 Aa (zaN X51 (bd 3) rfl rfl k)) ?_
  refine OD.cV X51 (bd 4) hZ hown hml Wd42 Wd43 (nfs hZ (Wd45 hw)) Wd45 Wd44 Wd3 Wd46 pd6 (rmSC1 hw a1 h0 n0 X00 SS C1 E1) e51 E1 rfl (fun v52 T52 L52 X52 hQ52 => ?_)
  obtain ⟨rfl, rfl, e52⟩ := hQ52
  refine OD.at 10 (fun t k => zishr X52 (bd 5) k) ?_
  exact OD.rI X52 (bd 6) hlk hrt rfl ⟨rfl, rfl, e52⟩
theorem rmLCA (va : Addr) (x1 : Int32) (h0 : Heap) (n0 : Nat) (X00 : Old Z n0 h0) (SS : STs Z zc fm u8 hxa kh) (ka : ClassId) (z : Int32) (F : Int32 → Int32) (Aa : Arv Z h0 va ka .byte z (own_rg z.toNatClampNeg (fun x => .int (F x))) (.int 0)) (hq : ¬ x1 < (0 : Int32) ∧ x1 < z) :
    MF l hw ⟨zZ7, "charAt", "([BI)C"⟩ kQ32 2 (some .char) (rO 2 0 0 35) #[(.ref va), (.int x1)] h0 (Pu (some (.int (own_lc F x1))) h0) := by
  refine MF.of (pF pn1) (ef9 · va x1) dP57 ?_
  intro p e s m below meth c s₁ bd hlk hml hown hnm hrt hZ X0 e0
  have hx := (bd 0).1
  refine OD.at 3 (fun t k => ziN X0 (bd 0) rfl (zaN X0 (bd 1) rfl rfl (zal X0 (bd 2) hZ e0 Aa k))) ?_
  refine OD.cS X0 (bd 3) hZ hown hml Wd272 Wd73 Wd3 Wd74 pd3 (rm_stCI hw x1 z h0 n0 X00 SS hq) e0 rfl (fun v51 T51 L51 X51 hQ51 => ?_)
  obtain ⟨rfl, rfl, e51⟩ := hQ51
  refine OD.at 8 (fun t k => zaN X51 (bd 4) rfl rfl (ziN X51 (bd 5) rfl k)) ?_
  obtain ⟨cl52, Ar52, hi52, ha52⟩ := own_at Aa (j := x1) (v := (.int (F x1))) hq (own_rg_at hq _ _)
  refine OD.at 14 (fun t k => X51.baloadBytes hx (j := x1) (v := (.int (F x1))) (by rw [e51]; exact Ar52.1) (State.isArrayOf_alike hZ.alike Ar52.2.1) Ar52.2.2 hi52 ha52 (g := (mkF m 8 #[vR va, vI x1] [(.int x1), (.ref va)])) rfl rfl (bd 6).2 _ (zcS X51 (bd 7) 255 rfl (ziand X51 (bd 8) (zi2c X51 (bd 9) k)))) ?_
  show OD _ _ _ _ _ _ _ (T51.setTop (mkF m 14 #[vR va, vI x1] [.int (own_lc F x1)]))
  exact OD.rC X51 (bd 10) hlk hrt (own_i2c_nar _) ⟨rfl, rfl, e51⟩
theorem rmUCA (va : Addr) (x1 : Int32) (h0 : Heap) (n0 : Nat) (X00 : Old Z n0 h0) (SS : STs Z zc fm u8 hxa kh) (ka : ClassId) (z : Int32) (F : Int32 → Int32) (Aa : Arv Z h0 va ka .byte z (own_rg z.toNatClampNeg (fun x => .int (F x))) (.int 0)) (hb0 : ¬ (x1 <<< ((1 : Int32) &&& 31)) < 0 ∧ (x1 <<< ((1 : Int32) &&& 31)) < z) (hb1 : ¬ ((x1 <<< ((1 : Int32) &&& 31)) + (1 : Int32)) < 0 ∧ ((x1 <<< ((1 : Int32) &&& 31)) + (1 : Int32)) < z) (hq : ¬ x1 < (0 : Int32) ∧ x1 < (z >>> ((1 : Int32) &&& 31))) :
    MF l hw ⟨zZ1, "charAt", "([BI)C"⟩ kQ33 2 (some .char) (rO 3 0 0 52) #[(.ref va), (.int x1)] h0 (Pu (some (.int (own_gc F x1))) h0) := by
  refine MF.of (pF pn4) (ef9 · va x1) dP93 ?_
  intro p e s m below meth c s₁ bd hlk hml hown hnm hrt hZ X0 e0
  refine OD.at 2 (fun t k => ziN X0 (bd 0) rfl (zaN X0 (bd 1) rfl rfl k)) ?_
  refine OD.cS X0 (bd 2) hZ hown hml Wd413 Wd414 Wd17 Wd415 pd12 (rmUCI hw x1 va h0 n0 X00 SS ka z F Aa hq) e0 rfl (fun v51 T51 L51 X51 hQ51 => ?_)
  obtain ⟨rfl, rfl, e51⟩ := hQ51
  refine OD.at 7 (fun t k => zaN X51 (bd 3) rfl rfl (ziN X51 (bd 4) rfl k)) ?_
  refine OD.cS X51 (bd 5) hZ hown hml Wd307 Wd308 Wd17 Wd309 pd13 (rmGC hw va x1 h0 n0 X00 SS ka z F Aa hb0 hb1) e51 rfl (fun v52 T52 L52 X52 hQ52 => ?_)
  obtain ⟨rfl, rfl, e52⟩ := hQ52
  exact OD.rC X52 (bd 6) hlk hrt (own_i2c_nar _) ⟨rfl, rfl, e52⟩
theorem rmCA (a1 : Addr) (x1 : Int32) (h0 : Heap) (n0 : Nat) (X00 : Old Z n0 h0) (SS : STs Z zc fm u8 hxa kh) (t1 : Addr) (cs : List Int32) (HS : Strg Z h0 a1 t1 cs) (hl : cs.length ≤ 1000) (h1 : 0 ≤ x1.toInt) (h2 : x1.toInt < cs.length) :
    MF l hw ⟨zZ0, "charAt", "(I)C"⟩ kQ34 2 (some .char) (rO 4 0 0 69) #[(.ref a1), (.int x1)] h0 (Pu (some (.int (cs.getD x1.toNatClampNeg 0))) h0) := by
  refine MF.of (pF pn3) (ef9 · a1 x1) dP56 ?_
  intro p e s m below meth c s₁ bd hlk hml hown hnm hrt hZ X0 e0
  obtain ⟨E1, Et, V1, kt, z, F, A1, hcd⟩ := HS
  rcases hcd with ⟨C1, hz, hR⟩ | ⟨C1, hz, hR⟩
  · skip
    refine OD.at 1 (fun t k => zaN X0 (bd 0) rfl rfl k) ?_
    refine OD.cV X0 (bd 1) hZ hown hml Wd67 Wd68 (nfs hZ (Wd70 hw)) Wd70 Wd69 Wd3 Wd71 pd10 (rmSI0 hw a1 h0 n0 X00 SS C1 E1) e0 E1 rfl (fun v51 T51 L51 X51 hQ51 => ?_)
    obtain ⟨rfl, rfl, e51⟩ := hQ51
    refine OD.at 8 (fun t k => zjN X51 (bd 2) (feq (by decide : ¬ (1 : Int32) = (0 : Int32))).1 (zaN X51 (bd 3) rfl rfl k)) ?_
    refine OD.gF X51 (bd 4) hZ hown hw Wd28 Via.refl e51 V1 (fun T52 X52 e52 => ?_)
    refine OD.at 12 (fun t k => ziN X52 (bd 5) rfl k) ?_
    refine OD.cS X52 (bd 6) hZ hown hml Wd269 Wd270 Wd99 Wd271 pd13 (rmLCA hw t1 x1 h0 n0 X00 SS kt z F A1 (own_in h1 (by omega))) e52 rfl (fun v53 T53 L53 X53 hQ53 => ?_)
    obtain ⟨rfl, rfl, e53⟩ := hQ53
    have fin : (own_lc F x1) = cs.getD x1.toNatClampNeg 0 := own_lcR hR h1 h2
    have nar : narrow .char (.int (cs.getD x1.toNatClampNeg 0)) = .int (cs.getD x1.toNatClampNeg 0) := by rw [← fin]; exact own_i2c_nar _
    rw [fin]
    exact OD.rC X53 (bd 7) hlk hrt nar ⟨rfl, rfl, e53⟩
  · skip
    refine OD.at 1 (fun t k => zaN X0 (bd 0) rfl rfl k) ?_
    refine OD.cV X0 (bd 1) hZ hown hml Wd67 Wd68 (nfs hZ (Wd70 hw)) Wd70 Wd69 Wd3 Wd71 pd10 (rmSI1 hw a1 h0 n0 X00 SS C1 E1) e0 E1 rfl (fun v54 T54 L54 X54 hQ54 => ?_)
    obtain ⟨rfl, rfl, e54⟩ := hQ54
    refine OD.at 17 (fun t k => zjY X54 (bd 2) 16 (teq (by decide : (0 : Int32) = (0 : Int32))).1 (zaN X54 (bd 8) rfl rfl k)) ?_
    refine OD.gF X54 (bd 9) hZ hown hw Wd28 Via.refl e54 V1 (fun T55 X55 e55 => ?_)
    refine OD.at 21 (fun t k => ziN X55 (bd 10) rfl k) ?_
    refine OD.cS X55 (bd 11) hZ hown hml Wd419 Wd420 Wd17 Wd421 pd13 (rmUCA hw t1 x1 h0 n0 X00 SS kt z F A1 (own_gb h1 (by omega) (by omega)).1 (own_gb h1 (by omega) (by omega)).2 (own_in1 h1 (by omega))) e55 rfl (fun v56 T56 L56 X56 hQ56 => ?_)
    obtain ⟨rfl, rfl, e56⟩ := hQ56
    have fin : (own_gc F x1) = cs.getD x1.toNatClampNeg 0 := own_gcR hR h1 h2
    have nar : narrow .char (.int (cs.getD x1.toNatClampNeg 0)) = .int (cs.getD x1.toNatClampNeg 0) := by rw [← fin]; exact own_i2c_nar _
    rw [fin]
    exact OD.rC X56 (bd 12) hlk hrt nar ⟨rfl, rfl, e56⟩
theorem rmUC4 (va : Addr) (x1 : Int32) (x2 : Int32) (h0 : Heap) (n0 : Nat) (X00 : Old Z n0 h0) (SS : STs Z zc fm u8 hxa kh) (ka : ClassId) (z : Int32) (F : Int32 → Int32) (Aa : Arv Z h0 va ka .byte z (own_rg z.toNatClampNeg (fun x => .int (F x))) (.int 0)) (h1 : 0 ≤ x1.toInt) (h2 : x1.toInt < x2.toInt) (h3 : x2.toInt ≤ 1000) (hz : z.toInt = 2 * x2.toInt) :
    MF l hw ⟨zZ1, zZ11, "([BIIZ)I"⟩ kQ35 6 (some .int) (rO 3 0 0 52) #[(.ref va), (.int x1), (.int x2), (.int 0)] h0 (Pu (some (.int (own_cpf F x1 x2))) h0) := by
  refine MF.of (pF pn4) (ef11 · va x1 x2 (0 : Int32)) dP67 ?_
  intro p e s m below meth c s₁ bd hlk hml hown hnm hrt hZ X0 e0
  have e1_ : (1 : Int32).toInt = 1 := rfl
  have s1_ := own_add (x := x1) (k := 1) (by omega) (by omega)
  have f51 := (SS.2.2.1.ext X00.2)
  refine OD.gS X0 (bd 0) hZ hown hw Wd304 Via.refl e0 f51 (fun T52 X52 e52 => ?_)
  refine OD.at 30 (fun t k => zjY X52 (bd 1) 19 (feq (by decide : ¬ (1 : Int32) = (0 : Int32))).2 (ziN X52 (bd 2) rfl (zjY X52 (bd 3) 28 (teq (by decide : (0 : Int32) = (0 : Int32))).1 (zaN X52 (bd 4) rfl rfl (ziN X52 (bd 5) rfl k))))) ?_
  refine OD.cS X52 (bd 6) hZ hown hml Wd307 Wd308 Wd17 Wd309 pd13 (rmGC hw va x1 h0 n0 X00 SS ka z F Aa (own_gb h1 (by omega) (by omega)).1 (own_gb h1 (by omega) (by omega)).2) e52 rfl (fun v53 T53 L53 X53 hQ53 => ?_)
  obtain ⟨rfl, rfl, e53⟩ := hQ53
  refine OD.at 37 (fun t k => zsI X53 (bd 7) #[vR va, vI x1, vI x2, vI 0, vI ((own_gc F x1)), .unset] rfl (ziL X53 (bd 8) rfl k)) ?_
  refine OD.cS X53 (bd 9) hZ hown hml Wd319 Wd320 Wd120 Wd321 pd14 (rm_isHighSurrogate hw (own_gc F x1) h0) e53 rfl (fun v54 T54 L54 X54 hQ54 => ?_)
  obtain ⟨rfl, rfl, e54⟩ := hQ54
  by_cases c40_55 : (own_isHighSurrogate (own_gc F x1)) = (0 : Int32)
  · refine OD.at 85 (fun t k => zjY X54 (bd 10) 83 (teq c40_55).1 (ziL X54 (bd 11) rfl k)) ?_
    have fin : (own_cpf F x1 x2) = (own_gc F x1) := by unfold own_cpf; rw [if_pos c40_55]
    exact OD.rI X54 (bd 12) hlk hrt rfl ⟨by rw [fin], rfl, e54⟩
  · refine OD.at 48 (fun t k => zjN X54 (bd 10) (feq c40_55).1 (zic X54 (bd 13) rfl #[vR va, vI ((x1 + (1 : Int32))), vI x2, vI 0, vI ((own_gc F x1)), .unset] rfl (ziN X54 (bd 14) rfl (ziN X54 (bd 15) rfl k)))) ?_
    by_cases c48_56 : (x1 + (1 : Int32)) < x2
    · refine OD.at 62 (fun t k => zkN X54 (bd 16) (tlt c48_56).2.1 (ziN X54 (bd 17) rfl (zjY X54 (bd 18) 60 (teq (by decide : (0 : Int32) = (0 : Int32))).1 (zaN X54 (bd 19) rfl rfl (ziN X54 (bd 20) rfl k))))) ?_
      refine OD.cS X54 (bd 21) hZ hown hml Wd307 Wd308 Wd17 Wd309 pd13 (rmGC hw va (x1 + (1 : Int32)) h0 n0 X00 SS ka z F Aa (own_gb (by omega) (by have := own_lt c48_56; omega) (by omega)).1 (own_gb (by omega) (by have := own_lt c48_56; omega) (by omega)).2) e54 rfl (fun v57 T57 L57 X57 hQ57 => ?_)
      obtain ⟨rfl, rfl, e57⟩ := hQ57
      refine OD.at 69 (fun t k => zsI X57 (bd 22) #[vR va, vI ((x1 + (1 : Int32))), vI x2, vI 0, vI ((own_gc F x1)), vI ((own_gc F (x1 + (1 : Int32))))] rfl (ziL X57 (bd 23) rfl k)) ?_
      refine OD.cS X57 (bd 24) hZ hown hml Wd324 Wd325 Wd120 Wd326 pd14 (rm_isLowSurrogate hw (own_gc F (x1 + (1 : Int32))) h0) e57 rfl (fun v58 T58 L58 X58 hQ58 => ?_)
      obtain ⟨rfl, rfl, e58⟩ := hQ58
      by_cases c72_59 : (own_isLowSurrogate (own_gc F (x1 + (1 : Int32)))) = (0 : Int32)
      · refine OD.at 85 (fun t k => zjY X58 (bd 25) 83 (teq c72_59).1 (ziL X58 (bd 11) rfl k)) ?_
        have fin : (own_cpf F x1 x2) = (own_gc F x1) := by unfold own_cpf; rw [if_neg c40_55, if_pos c48_56, if_pos c72_59]
        exact OD.rI X58 (bd 12) hlk hrt rfl ⟨by rw [fin], rfl, e58⟩
      · refine OD.at 79 (fun t k => zjN X58 (bd 25) (feq c72_59).1 (ziL X58 (bd 26) rfl (ziL X58 (bd 27) rfl k))) ?_
        refine OD.cS X58 (bd 28) hZ hown hml Wd328 Wd329 Wd120 Wd330 pd15 (rm_toCodePoint hw (own_gc F x1) (own_gc F (x1 + (1 : Int32))) h0) e58 rfl (fun v60 T60 L60 X60 hQ60 => ?_)
        obtain ⟨rfl, rfl, e60⟩ := hQ60
        have fin : (own_cpf F x1 x2) = (own_toCodePoint (own_gc F x1) (own_gc F (x1 + (1 : Int32)))) := by unfold own_cpf; rw [if_neg c40_55, if_pos c48_56, if_neg c72_59]
        exact OD.rI X60 (bd 29) hlk hrt rfl ⟨by rw [fin], rfl, e60⟩
    · refine OD.at 85 (fun t k => zkY X54 (bd 16) 83 (flt c48_56).2.1 (ziL X54 (bd 11) rfl k)) ?_
      have fin : (own_cpf F x1 x2) = (own_gc F x1) := by unfold own_cpf; rw [if_neg c40_55, if_neg c48_56]
      exact OD.rI X54 (bd 12) hlk hrt rfl ⟨by rw [fin], rfl, e54⟩
theorem rmUC3 (va : Addr) (x1 : Int32) (x2 : Int32) (h0 : Heap) (n0 : Nat) (X00 : Old Z n0 h0) (SS : STs Z zc fm u8 hxa kh) (ka : ClassId) (z : Int32) (F : Int32 → Int32) (Aa : Arv Z h0 va ka .byte z (own_rg z.toNatClampNeg (fun x => .int (F x))) (.int 0)) (h1 : 0 ≤ x1.toInt) (h2 : x1.toInt < x2.toInt) (h3 : x2.toInt ≤ 1000) (hz : z.toInt = 2 * x2.toInt) :
    MF l hw ⟨zZ1, zZ11, "([BII)I"⟩ kQ36 3 (some .int) (rO 4 0 0 73) #[(.ref va), (.int x1), (.int x2)] h0 (Pu (some (.int (own_cpf F x1 x2))) h0) := by
  refine MF.of (pF pn4) (ef10 · va x1 x2) dP66 ?_
  intro p e s m below meth c s₁ bd hlk hml hown hnm hrt hZ X0 e0
  refine OD.at 4 (fun t k => zaN X0 (bd 0) rfl rfl (ziN X0 (bd 1) rfl (ziN X0 (bd 2) rfl (zcI X0 (bd 3) 0 rfl k)))) ?_
  refine OD.cS X0 (bd 4) hZ hown hml Wd316 Wd317 Wd17 Wd318 pd16 (rmUC4 hw va x1 x2 h0 n0 X00 SS ka z F Aa h1 h2 h3 hz) e0 rfl (fun v51 T51 L51 X51 hQ51 => ?_)
  obtain ⟨rfl, rfl, e51⟩ := hQ51
  exact OD.rI X51 (bd 5) hlk hrt rfl ⟨rfl, rfl, e51⟩
theorem rmCP (a1 : Addr) (x1 : Int32) (h0 : Heap) (n0 : Nat) (X00 : Old Z n0 h0) (SS : STs Z zc fm u8 hxa kh) (t1 : Addr) (cs : List Int32) (HS : Strg Z h0 a1 t1 cs) (hl : cs.length ≤ 1000) (h1 : 0 ≤ x1.toInt) (h2 : x1.toInt < cs.length) :
    MF l hw ⟨zZ0, zZ11, "(I)I"⟩ kQ37 3 (some .int) (rO 5 0 0 91) #[(.ref a1), (.int x1)] h0 (Pu (some (.int (own_cpa cs x1.toNatClampNeg))) h0) := by
  refine MF.of (pF pn3) (ef13 · a1 x1) dP12 ?_
  intro p e s m below meth c s₁ bd hlk hml hown hnm hrt hZ X0 e0
  have hx := (bd 0).1
  obtain ⟨E1, Et, V1, kt, z, F, A1, hcd⟩ := HS
  rcases hcd with ⟨C1, hz, hR⟩ | ⟨C1, hz, hR⟩
  · skip
    refine OD.at 1 (fun t k => zaN X0 (bd 0) rfl rfl k) ?_
    refine OD.cV X0 (bd 1) hZ hown hml Wd67 Wd68 (nfs hZ (Wd70 hw)) Wd70 Wd69 Wd3 Wd71 pd10 (rmSI0 hw a1 h0 n0 X00 SS C1 E1) e0 E1 rfl (fun v51 T51 L51 X51 hQ51 => ?_)
    obtain ⟨rfl, rfl, e51⟩ := hQ51
    refine OD.at 9 (fun t k => zjN X51 (bd 2) (feq (by decide : ¬ (1 : Int32) = (0 : Int32))).1 (ziN X51 (bd 3) rfl (zaN X51 (bd 4) rfl rfl k))) ?_
    refine OD.gF X51 (bd 5) hZ hown hw Wd28 Via.refl e51 V1 (fun T52 X52 e52 => ?_)
    refine OD.at 13 (fun t k => zal X52 (bd 6) hZ e52 A1 k) ?_
    refine OD.cS X52 (bd 7) hZ hown hml Wd72 Wd73 Wd3 Wd74 pd3 (rm_stCI hw x1 z h0 n0 X00 SS (own_in h1 (by omega))) e52 rfl (fun v53 T53 L53 X53 hQ53 => ?_)
    obtain ⟨rfl, rfl, e53⟩ := hQ53
    refine OD.at 17 (fun t k => zaN X53 (bd 8) rfl rfl k) ?_
    refine OD.gF X53 (bd 9) hZ hown hw Wd28 Via.refl e53 V1 (fun T54 X54 e54 => ?_)
    refine OD.at 21 (fun t k => ziN X54 (bd 10) rfl k) ?_
    obtain ⟨cl55, Ar55, hi55, ha55⟩ := own_at A1 (j := x1) (v := (.int (F x1))) (own_in h1 (by omega)) (own_rg_at (own_in h1 (by omega)) _ _)
    refine OD.at 26 (fun t k => X54.baloadBytes hx (j := x1) (v := (.int (F x1))) (by rw [e54]; exact Ar55.1) (State.isArrayOf_alike hZ.alike Ar55.2.1) Ar55.2.2 hi55 ha55 (g := (mkF m 21 #[vR a1, vI x1, .unset] [(.int x1), (.ref t1)])) rfl rfl (bd 11).2 _ (zcS X54 (bd 12) 255 rfl (ziand X54 (bd 13) k))) ?_
    have fin : ((F x1) &&& (255 : Int32)) = (own_cpa cs x1.toNatClampNeg) := own_cpaL hR h1 h2
    rw [fin]
    exact OD.rI X54 (bd 14) hlk hrt rfl ⟨rfl, rfl, e54⟩
  · skip
    have zs := c_ishr z 1 1 rfl
    refine OD.at 1 (fun t k => zaN X0 (bd 0) rfl rfl k) ?_
    refine OD.cV X0 (bd 1) hZ hown hml Wd67 Wd68 (nfs hZ (Wd70 hw)) Wd70 Wd69 Wd3 Wd71 pd10 (rmSI1 hw a1 h0 n0 X00 SS C1 E1) e0 E1 rfl (fun v56 T56 L56 X56 hQ56 => ?_)
    obtain ⟨rfl, rfl, e56⟩ := hQ56
    refine OD.at 28 (fun t k => zjY X56 (bd 2) 27 (teq (by decide : (0 : Int32) = (0 : Int32))).1 (zaN X56 (bd 15) rfl rfl k)) ?_
    refine OD.gF X56 (bd 16) hZ hown hw Wd28 Via.refl e56 V1 (fun T57 X57 e57 => ?_)
    refine OD.at 37 (fun t k => zal X57 (bd 17) hZ e57 A1 (zcI X57 (bd 18) 1 rfl (zishr X57 (bd 19) (zsN X57 (bd 20) #[vR a1, vI x1, vI ((z >>> ((1 : Int32) &&& 31)))] rfl (ziN X57 (bd 21) rfl (ziN X57 (bd 22) rfl k)))))) ?_
    refine OD.cS X57 (bd 23) hZ hown hml Wd72 Wd73 Wd3 Wd74 pd3 (rm_stCI hw x1 (z >>> ((1 : Int32) &&& 31)) h0 n0 X00 SS (own_in h1 (by omega))) e57 rfl (fun v58 T58 L58 X58 hQ58 => ?_)
    obtain ⟨rfl, rfl, e58⟩ := hQ58
    refine OD.at 41 (fun t k => zaN X58 (bd 24) rfl rfl k) ?_
    refine OD.gF X58 (bd 25) hZ hown hw Wd28 Via.refl e58 V1 (fun T59 X59 e59 => ?_)
    refine OD.at 46 (fun t k => ziN X59 (bd 26) rfl (ziN X59 (bd 27) rfl k)) ?_
    refine OD.cS X59 (bd 28) hZ hown hml Wd313 Wd314 Wd17 Wd315 pd17 (rmUC3 hw t1 x1 (z >>> ((1 : Int32) &&& 31)) h0 n0 X00 SS kt z F A1 h1 (by omega) (by omega) (by omega)) e59 rfl (fun v60 T60 L60 X60 hQ60 => ?_)
    obtain ⟨rfl, rfl, e60⟩ := hQ60
    have fin : (own_cpf F x1 (z >>> ((1 : Int32) &&& 31))) = (own_cpa cs x1.toNatClampNeg) := own_cpaU hR h1 h2 hl (by omega)
    rw [fin]
    exact OD.rI X60 (bd 29) hlk hrt rfl ⟨rfl, rfl, e60⟩
theorem rmIU (va : Addr) (x1 : Int32) (h0 : Heap) (n0 : Nat) (X00 : Old Z n0 h0) (SS : STs Z zc fm u8 hxa kh) (ka : ClassId) (F : Int32 → Int32) (Aa : Arv Z h0 va ka .byte (2 : Int32) (own_rg (2 : Int32).toNatClampNeg (fun x => .int (F x))) (.int 0)) :
    MF l hw ⟨zZ1, zZ54, "([BIII)I"⟩ kQ38 5 (some .int) (rO 1 0 0 17) #[(.ref va), (.int x1), (.int 0), (.int 1)] h0 (Pu (some (.int (own_iu F x1))) h0) := by
  refine MF.of (pF pn4) (ef14 · va x1 (0 : Int32) (1 : Int32)) dP84 ?_
  intro p e s m below meth c s₁ bd hlk hml hown hnm hrt hZ X0 e0
  refine OD.at 12 (fun t k => ziN X0 (bd 0) rfl (zsI X0 (bd 1) #[vR va, vI x1, vI 0, vI 1, vI 0] rfl (ziL X0 (bd 2) rfl (ziN X0 (bd 3) rfl (zkN X0 (bd 4) (tlt (by decide : (0 : Int32) < (1 : Int32))).2.1 (zaN X0 (bd 5) rfl rfl (ziL X0 (bd 6) rfl k))))))) ?_
  refine OD.cS X0 (bd 7) hZ hown hml Wd307 Wd308 Wd17 Wd309 pd13 (rmGC hw va (0 : Int32) h0 n0 X00 SS ka (2 : Int32) F Aa ⟨by decide, by decide⟩ ⟨by decide, by decide⟩) e0 rfl (fun v51 T51 L51 X51 hQ51 => ?_)
  obtain ⟨rfl, rfl, e51⟩ := hQ51
  refine OD.at 16 (fun t k => ziN X51 (bd 8) rfl k) ?_
  by_cases c16_52 : (own_gc F (0 : Int32)) = x1
  · refine OD.at 21 (fun t k => zkN X51 (bd 9) (teq c16_52).2 (ziL X51 (bd 10) rfl k)) ?_
    have fin : (own_iu F x1) = (0 : Int32) := by unfold own_iu; rw [if_pos c16_52]
    exact OD.rI X51 (bd 11) hlk hrt rfl ⟨by rw [fin], rfl, e51⟩
  · refine OD.at 29 (fun t k => zkY X51 (bd 9) 22 (feq c16_52).2 (zic X51 (bd 12) rfl #[vR va, vI x1, vI 0, vI 1, vI 1] rfl (zgO X51 (bd 13) 3 (ziL X51 (bd 2) rfl (ziN X51 (bd 3) rfl (zkY X51 (bd 4) 28 (flt (by decide : ¬ (1 : Int32) < (1 : Int32))).2.1 (zcI X51 (bd 14) (-1) rfl k))))))) ?_
    have fin : (own_iu F x1) = (-1 : Int32) := by unfold own_iu; rw [if_neg c16_52]
    exact OD.rI X51 (bd 15) hlk hrt rfl ⟨by rw [fin], rfl, e51⟩
theorem rmIC (va : Addr) (x1 : Int32) (h0 : Heap) (n0 : Nat) (X00 : Old Z n0 h0) (SS : STs Z zc fm u8 hxa kh) (ka : ClassId) (F : Int32 → Int32) (Aa : Arv Z h0 va ka .byte (2 : Int32) (own_rg (2 : Int32).toNatClampNeg (fun x => .int (F x))) (.int 0)) :
    MF l hw ⟨zZ1, zZ18, "([BIII)I"⟩ kQ39 4 (some .int) (rO 3 0 0 55) #[(.ref va), (.int x1), (.int 0), (.int 1)] h0 (Pu (some (.int (own_iu F x1))) h0) := by
  refine MF.of (pF pn4) (ef12 · va x1 (0 : Int32) (1 : Int32)) dP83 ?_
  intro p e s m below meth c s₁ bd hlk hml hown hnm hrt hZ X0 e0
  refine OD.at 3 (fun t k => ziN X0 (bd 0) rfl (ziN X0 (bd 1) rfl (zaN X0 (bd 2) rfl rfl k))) ?_
  refine OD.cS X0 (bd 3) hZ hown hml Wd371 Wd372 Wd17 Wd373 pd18 (rmUBE hw (0 : Int32) (1 : Int32) va h0 n0 X00 SS ka (2 : Int32) F Aa (by decide)) e0 rfl (fun v51 T51 L51 X51 hQ51 => ?_)
  obtain ⟨rfl, rfl, e51⟩ := hQ51
  refine OD.at 10 (fun t k => zaN X51 (bd 4) rfl rfl (ziN X51 (bd 5) rfl (ziN X51 (bd 6) rfl (ziN X51 (bd 7) rfl k)))) ?_
  refine OD.cS X51 (bd 8) hZ hown hml Wd386 Wd387 Wd17 Wd388 pd9 (rmIU hw va x1 h0 n0 X00 SS ka F Aa) e51 rfl (fun v52 T52 L52 X52 hQ52 => ?_)
  obtain ⟨rfl, rfl, e52⟩ := hQ52
  exact OD.rI X52 (bd 9) hlk hrt rfl ⟨rfl, rfl, e52⟩
theorem rmISP (va : Addr) (x1 : Int32) (h0 : Heap) (n0 : Nat) (X00 : Old Z n0 h0) (SS : STs Z zc fm u8 hxa kh) (ka : ClassId) (F : Int32 → Int32) (Aa : Arv Z h0 va ka .byte (2 : Int32) (own_rg (2 : Int32).toNatClampNeg (fun x => .int (F x))) (.int 0)) :
    MF l hw ⟨zZ1, zZ55, "([BIII)I"⟩ kQ40 7 (some .int) (rO 3 0 0 55) #[(.ref va), (.int x1), (.int 0), (.int 1)] h0 (Pu (some (.int (-1 : Int32))) h0) := by
  refine MF.of (pF pn4) (ef15 · va x1 (0 : Int32) (1 : Int32)) dP78 ?_
  intro p e s m below meth c s₁ bd hlk hml hown hnm hrt hZ X0 e0
  refine OD.at 1 (fun t k => ziN X0 (bd 0) rfl k) ?_
  refine OD.cS X0 (bd 1) hZ hown hml Wd368 Wd333 Wd120 Wd334 pd7 (rm_isValidCodePoint hw x1 h0) e0 rfl (fun v51 T51 L51 X51 hQ51 => ?_)
  obtain ⟨rfl, rfl, e51⟩ := hQ51
  by_cases c4_52 : (own_isValidCodePoint x1) = (0 : Int32)
  · refine OD.at 70 (fun t k => zjY X51 (bd 2) 69 (teq c4_52).1 (zcI X51 (bd 3) (-1) rfl k)) ?_
    exact OD.rI X51 (bd 4) hlk hrt rfl ⟨rfl, rfl, e51⟩
  · refine OD.at 8 (fun t k => zjN X51 (bd 2) (feq c4_52).1 (ziN X51 (bd 5) rfl k)) ?_
    refine OD.cS X51 (bd 6) hZ hown hml Wd369 Wd342 Wd120 Wd343 pd19 (rm_highSurrogate hw x1 h0) e51 rfl (fun v53 T53 L53 X53 hQ53 => ?_)
    obtain ⟨rfl, rfl, e53⟩ := hQ53
    refine OD.at 14 (fun t k => zsI X53 (bd 7) #[vR va, vI x1, vI 0, vI 1, vI ((own_highSurrogate x1)), .unset, .unset] rfl (ziN X53 (bd 8) rfl k)) ?_
    refine OD.cS X53 (bd 9) hZ hown hml Wd370 Wd339 Wd120 Wd340 pd19 (rm_lowSurrogate hw x1 h0) e53 rfl (fun v54 T54 L54 X54 hQ54 => ?_)
    obtain ⟨rfl, rfl, e54⟩ := hQ54
    refine OD.at 22 (fun t k => zsI X54 (bd 10) #[vR va, vI x1, vI 0, vI 1, vI ((own_highSurrogate x1)), vI ((own_lowSurrogate x1)), .unset] rfl (ziN X54 (bd 11) rfl (ziN X54 (bd 12) rfl (zaN X54 (bd 13) rfl rfl k)))) ?_
    refine OD.cS X54 (bd 14) hZ hown hml Wd371 Wd372 Wd17 Wd373 pd18 (rmUBE hw (0 : Int32) (1 : Int32) va h0 n0 X00 SS ka (2 : Int32) F Aa (by decide)) e54 rfl (fun v55 T55 L55 X55 hQ55 => ?_)
    obtain ⟨rfl, rfl, e55⟩ := hQ55
    refine OD.go (B := (T55.setTop (mkF m 70 #[vR va, vI x1, vI 0, vI 1, vI ((own_highSurrogate x1)), vI ((own_lowSurrogate x1)), vI 0] [(.int (-1 : Int32))]))) (fun t k => ziN X55 (bd 15) rfl (zsI X55 (bd 16) #[vR va, vI x1, vI 0, vI 1, vI ((own_highSurrogate x1)), vI ((own_lowSurrogate x1)), vI 0] rfl (ziL X55 (bd 17) rfl (ziN X55 (bd 18) rfl (zcI X55 (bd 19) 1 rfl (zisub X55 (bd 20) (zkY X55 (bd 21) 69 (flt (by decide : ¬ (0 : Int32) < (0 : Int32))).2.1 (zcI X55 (bd 3) (-1) rfl k)))))))) ?_
    exact OD.rI X55 (bd 4) hlk hrt rfl ⟨rfl, rfl, e55⟩
theorem rmIX1 (va : Addr) (x1 : Int32) (h0 : Heap) (n0 : Nat) (X00 : Old Z n0 h0) (SS : STs Z zc fm u8 hxa kh) (ka : ClassId) (F : Int32 → Int32) (Aa : Arv Z h0 va ka .byte (2 : Int32) (own_rg (2 : Int32).toNatClampNeg (fun x => .int (F x))) (.int 0)) :
    MF l hw ⟨zZ1, "indexOf", "([BIII)I"⟩ kQ41 4 (some .int) (rO 4 0 0 77) #[(.ref va), (.int x1), (.int 0), (.int 1)] h0 (Pu (some (.int (own_ixU F x1))) h0) := by
  refine MF.of (pF pn4) (ef12 · va x1 (0 : Int32) (1 : Int32)) dP77 ?_
  intro p e s m below meth c s₁ bd hlk hml hown hnm hrt hZ X0 e0
  have hx := (bd 0).1
  refine OD.at 2 (fun t k => ziN X0 (bd 0) rfl (zcI X0 (bd 1) 0 rfl k)) ?_
  refine OD.cS X0 (bd 2) hZ hown hml Wd362 Wd105 Wd106 Wd107 pd8 (rm_max hw (0 : Int32) (0 : Int32) h0) e0 rfl (fun v51 T51 L51 X51 hQ51 => ?_)
  obtain ⟨rfl, rfl, e51⟩ := hQ51
  rw [show (own_max (0 : Int32) (0 : Int32)) = (0 : Int32) from (by decide)]
  refine OD.go (B := (T51.setTop (mkF m 11 #[vR va, vI x1, vI 0, vI 1] [(.int 1), (.int 1)]))) (fun t k => zsN X51 (bd 3) #[vR va, vI x1, vI 0, vI 1] rfl (ziN X51 (bd 4) rfl (zaN X51 (bd 5) rfl rfl (zal X51 (bd 6) hZ e51 Aa (zcI X51 (bd 7) 1 rfl (zishr X51 (bd 8) k)))))) ?_
  refine OD.cS X51 (bd 9) hZ hown hml Wd363 Wd109 Wd106 Wd110 pd8 (rm_min hw (1 : Int32) (1 : Int32) h0) e51 rfl (fun v52 T52 L52 X52 hQ52 => ?_)
  obtain ⟨rfl, rfl, e52⟩ := hQ52
  rw [show (own_min (1 : Int32) (1 : Int32)) = (1 : Int32) from (by decide)]
  refine OD.go (B := (T52.setTop (mkF m 25 #[vR va, vI x1, vI 0, vI 1] [(.int 65536), (.int x1)]))) (fun t k => zsN X52 (bd 10) #[vR va, vI x1, vI 0, vI 1] rfl (ziN X52 (bd 11) rfl (ziN X52 (bd 12) rfl (zkY X52 (bd 13) 22 (tlt (by decide : (0 : Int32) < (1 : Int32))).1 (ziN X52 (bd 14) rfl (X52.ldcInt hx hown (mv hZ (Wd364 hw)) (g := (mkF m 23 #[vR va, vI x1, vI 0, vI 1] [(.int x1)])) rfl (bd 15).2 _ k)))))) ?_
  by_cases c25_53 : x1 < (65536 : Int32)
  · refine OD.at 32 (fun t k => zkN X52 (bd 16) (tlt c25_53).2.1 (zaN X52 (bd 17) rfl rfl (ziN X52 (bd 18) rfl (ziN X52 (bd 19) rfl (ziN X52 (bd 20) rfl k))))) ?_
    refine OD.cS X52 (bd 21) hZ hown hml Wd383 Wd384 Wd17 Wd385 pd9 (rmIC hw va x1 h0 n0 X00 SS ka F Aa) e52 rfl (fun v54 T54 L54 X54 hQ54 => ?_)
    obtain ⟨rfl, rfl, e54⟩ := hQ54
    have fin : (own_ixU F x1) = (own_iu F x1) := by unfold own_ixU; rw [if_pos c25_53]
    exact OD.rI X54 (bd 22) hlk hrt rfl ⟨by rw [fin], rfl, e54⟩
  · refine OD.at 40 (fun t k => zkY X52 (bd 16) 36 (flt c25_53).2.1 (zaN X52 (bd 23) rfl rfl (ziN X52 (bd 24) rfl (ziN X52 (bd 25) rfl (ziN X52 (bd 26) rfl k))))) ?_
    refine OD.cS X52 (bd 27) hZ hown hml Wd365 Wd366 Wd17 Wd367 pd9 (rmISP hw va x1 h0 n0 X00 SS ka F Aa) e52 rfl (fun v55 T55 L55 X55 hQ55 => ?_)
    obtain ⟨rfl, rfl, e55⟩ := hQ55
    have fin : (own_ixU F x1) = (-1 : Int32) := by unfold own_ixU; rw [if_neg c25_53]
    exact OD.rI X55 (bd 28) hlk hrt rfl ⟨by rw [fin], rfl, e55⟩
theorem rmIX0 (va : Addr) (x1 : Int32) (h0 : Heap) (n0 : Nat) (X00 : Old Z n0 h0) (SS : STs Z zc fm u8 hxa kh) (ka : ClassId) (F : Int32 → Int32) (Aa : Arv Z h0 va ka .byte (0 : Int32) (own_rg (0 : Int32).toNatClampNeg (fun x => .int (F x))) (.int 0)) :
    MF l hw ⟨zZ1, "indexOf", "([BIII)I"⟩ kQ41 4 (some .int) (rO 4 0 0 77) #[(.ref va), (.int x1), (.int 0), (.int 0)] h0 (Pu (some (.int (-1 : Int32))) h0) := by
  refine MF.of (pF pn4) (ef12 · va x1 (0 : Int32) (0 : Int32)) dP77 ?_
  intro p e s m below meth c s₁ bd hlk hml hown hnm hrt hZ X0 e0
  refine OD.at 2 (fun t k => ziN X0 (bd 0) rfl (zcI X0 (bd 1) 0 rfl k)) ?_
  refine OD.cS X0 (bd 2) hZ hown hml Wd362 Wd105 Wd106 Wd107 pd8 (rm_max hw (0 : Int32) (0 : Int32) h0) e0 rfl (fun v51 T51 L51 X51 hQ51 => ?_)
  obtain ⟨rfl, rfl, e51⟩ := hQ51
  rw [show (own_max (0 : Int32) (0 : Int32)) = (0 : Int32) from (by decide)]
  refine OD.go (B := (T51.setTop (mkF m 11 #[vR va, vI x1, vI 0, vI 0] [(.int 0), (.int 0)]))) (fun t k => zsN X51 (bd 3) #[vR va, vI x1, vI 0, vI 0] rfl (ziN X51 (bd 4) rfl (zaN X51 (bd 5) rfl rfl (zal X51 (bd 6) hZ e51 Aa (zcI X51 (bd 7) 1 rfl (zishr X51 (bd 8) k)))))) ?_
  refine OD.cS X51 (bd 9) hZ hown hml Wd363 Wd109 Wd106 Wd110 pd8 (rm_min hw (0 : Int32) (0 : Int32) h0) e51 rfl (fun v52 T52 L52 X52 hQ52 => ?_)
  obtain ⟨rfl, rfl, e52⟩ := hQ52
  rw [show (own_min (0 : Int32) (0 : Int32)) = (0 : Int32) from (by decide)]
  refine OD.at 21 (fun t k => zsN X52 (bd 10) #[vR va, vI x1, vI 0, vI 0] rfl (ziN X52 (bd 11) rfl (ziN X52 (bd 12) rfl (zkN X52 (bd 13) (flt (by decide : ¬ (0 : Int32) < (0 : Int32))).1 (zcI X52 (bd 29) (-1) rfl k))))) ?_
  exact OD.rI X52 (bd 30) hlk hrt rfl ⟨rfl, rfl, e52⟩
theorem rmLIC (va : Addr) (x1 : Int32) (h0 : Heap) (n0 : Nat) (X00 : Old Z n0 h0) (SS : STs Z zc fm u8 hxa kh) (ka : ClassId) (F : Int32 → Int32) (Aa : Arv Z h0 va ka .byte (1 : Int32) (own_rg (1 : Int32).toNatClampNeg (fun x => .int (F x))) (.int 0)) :
    MF l hw ⟨zZ7, zZ18, "([BIII)I"⟩ kQ28 6 (some .int) (rO 0 0 0 0) #[(.ref va), (.int x1), (.int 0), (.int 1)] h0 (Pu (some (.int (own_ic1 F x1))) h0) := by
  refine MF.of (pF pn1) (ef11 · va x1 (0 : Int32) (1 : Int32)) dP23 ?_
  intro p e s m below meth c s₁ bd hlk hml hown hnm hrt hZ X0 e0
  have hx := (bd 0).1
  refine OD.at 16 (fun t k => ziN X0 (bd 0) rfl (zi2b X0 (bd 1) (zsI X0 (bd 2) #[vR va, vI x1, vI 0, vI 1, vI (x1.toInt8.toInt32), .unset] rfl (ziN X0 (bd 3) rfl (zsI X0 (bd 4) #[vR va, vI x1, vI 0, vI 1, vI (x1.toInt8.toInt32), vI 0] rfl (ziL X0 (bd 5) rfl (ziN X0 (bd 6) rfl (zkN X0 (bd 7) (tlt (by decide : (0 : Int32) < (1 : Int32))).2.1 (zaN X0 (bd 8) rfl rfl (ziL X0 (bd 9) rfl k)))))))))) ?_
  obtain ⟨cl51, Ar51, hi51, ha51⟩ := own_at Aa (j := (0 : Int32)) (v := (.int (F (0 : Int32)))) ⟨by decide, by decide⟩ (own_rg_at ⟨by decide, by decide⟩ _ _)
  refine OD.at 19 (fun t k => X0.baloadBytes hx (j := (0 : Int32)) (v := (.int (F (0 : Int32)))) (by rw [e0]; exact Ar51.1) (State.isArrayOf_alike hZ.alike Ar51.2.1) Ar51.2.2 hi51 ha51 (g := (mkF m 16 #[vR va, vI x1, vI 0, vI 1, vI (x1.toInt8.toInt32), vI 0] [(.int 0), (.ref va)])) rfl rfl (bd 10).2 _ (ziL X0 (bd 11) rfl k)) ?_
  by_cases c19_52 : (F (0 : Int32)) = x1.toInt8.toInt32
  · refine OD.at 24 (fun t k => zkN X0 (bd 12) (teq c19_52).2 (ziL X0 (bd 13) rfl k)) ?_
    have fin : (own_ic1 F x1) = (0 : Int32) := by unfold own_ic1; rw [if_pos c19_52]
    exact OD.rI X0 (bd 14) hlk hrt rfl ⟨by rw [fin], rfl, e0⟩
  · refine OD.at 32 (fun t k => zkY X0 (bd 12) 25 (feq c19_52).2 (zic X0 (bd 15) rfl #[vR va, vI x1, vI 0, vI 1, vI (x1.toInt8.toInt32), vI 1] rfl (zgO X0 (bd 16) 7 (ziL X0 (bd 5) rfl (ziN X0 (bd 6) rfl (zkY X0 (bd 7) 31 (flt (by decide : ¬ (1 : Int32) < (1 : Int32))).2.1 (zcI X0 (bd 17) (-1) rfl k))))))) ?_
    have fin : (own_ic1 F x1) = (-1 : Int32) := by unfold own_ic1; rw [if_neg c19_52]
    exact OD.rI X0 (bd 18) hlk hrt rfl ⟨by rw [fin], rfl, e0⟩
theorem rmLIk1 (va : Addr) (x1 : Int32) (h0 : Heap) (n0 : Nat) (X00 : Old Z n0 h0) (SS : STs Z zc fm u8 hxa kh) (ka : ClassId) (F : Int32 → Int32) (Aa : Arv Z h0 va ka .byte (1 : Int32) (own_rg (1 : Int32).toNatClampNeg (fun x => .int (F x))) (.int 0)) :
    MF l hw ⟨zZ7, "indexOf", "([BIII)I"⟩ kQ29 4 (some .int) (rO 1 0 0 20) #[(.ref va), (.int x1), (.int 0), (.int 1)] h0 (Pu (some (.int (own_ixL F x1))) h0) := by
  refine MF.of (pF pn1) (ef12 · va x1 (0 : Int32) (1 : Int32)) dP19 ?_
  intro p e s m below meth c s₁ bd hlk hml hown hnm hrt hZ X0 e0
  refine OD.at 1 (fun t k => ziN X0 (bd 0) rfl k) ?_
  refine OD.cS X0 (bd 1) hZ hown hml Wd101 Wd102 Wd99 Wd103 pd7 (rmCEi hw x1 h0) e0 rfl (fun v51 T51 L51 X51 hQ51 => ?_)
  obtain ⟨rfl, rfl, e51⟩ := hQ51
  by_cases c4_52 : (own_ce x1) = (0 : Int32)
  · refine OD.at 8 (fun t k => zjN X51 (bd 2) (teq c4_52).2 (zcI X51 (bd 3) (-1) rfl k)) ?_
    have fin : (own_ixL F x1) = (-1 : Int32) := by unfold own_ixL; rw [if_pos c4_52]
    exact OD.rI X51 (bd 4) hlk hrt rfl ⟨by rw [fin], rfl, e51⟩
  · refine OD.at 11 (fun t k => zjY X51 (bd 2) 9 (feq c4_52).2 (ziN X51 (bd 5) rfl (zcI X51 (bd 6) 0 rfl k))) ?_
    refine OD.cS X51 (bd 7) hZ hown hml Wd104 Wd105 Wd106 Wd107 pd8 (rm_max hw (0 : Int32) (0 : Int32) h0) e51 rfl (fun v53 T53 L53 X53 hQ53 => ?_)
    obtain ⟨rfl, rfl, e53⟩ := hQ53
    rw [show (own_max (0 : Int32) (0 : Int32)) = (0 : Int32) from (by decide)]
    refine OD.at 18 (fun t k => zsN X53 (bd 8) #[vR va, vI x1, vI 0, vI 1] rfl (ziN X53 (bd 9) rfl (zaN X53 (bd 10) rfl rfl (zal X53 (bd 11) hZ e53 Aa k)))) ?_
    refine OD.cS X53 (bd 12) hZ hown hml Wd108 Wd109 Wd106 Wd110 pd8 (rm_min hw (1 : Int32) (1 : Int32) h0) e53 rfl (fun v54 T54 L54 X54 hQ54 => ?_)
    obtain ⟨rfl, rfl, e54⟩ := hQ54
    rw [show (own_min (1 : Int32) (1 : Int32)) = (1 : Int32) from (by decide)]
    refine OD.at 33 (fun t k => zsN X54 (bd 13) #[vR va, vI x1, vI 0, vI 1] rfl (ziN X54 (bd 14) rfl (ziN X54 (bd 15) rfl (zkY X54 (bd 16) 29 (tlt (by decide : (0 : Int32) < (1 : Int32))).1 (zaN X54 (bd 17) rfl rfl (ziN X54 (bd 18) rfl (ziN X54 (bd 19) rfl (ziN X54 (bd 20) rfl k)))))))) ?_
    refine OD.cS X54 (bd 21) hZ hown hml Wd111 Wd112 Wd99 Wd113 pd9 (rmLIC hw va x1 h0 n0 X00 SS ka F Aa) e54 rfl (fun v55 T55 L55 X55 hQ55 => ?_)
    obtain ⟨rfl, rfl, e55⟩ := hQ55
    have fin : (own_ixL F x1) = (own_ic1 F x1) := by unfold own_ixL; rw [if_neg c4_52]; rfl
    exact OD.rI X55 (bd 22) hlk hrt rfl ⟨by rw [fin], rfl, e55⟩
theorem rmLIk0 (va : Addr) (x1 : Int32) (h0 : Heap) (n0 : Nat) (X00 : Old Z n0 h0) (SS : STs Z zc fm u8 hxa kh) (ka : ClassId) (F : Int32 → Int32) (Aa : Arv Z h0 va ka .byte (0 : Int32) (own_rg (0 : Int32).toNatClampNeg (fun x => .int (F x))) (.int 0)) :
    MF l hw ⟨zZ7, "indexOf", "([BIII)I"⟩ kQ29 4 (some .int) (rO 1 0 0 20) #[(.ref va), (.int x1), (.int 0), (.int 0)] h0 (Pu (some (.int (-1 : Int32))) h0) := by
  refine MF.of (pF pn1) (ef12 · va x1 (0 : Int32) (0 : Int32)) dP19 ?_
  intro p e s m below meth c s₁ bd hlk hml hown hnm hrt hZ X0 e0
  refine OD.at 1 (fun t k => ziN X0 (bd 0) rfl k) ?_
  refine OD.cS X0 (bd 1) hZ hown hml Wd101 Wd102 Wd99 Wd103 pd7 (rmCEi hw x1 h0) e0 rfl (fun v51 T51 L51 X51 hQ51 => ?_)
  obtain ⟨rfl, rfl, e51⟩ := hQ51
  by_cases c4_52 : (own_ce x1) = (0 : Int32)
  · refine OD.at 8 (fun t k => zjN X51 (bd 2) (teq c4_52).2 (zcI X51 (bd 3) (-1) rfl k)) ?_
    exact OD.rI X51 (bd 4) hlk hrt rfl ⟨rfl, rfl, e51⟩
  · refine OD.at 11 (fun t k => zjY X51 (bd 2) 9 (feq c4_52).2 (ziN X51 (bd 5) rfl (zcI X51 (bd 6) 0 rfl k))) ?_
    refine OD.cS X51 (bd 7) hZ hown hml Wd104 Wd105 Wd106 Wd107 pd8 (rm_max hw (0 : Int32) (0 : Int32) h0) e51 rfl (fun v53 T53 L53 X53 hQ53 => ?_)
    obtain ⟨rfl, rfl, e53⟩ := hQ53
    rw [show (own_max (0 : Int32) (0 : Int32)) = (0 : Int32) from (by decide)]
    refine OD.at 18 (fun t k => zsN X53 (bd 8) #[vR va, vI x1, vI 0, vI 0] rfl (ziN X53 (bd 9) rfl (zaN X53 (bd 10) rfl rfl (zal X53 (bd 11) hZ e53 Aa k)))) ?_
    refine OD.cS X53 (bd 12) hZ hown hml Wd108 Wd109 Wd106 Wd110 pd8 (rm_min hw (0 : Int32) (0 : Int32) h0) e53 rfl (fun v54 T54 L54 X54 hQ54 => ?_)
    obtain ⟨rfl, rfl, e54⟩ := hQ54
    rw [show (own_min (0 : Int32) (0 : Int32)) = (0 : Int32) from (by decide)]
    refine OD.at 28 (fun t k => zsN X54 (bd 13) #[vR va, vI x1, vI 0, vI 0] rfl (ziN X54 (bd 14) rfl (ziN X54 (bd 15) rfl (zkN X54 (bd 16) (flt (by decide : ¬ (0 : Int32) < (0 : Int32))).1 (zcI X54 (bd 23) (-1) rfl k))))) ?_
    exact OD.rI X54 (bd 24) hlk hrt rfl ⟨rfl, rfl, e54⟩
theorem rmSX2_0 (a1 : Addr) (x1 : Int32) (h0 : Heap) (n0 : Nat) (X00 : Old Z n0 h0) (SS : STs Z zc fm u8 hxa kh) (t1 : Addr) (HS : Strg Z h0 a1 t1 ([] : List Int32)) :
    MF l hw ⟨zZ0, "indexOf", "(II)I"⟩ kQ30 3 (some .int) (rO 5 0 0 96) #[(.ref a1), (.int x1), (.int 0)] h0 (Pu (some (.int (own_kix ([] : List Int32) x1))) h0) := by
  refine MF.of (pF pn3) (ef10 · a1 x1 (0 : Int32)) dP18 ?_
  intro p e s m below meth c s₁ bd hlk hml hown hnm hrt hZ X0 e0
  obtain ⟨E1, Et, V1, kt, z, F, A1, hcd⟩ := HS
  rcases hcd with ⟨C1, hz, hR⟩ | ⟨C1, hz, hR⟩
  · skip
    obtain rfl : z = (0 : Int32) := Int32.toInt_inj.mp (by rw [hz]; rfl)
    refine OD.at 1 (fun t k => zaN X0 (bd 0) rfl rfl k) ?_
    refine OD.cV X0 (bd 1) hZ hown hml Wd67 Wd68 (nfs hZ (Wd70 hw)) Wd70 Wd69 Wd3 Wd71 pd10 (rmSI0 hw a1 h0 n0 X00 SS C1 E1) e0 E1 rfl (fun v51 T51 L51 X51 hQ51 => ?_)
    obtain ⟨rfl, rfl, e51⟩ := hQ51
    refine OD.at 8 (fun t k => zjN X51 (bd 2) (feq (by decide : ¬ (1 : Int32) = (0 : Int32))).1 (zaN X51 (bd 3) rfl rfl k)) ?_
    refine OD.gF X51 (bd 4) hZ hown hw Wd28 Via.refl e51 V1 (fun T52 X52 e52 => ?_)
    refine OD.at 14 (fun t k => ziN X52 (bd 5) rfl (ziN X52 (bd 6) rfl (zaN X52 (bd 7) rfl rfl k))) ?_
    refine OD.cV X52 (bd 8) hZ hown hml Wd96 Wd38 (nfs hZ (Wd40 hw)) Wd40 Wd39 Wd3 Wd41 pd11 (rmLo0 hw a1 h0 n0 X00 SS t1 kt (0 : Int32) F A1 V1 C1 E1) e52 E1 rfl (fun v53 T53 L53 X53 hQ53 => ?_)
    obtain ⟨rfl, rfl, e53⟩ := hQ53
    rw [show ((0 : Int32) >>> ((0 : Int32) &&& 31)) = (0 : Int32) from by decide]
    refine OD.cS X53 (bd 9) hZ hown hml Wd97 Wd98 Wd99 Wd100 pd9 (rmLIk0 hw t1 x1 h0 n0 X00 SS kt F A1) e53 rfl (fun v54 T54 L54 X54 hQ54 => ?_)
    obtain ⟨rfl, rfl, e54⟩ := hQ54
    refine OD.at 36 (fun t k => zgO X54 (bd 10) 36 k) ?_
    have fin : (-1 : Int32) = (own_kix ([] : List Int32) x1) := rfl
    rw [fin]
    exact OD.rI X54 (bd 11) hlk hrt rfl ⟨rfl, rfl, e54⟩
  · skip
    obtain rfl : z = (0 : Int32) := Int32.toInt_inj.mp (by rw [hz]; rfl)
    refine OD.at 1 (fun t k => zaN X0 (bd 0) rfl rfl k) ?_
    refine OD.cV X0 (bd 1) hZ hown hml Wd67 Wd68 (nfs hZ (Wd70 hw)) Wd70 Wd69 Wd3 Wd71 pd10 (rmSI1 hw a1 h0 n0 X00 SS C1 E1) e0 E1 rfl (fun v55 T55 L55 X55 hQ55 => ?_)
    obtain ⟨rfl, rfl, e55⟩ := hQ55
    refine OD.at 24 (fun t k => zjY X55 (bd 2) 23 (teq (by decide : (0 : Int32) = (0 : Int32))).1 (zaN X55 (bd 12) rfl rfl k)) ?_
    refine OD.gF X55 (bd 13) hZ hown hw Wd28 Via.refl e55 V1 (fun T56 X56 e56 => ?_)
    refine OD.at 30 (fun t k => ziN X56 (bd 14) rfl (ziN X56 (bd 15) rfl (zaN X56 (bd 16) rfl rfl k))) ?_
    refine OD.cV X56 (bd 17) hZ hown hml Wd96 Wd38 (nfs hZ (Wd40 hw)) Wd40 Wd39 Wd3 Wd41 pd11 (rmLo1 hw a1 h0 n0 X00 SS t1 kt (0 : Int32) F A1 V1 C1 E1) e56 E1 rfl (fun v57 T57 L57 X57 hQ57 => ?_)
    obtain ⟨rfl, rfl, e57⟩ := hQ57
    rw [show ((0 : Int32) >>> ((1 : Int32) &&& 31)) = (0 : Int32) from by decide]
    refine OD.cS X57 (bd 18) hZ hown hml Wd359 Wd360 Wd17 Wd361 pd9 (rmIX0 hw t1 x1 h0 n0 X00 SS kt F A1) e57 rfl (fun v58 T58 L58 X58 hQ58 => ?_)
    obtain ⟨rfl, rfl, e58⟩ := hQ58
    have fin : (-1 : Int32) = (own_kix ([] : List Int32) x1) := rfl
    rw [fin]
    exact OD.rI X58 (bd 11) hlk hrt rfl ⟨rfl, rfl, e58⟩
theorem rmSX2_1 (a1 : Addr) (x1 : Int32) (h0 : Heap) (n0 : Nat) (X00 : Old Z n0 h0) (SS : STs Z zc fm u8 hxa kh) (t1 : Addr) (c0 : Int32) (HS : Strg Z h0 a1 t1 ([c0] : List Int32)) :
    MF l hw ⟨zZ0, "indexOf", "(II)I"⟩ kQ30 3 (some .int) (rO 5 0 0 96) #[(.ref a1), (.int x1), (.int 0)] h0 (Pu (some (.int (own_kix ([c0] : List Int32) x1))) h0) := by
  refine MF.of (pF pn3) (ef10 · a1 x1 (0 : Int32)) dP18 ?_
  intro p e s m below meth c s₁ bd hlk hml hown hnm hrt hZ X0 e0
  obtain ⟨E1, Et, V1, kt, z, F, A1, hcd⟩ := HS
  rcases hcd with ⟨C1, hz, hR⟩ | ⟨C1, hz, hR⟩
  · skip
    obtain rfl : z = (1 : Int32) := Int32.toInt_inj.mp (by rw [hz]; rfl)
    refine OD.at 1 (fun t k => zaN X0 (bd 0) rfl rfl k) ?_
    refine OD.cV X0 (bd 1) hZ hown hml Wd67 Wd68 (nfs hZ (Wd70 hw)) Wd70 Wd69 Wd3 Wd71 pd10 (rmSI0 hw a1 h0 n0 X00 SS C1 E1) e0 E1 rfl (fun v51 T51 L51 X51 hQ51 => ?_)
    obtain ⟨rfl, rfl, e51⟩ := hQ51
    refine OD.at 8 (fun t k => zjN X51 (bd 2) (feq (by decide : ¬ (1 : Int32) = (0 : Int32))).1 (zaN X51 (bd 3) rfl rfl k)) ?_
    refine OD.gF X51 (bd 4) hZ hown hw Wd28 Via.refl e51 V1 (fun T52 X52 e52 => ?_)
    refine OD.at 14 (fun t k => ziN X52 (bd 5) rfl (ziN X52 (bd 6) rfl (zaN X52 (bd 7) rfl rfl k))) ?_
    refine OD.cV X52 (bd 8) hZ hown hml Wd96 Wd38 (nfs hZ (Wd40 hw)) Wd40 Wd39 Wd3 Wd41 pd11 (rmLo0 hw a1 h0 n0 X00 SS t1 kt (1 : Int32) F A1 V1 C1 E1) e52 E1 rfl (fun v53 T53 L53 X53 hQ53 => ?_)
    obtain ⟨rfl, rfl, e53⟩ := hQ53
    rw [show ((1 : Int32) >>> ((0 : Int32) &&& 31)) = (1 : Int32) from by decide]
    refine OD.cS X53 (bd 9) hZ hown hml Wd97 Wd98 Wd99 Wd100 pd9 (rmLIk1 hw t1 x1 h0 n0 X00 SS kt F A1) e53 rfl (fun v54 T54 L54 X54 hQ54 => ?_)
    obtain ⟨rfl, rfl, e54⟩ := hQ54
    refine OD.at 36 (fun t k => zgO X54 (bd 10) 36 k) ?_
    have fin : (own_ixL F x1) = (own_kix ([c0] : List Int32) x1) := own_ixLR hR
    rw [fin]
    exact OD.rI X54 (bd 11) hlk hrt rfl ⟨rfl, rfl, e54⟩
  · skip
    obtain rfl : z = (2 : Int32) := Int32.toInt_inj.mp (by rw [hz]; rfl)
    refine OD.at 1 (fun t k => zaN X0 (bd 0) rfl rfl k) ?_
    refine OD.cV X0 (bd 1) hZ hown hml Wd67 Wd68 (nfs hZ (Wd70 hw)) Wd70 Wd69 Wd3 Wd71 pd10 (rmSI1 hw a1 h0 n0 X00 SS C1 E1) e0 E1 rfl (fun v55 T55 L55 X55 hQ55 => ?_)
    obtain ⟨rfl, rfl, e55⟩ := hQ55
    refine OD.at 24 (fun t k => zjY X55 (bd 2) 23 (teq (by decide : (0 : Int32) = (0 : Int32))).1 (zaN X55 (bd 12) rfl rfl k)) ?_
    refine OD.gF X55 (bd 13) hZ hown hw Wd28 Via.refl e55 V1 (fun T56 X56 e56 => ?_)
    refine OD.at 30 (fun t k => ziN X56 (bd 14) rfl (ziN X56 (bd 15) rfl (zaN X56 (bd 16) rfl rfl k))) ?_
    refine OD.cV X56 (bd 17) hZ hown hml Wd96 Wd38 (nfs hZ (Wd40 hw)) Wd40 Wd39 Wd3 Wd41 pd11 (rmLo1 hw a1 h0 n0 X00 SS t1 kt (2 : Int32) F A1 V1 C1 E1) e56 E1 rfl (fun v57 T57 L57 X57 hQ57 => ?_)
    obtain ⟨rfl, rfl, e57⟩ := hQ57
    rw [show ((2 : Int32) >>> ((1 : Int32) &&& 31)) = (1 : Int32) from by decide]
    refine OD.cS X57 (bd 18) hZ hown hml Wd359 Wd360 Wd17 Wd361 pd9 (rmIX1 hw t1 x1 h0 n0 X00 SS kt F A1) e57 rfl (fun v58 T58 L58 X58 hQ58 => ?_)
    obtain ⟨rfl, rfl, e58⟩ := hQ58
    have fin : (own_ixU F x1) = (own_kix ([c0] : List Int32) x1) := own_ixUR hR
    rw [fin]
    exact OD.rI X58 (bd 11) hlk hrt rfl ⟨rfl, rfl, e58⟩
theorem rmSX1 (a1 : Addr) (x1 : Int32) (h0 : Heap) (n0 : Nat) (X00 : Old Z n0 h0) (SS : STs Z zc fm u8 hxa kh) (t1 : Addr) (cs : List Int32) (HS : Strg Z h0 a1 t1 cs) (hk : cs.length ≤ 1) :
    MF l hw ⟨zZ0, "indexOf", "(I)I"⟩ kQ31 2 (some .int) (rO 6 0 0 114) #[(.ref a1), (.int x1)] h0 (Pu (some (.int (own_kix cs x1))) h0) := by
  refine MF.of (pF pn3) (ef9 · a1 x1) dP17 ?_
  intro p e s m below meth c s₁ bd hlk hml hown hnm hrt hZ X0 e0
  rcases own_k01 hk with rfl | ⟨c0, rfl⟩
  · skip
    refine OD.at 3 (fun t k => zaN X0 (bd 0) rfl rfl (ziN X0 (bd 1) rfl (zcI X0 (bd 2) 0 rfl k))) ?_
    refine OD.cV X0 (bd 3) hZ hown hml Wd91 Wd92 (nfs hZ (Wd94 hw)) Wd94 Wd93 Wd3 Wd95 pd8 (rmSX2_0 hw a1 x1 h0 n0 X00 SS t1  HS) e0 HS.1 rfl (fun v51 T51 L51 X51 hQ51 => ?_)
    obtain ⟨rfl, rfl, e51⟩ := hQ51
    exact OD.rI X51 (bd 4) hlk hrt rfl ⟨rfl, rfl, e51⟩
  · skip
    refine OD.at 3 (fun t k => zaN X0 (bd 0) rfl rfl (ziN X0 (bd 1) rfl (zcI X0 (bd 2) 0 rfl k))) ?_
    refine OD.cV X0 (bd 3) hZ hown hml Wd91 Wd92 (nfs hZ (Wd94 hw)) Wd94 Wd93 Wd3 Wd95 pd8 (rmSX2_1 hw a1 x1 h0 n0 X00 SS t1 c0 HS) e0 HS.1 rfl (fun v52 T52 L52 X52 hQ52 => ?_)
    obtain ⟨rfl, rfl, e52⟩ := hQ52
    exact OD.rI X52 (bd 4) hlk hrt rfl ⟨rfl, rfl, e52⟩
def Q_rmK (Z : State) (x0 : Int32) (a2 : Addr) (h0 : Heap) (n0 : Nat) (ks : List Int32) (v : Option Value) (h : Heap) (L : List Loc) : Prop := v = some (.int (own_isk ks x0)) ∧ Fr n0 L ∧ Keep h0 h []
set_option maxRecDepth 65536 in
set_option maxHeartbeats 40000000 in
theorem rmK {l : Launch} {Z : State} {a0 : Array Value} (hw : HW a0 Z) (x0 : Int32) (a2 : Addr) (h0 : Heap) (n0 : Nat) (X00 : Old Z n0 h0) (SS : STs Z zc fm u8 hxa kh) (Z0 : n0 ≤ h0.size) (t1 : Addr) (ks : List Int32) (HS : Strg Z h0 a2 t1 ks) (hk : ks.length ≤ 1)  :
    MetFree l ⟨zZ6, "isKept", zZ37⟩ (head1 (Jvm.Cond.code ⟨zZ6, "isKept", zZ37⟩ kQ42 3 (some .boolean) :: []) (rO 7 4 24 131)) (fun a U => a = #[(.int x0), (.ref a2)] ∧ Z.Warmed39 U.vm ∧ U.heap = h0 ∧ CHv Z own_EL U.vm h0) (fun _ _ _ _ _ => True) (fun _ U o U' => ∃ v L, o = .returned v ∧ Q_rmK Z x0 a2 h0 n0 ks v U'.heap L ∧ CHr Z own_EL U.vm U.heap U'.vm U'.heap ∧ ReturnedEndW U o U' L (rO 7 4 24 131).cells (rO 7 4 24 131).slots) := by
  refine MetFree.of_bodySF (pF pn5) hisR ?_
  intro p e s m args below meth c s₁ Bd hml0 hP hK
  obtain ⟨rfl, hZ, hh, hH0⟩ := hP
  have hx := Bd.exec
  have hby := Bd.bytes
  have hlk : meth.locks = false := Bd.notSynchronized
  have hml : c.maxLocals = 3 := hml0
  have hown : s.vm.findClass zZ6 = some m.cls := findClass_of_methodNamed Bd.named
  have hnm := (name_of_methodNamed Bd.named Bd.method).1
  have X0 : Stand p l e (rO 7 4 24 131) s m #[(.int x0), (.ref a2)] below meth c s₁ [] 0 0 := Stand.of_body Bd
  have e0 : s₁.heap = h0 := by rw [← hh, Bd.state]; rfl
  have hS0 : s.Since s.vm s.heap.size := (State.WarmedH.refl s).since _
  have hk0 : s.heap.size ≤ h0.size := Nat.le_of_eq (by rw [hh])
  have X0 : Stand p l e (rO 7 4 24 131) (s.setVm s.vm) m #[(.int x0), (.ref a2)] below meth c s₁ [] 0 0 := X0
  have hZ : Z.Warmed39 (s.setVm s.vm).vm := hZ
  have hown : (s.setVm s.vm).vm.findClass zZ6 = some m.cls := hown
  have ch0 : CHr Z own_EL s.vm s.heap s.vm h0 := by have q := CHr.refl hH0; rw [← hh] at q ⊢; exact q
  have N0 := Fr.nil n0
  have O2 := SS.1
  have P5 := SS.2.1
  have bd : ∀ k, DX p c (dG dT16 k) := fun k => ⟨hx, hb hby (dk dP16 k)⟩
  have hrt := Bd.returns
  suffices hgo : ODH Z own_EL p e s below (Q_rmK Z x0 a2 h0 n0 ks) (rO 7 4 24 131).cells (rO 7 4 24 131).slots (s₁.setTop (mkF m 0 #[vI x0, vR a2, .unset] [])) by
    obtain ⟨s₂, o, hgo1, hgo2⟩ := hgo
    exact ⟨s₂, o, castTop (ef16 m x0 a2) hgo1, hgo2⟩
  refine ODH.at 3 (fun t k => ziN X0 (bd 0) rfl (zcB X0 (bd 1) 97 rfl k)) ?_
  obtain ⟨v41_51, hv41_51⟩ : ∃ z : Int32, z = (if x0 < (97 : Int32) then (if x0 < (65 : Int32) then (if x0 < (48 : Int32) then (0 : Int32) else (if (57 : Int32) < x0 then (0 : Int32) else (1 : Int32))) else (if (90 : Int32) < x0 then (if x0 < (48 : Int32) then (0 : Int32) else (if (57 : Int32) < x0 then (0 : Int32) else (1 : Int32))) else (1 : Int32))) else (if (122 : Int32) < x0 then (if x0 < (65 : Int32) then (if x0 < (48 : Int32) then (0 : Int32) else (if (57 : Int32) < x0 then (0 : Int32) else (1 : Int32))) else (if (90 : Int32) < x0 then (if x0 < (48 : Int32) then (0 : Int32) else (if (57 : Int32) < x0 then (0 : Int32) else (1 : Int32))) else (1 : Int32))) else (1 : Int32))) := ⟨_, rfl⟩
  refine ODH.cut (B := (s₁.setTop (mkF m 41 #[vI x0, vR a2, .unset] [(.int v41_51)]))) (fun J41_52 => ?_) ?_
  · skip
    by_cases c3_53 : x0 < (97 : Int32)
    · refine ODH.at 15 (fun t k => zkY X0 (bd 2) 12 (tlt c3_53).1 (ziN X0 (bd 3) rfl (zcB X0 (bd 4) 65 rfl k))) ?_
      by_cases c15_54 : x0 < (65 : Int32)
      · refine ODH.at 27 (fun t k => zkY X0 (bd 5) 24 (tlt c15_54).1 (ziN X0 (bd 6) rfl (zcB X0 (bd 7) 48 rfl k))) ?_
        by_cases c27_55 : x0 < (48 : Int32)
        · refine ODH.at 41 (fun t k => zkY X0 (bd 8) 40 (tlt c27_55).1 (zcI X0 (bd 9) 0 rfl k)) ?_
          rw [if_pos c3_53, if_pos c15_54, if_pos c27_55] at hv41_51
          rw [hv41_51] at J41_52
          exact J41_52
        · refine ODH.at 33 (fun t k => zkN X0 (bd 8) (flt c27_55).1 (ziN X0 (bd 10) rfl (zcB X0 (bd 11) 57 rfl k))) ?_
          by_cases c33_56 : (57 : Int32) < x0
          · refine ODH.at 41 (fun t k => zkY X0 (bd 12) 40 (tlt c33_56).2.2.1 (zcI X0 (bd 9) 0 rfl k)) ?_
            rw [if_pos c3_53, if_pos c15_54, if_neg c27_55, if_pos c33_56] at hv41_51
            rw [hv41_51] at J41_52
            exact J41_52
          · refine ODH.at 41 (fun t k => zkN X0 (bd 12) (flt c33_56).2.2.1 (zcI X0 (bd 13) 1 rfl (zgO X0 (bd 14) 41 k))) ?_
            rw [if_pos c3_53, if_pos c15_54, if_neg c27_55, if_neg c33_56] at hv41_51
            rw [hv41_51] at J41_52
            exact J41_52
      · refine ODH.at 21 (fun t k => zkN X0 (bd 5) (flt c15_54).1 (ziN X0 (bd 15) rfl (zcB X0 (bd 16) 90 rfl k))) ?_
        by_cases c21_57 : (90 : Int32) < x0
        · refine ODH.at 27 (fun t k => zkN X0 (bd 17) (tlt c21_57).2.2.2 (ziN X0 (bd 6) rfl (zcB X0 (bd 7) 48 rfl k))) ?_
          by_cases c27_58 : x0 < (48 : Int32)
          · refine ODH.at 41 (fun t k => zkY X0 (bd 8) 40 (tlt c27_58).1 (zcI X0 (bd 9) 0 rfl k)) ?_
            rw [if_pos c3_53, if_neg c15_54, if_pos c21_57, if_pos c27_58] at hv41_51
            rw [hv41_51] at J41_52
            exact J41_52
          · refine ODH.at 33 (fun t k => zkN X0 (bd 8) (flt c27_58).1 (ziN X0 (bd 10) rfl (zcB X0 (bd 11) 57 rfl k))) ?_
            by_cases c33_59 : (57 : Int32) < x0
            · refine ODH.at 41 (fun t k => zkY X0 (bd 12) 40 (tlt c33_59).2.2.1 (zcI X0 (bd 9) 0 rfl k)) ?_
              rw [if_pos c3_53, if_neg c15_54, if_pos c21_57, if_neg c27_58, if_pos c33_59] at hv41_51
              rw [hv41_51] at J41_52
              exact J41_52
            · refine ODH.at 41 (fun t k => zkN X0 (bd 12) (flt c33_59).2.2.1 (zcI X0 (bd 13) 1 rfl (zgO X0 (bd 14) 41 k))) ?_
              rw [if_pos c3_53, if_neg c15_54, if_pos c21_57, if_neg c27_58, if_neg c33_59] at hv41_51
              rw [hv41_51] at J41_52
              exact J41_52
        · refine ODH.at 41 (fun t k => zkY X0 (bd 17) 36 (flt c21_57).2.2.2 (zcI X0 (bd 13) 1 rfl (zgO X0 (bd 14) 41 k))) ?_
          rw [if_pos c3_53, if_neg c15_54, if_neg c21_57] at hv41_51
          rw [hv41_51] at J41_52
          exact J41_52
    · refine ODH.at 9 (fun t k => zkN X0 (bd 2) (flt c3_53).1 (ziN X0 (bd 18) rfl (zcB X0 (bd 19) 122 rfl k))) ?_
      by_cases c9_60 : (122 : Int32) < x0
      · refine ODH.at 15 (fun t k => zkN X0 (bd 20) (tlt c9_60).2.2.2 (ziN X0 (bd 3) rfl (zcB X0 (bd 4) 65 rfl k))) ?_
        by_cases c15_61 : x0 < (65 : Int32)
        · refine ODH.at 27 (fun t k => zkY X0 (bd 5) 24 (tlt c15_61).1 (ziN X0 (bd 6) rfl (zcB X0 (bd 7) 48 rfl k))) ?_
          by_cases c27_62 : x0 < (48 : Int32)
          · refine ODH.at 41 (fun t k => zkY X0 (bd 8) 40 (tlt c27_62).1 (zcI X0 (bd 9) 0 rfl k)) ?_
            rw [if_neg c3_53, if_pos c9_60, if_pos c15_61, if_pos c27_62] at hv41_51
            rw [hv41_51] at J41_52
            exact J41_52
          · refine ODH.at 33 (fun t k => zkN X0 (bd 8) (flt c27_62).1 (ziN X0 (bd 10) rfl (zcB X0 (bd 11) 57 rfl k))) ?_
            by_cases c33_63 : (57 : Int32) < x0
            · refine ODH.at 41 (fun t k => zkY X0 (bd 12) 40 (tlt c33_63).2.2.1 (zcI X0 (bd 9) 0 rfl k)) ?_
              rw [if_neg c3_53, if_pos c9_60, if_pos c15_61, if_neg c27_62, if_pos c33_63] at hv41_51
              rw [hv41_51] at J41_52
              exact J41_52
            · refine ODH.at 41 (fun t k => zkN X0 (bd 12) (flt c33_63).2.2.1 (zcI X0 (bd 13) 1 rfl (zgO X0 (bd 14) 41 k))) ?_
              rw [if_neg c3_53, if_pos c9_60, if_pos c15_61, if_neg c27_62, if_neg c33_63] at hv41_51
              rw [hv41_51] at J41_52
              exact J41_52
        · refine ODH.at 21 (fun t k => zkN X0 (bd 5) (flt c15_61).1 (ziN X0 (bd 15) rfl (zcB X0 (bd 16) 90 rfl k))) ?_
          by_cases c21_64 : (90 : Int32) < x0
          · refine ODH.at 27 (fun t k => zkN X0 (bd 17) (tlt c21_64).2.2.2 (ziN X0 (bd 6) rfl (zcB X0 (bd 7) 48 rfl k))) ?_
            by_cases c27_65 : x0 < (48 : Int32)
            · refine ODH.at 41 (fun t k => zkY X0 (bd 8) 40 (tlt c27_65).1 (zcI X0 (bd 9) 0 rfl k)) ?_
              rw [if_neg c3_53, if_pos c9_60, if_neg c15_61, if_pos c21_64, if_pos c27_65] at hv41_51
              rw [hv41_51] at J41_52
              exact J41_52
            · refine ODH.at 33 (fun t k => zkN X0 (bd 8) (flt c27_65).1 (ziN X0 (bd 10) rfl (zcB X0 (bd 11) 57 rfl k))) ?_
              by_cases c33_66 : (57 : Int32) < x0
              · refine ODH.at 41 (fun t k => zkY X0 (bd 12) 40 (tlt c33_66).2.2.1 (zcI X0 (bd 9) 0 rfl k)) ?_
                rw [if_neg c3_53, if_pos c9_60, if_neg c15_61, if_pos c21_64, if_neg c27_65, if_pos c33_66] at hv41_51
                rw [hv41_51] at J41_52
                exact J41_52
              · refine ODH.at 41 (fun t k => zkN X0 (bd 12) (flt c33_66).2.2.1 (zcI X0 (bd 13) 1 rfl (zgO X0 (bd 14) 41 k))) ?_
                rw [if_neg c3_53, if_pos c9_60, if_neg c15_61, if_pos c21_64, if_neg c27_65, if_neg c33_66] at hv41_51
                rw [hv41_51] at J41_52
                exact J41_52
          · refine ODH.at 41 (fun t k => zkY X0 (bd 17) 36 (flt c21_64).2.2.2 (zcI X0 (bd 13) 1 rfl (zgO X0 (bd 14) 41 k))) ?_
            rw [if_neg c3_53, if_pos c9_60, if_neg c15_61, if_neg c21_64] at hv41_51
            rw [hv41_51] at J41_52
            exact J41_52
      · refine ODH.at 41 (fun t k => zkY X0 (bd 20) 36 (flt c9_60).2.2.2 (zcI X0 (bd 13) 1 rfl (zgO X0 (bd 14) 41 k))) ?_
        rw [if_neg c3_53, if_neg c9_60] at hv41_51
        rw [hv41_51] at J41_52
        exact J41_52
  refine ODH.at 42 (fun t k => zsN X0 (bd 21) #[vI x0, vR a2, vI v41_51] rfl k) ?_
  have hld : v41_51 = own_ld x0 := by rw [hv41_51]; rfl
  rw [hld]
  refine ODH.at 43 (fun t k => ziN X0 (bd 22) rfl k) ?_
  by_cases c43_67 : (own_ld x0) = (0 : Int32)
  · refine ODH.at 46 (fun t k => zjN X0 (bd 23) (teq c43_67).2 k) ?_
    obtain ⟨b68, T68, h68, k68, t68, kb68, X68, e68, E68, hS68, hk68, hZ, hown, Ea68, Ca68, Va68, Ab68, la68, lb68, cr68, -, ns68, st68⟩ := ldcCH X0 hx hZ hown (Wd83 hw) (wS_in hw) e0 hS0 hk0 (EL_in hw) (mG 0 rfl) ch0.1 (vs := [(.int 45), (.int 46), (.int 95), (.int 126)]) (z := (4 : Int32)) ⟨by decide, by decide⟩ (by decide) (by decide) (g := (mkF m 46 #[vI x0, vR a2, vI ((own_ld x0))] [])) rfl (bd 24).2 (n := 16) (by decide) (by decide) (nl rfl) (nl rfl)
    have ch68 := ch0.trans cr68
    refine ODH.go (B := (T68.setTop (mkF m 48 #[vI x0, vR a2, vI ((own_ld x0))] [(.ref b68)]))) st68 ?_
    refine ODH.at 49 (fun t k => ziN X68 (bd 25) rfl k) ?_
    refine ODH.cV X68 (bd 26) hZ hown hml Wd86 Wd87 (nfs hZ (Wd89 hw)) Wd89 Wd88 Wd3 Wd90 pd20 (rmX1_4 hw b68 x0 h68 Ea68 Ca68 t68 kb68 Va68 (45 : Int32) (46 : Int32) (95 : Int32) (126 : Int32) Ab68 n0 (X00.ext E68) zc O2 P5) e68 Ea68 rfl (fun v69 T69 L69 X69 hQ69 => ?_)
    obtain ⟨rfl, rfl, e69⟩ := hQ69
    try simp only [List.append_nil] at X69
    by_cases c52_70 : (own_li4 (45 : Int32) (46 : Int32) (95 : Int32) (126 : Int32) x0) < (0 : Int32)
    · refine ODH.at 57 (fun t k => zjN X69 (bd 27) (tlt c52_70).2.1 (zaN X69 (bd 28) rfl rfl (ziN X69 (bd 29) rfl k))) ?_
      have f71 := (HS.ext E68)
      have f72 := (HS.1.ext E68)
      refine ODH.cV X69 (bd 30) hZ hown hml Wd86 Wd87 (nfs hZ (Wd89 hw)) Wd89 Wd88 Wd3 Wd90 pd20 (rmSX1 hw a2 x0 h68 n0 (X00.ext E68) SS t1 ks f71 hk) e69 f72 rfl (fun v73 T73 L73 X73 hQ73 => ?_)
      obtain ⟨rfl, rfl, e73⟩ := hQ73
      try simp only [List.append_nil] at X73
      by_cases c60_74 : (own_kix ks x0) < (0 : Int32)
      · refine ODH.at 68 (fun t k => zjY X73 (bd 31) 67 (tlt c60_74).1 (zcI X73 (bd 32) 0 rfl k)) ?_
        have fin : (own_isk ks x0) = (0 : Int32) := by unfold own_isk; rw [if_pos c43_67, if_pos c52_70, if_pos c60_74]
        exact ODH.ret X73 hx hlk hS68 (by rw [e73]; exact hk68) (by rw [e73]; exact ch68.trans (CHv.at X73 hZ (EL_in hw) ch68.1)) (t := .boolean) Bd.returns rfl (Or.inl ⟨rfl, Or.inr (Or.inl rfl), _, rfl⟩) (bd 33).2 (nl rfl) (nl rfl) ⟨by rw [fin], N0, by rw [e73]; exact ((Keep.refl h0 []).ext E68)⟩
      · refine ODH.at 68 (fun t k => zjN X73 (bd 31) (flt c60_74).1 (zcI X73 (bd 34) 1 rfl (zgO X73 (bd 35) 68 k))) ?_
        have fin : (own_isk ks x0) = (1 : Int32) := by unfold own_isk; rw [if_pos c43_67, if_pos c52_70, if_neg c60_74]
        exact ODH.ret X73 hx hlk hS68 (by rw [e73]; exact hk68) (by rw [e73]; exact ch68.trans (CHv.at X73 hZ (EL_in hw) ch68.1)) (t := .boolean) Bd.returns rfl (Or.inl ⟨rfl, Or.inr (Or.inl rfl), _, rfl⟩) (bd 33).2 (nl rfl) (nl rfl) ⟨by rw [fin], N0, by rw [e73]; exact ((Keep.refl h0 []).ext E68)⟩
    · refine ODH.at 68 (fun t k => zjY X69 (bd 27) 63 (flt c52_70).2.1 (zcI X69 (bd 34) 1 rfl (zgO X69 (bd 35) 68 k))) ?_
      have fin : (own_isk ks x0) = (1 : Int32) := by unfold own_isk; rw [if_pos c43_67, if_neg c52_70]
      exact ODH.ret X69 hx hlk hS68 (by rw [e69]; exact hk68) (by rw [e69]; exact ch68.trans (CHv.at X69 hZ (EL_in hw) ch68.1)) (t := .boolean) Bd.returns rfl (Or.inl ⟨rfl, Or.inr (Or.inl rfl), _, rfl⟩) (bd 33).2 (nl rfl) (nl rfl) ⟨by rw [fin], N0, by rw [e69]; exact ((Keep.refl h0 []).ext E68)⟩
  · refine ODH.at 68 (fun t k => zjY X0 (bd 23) 63 (feq c43_67).2 (zcI X0 (bd 34) 1 rfl (zgO X0 (bd 35) 68 k))) ?_
    have fin : (own_isk ks x0) = (1 : Int32) := by unfold own_isk; rw [if_neg c43_67]
    exact ODH.ret X0 hx hlk hS0 (by rw [e0]; exact hk0) (by rw [e0]; exact ch0.trans (CHv.at X0 hZ (EL_in hw) ch0.1)) (t := .boolean) Bd.returns rfl (Or.inl ⟨rfl, Or.inr (Or.inl rfl), _, rfl⟩) (bd 33).2 (nl rfl) (nl rfl) ⟨by rw [fin], N0, by rw [e0]; exact (Keep.refl h0 [])⟩
theorem rmNBL (x0 : Int32) (h0 : Heap) (hq : ¬ x0 < (0 : Int32) ∧ x0 < (1073741823 : Int32)) :
    MF l hw ⟨zZ1, zZ56, "(I)I"⟩ kQ43 1 (some .int) (rO 0 0 0 0) #[(.int x0)] h0 (Pu (some (.int (x0 <<< ((1 : Int32) &&& 31)))) h0) := by
  refine MF.of (pF pn4) (ef0 · x0) dP62 ?_
  intro p e s m below meth c s₁ bd hlk hml hown hnm hrt hZ X0 e0
  have hx := (bd 0).1
  refine OD.go (B := (s₁.setTop (mkF m 58 #[vI x0] [(.int (x0 <<< ((1 : Int32) &&& 31)))]))) (fun t k => ziN X0 (bd 0) rfl (zjY X0 (bd 1) 12 (flt hq.1).2.1 (ziN X0 (bd 2) rfl (X0.ldcInt hx hown (mv hZ (Wd296 hw)) (g := (mkF m 13 #[vI x0] [(.int x0)])) rfl (bd 3).2 _ (zkY X0 (bd 4) 55 (tlt hq.2).1 (ziN X0 (bd 5) rfl (zcI X0 (bd 6) 1 rfl (zishl X0 (bd 7) k)))))))) ?_
  exact OD.rI X0 (bd 8) hlk hrt rfl ⟨rfl, rfl, e0⟩
def Q_rmNBF (Z : State) (h0 : Heap) (n0 : Nat) (zz : Int32) : QT := fun v h L => ∃ (b : Addr) (k : ClassId), v = some (.ref b) ∧ Fr n0 L ∧ Keep h0 h [] ∧ h0.size ≤ b ∧ Exa Z h b "[B" ∧ Arv Z h b k .byte zz (own_rg zz.toNatClampNeg (fun x => .int (own_z x))) (.int 0)
theorem rmNBF (x0 : Int32) (h0 : Heap) (n0 : Nat) (Z0 : n0 ≤ h0.size) (zz : Int32) (hzz : (x0 <<< ((1 : Int32) &&& 31)) = zz) (h1 : 0 ≤ x0.toInt) (h2 : x0.toInt ≤ 40) :
    MF l hw ⟨zZ1, zZ34, "(I)[B"⟩ kQ44 1 (some (.array .byte)) (rO 1 1 80 16) #[(.int x0)] h0 (Q_rmNBF Z h0 n0 zz) := by
  refine MF.of (pF pn4) (ef0 · x0) dP61 ?_
  intro p e s m below meth c s₁ bd hlk hml hown hnm hrt hZ X0 e0
  have hx := (bd 0).1
  have N0 := Fr.nil n0
  have hzi : zz.toInt = 2 * x0.toInt := by rw [← hzz]; exact own_sl1 h1 (by omega)
  refine OD.at 1 (fun t k => ziN X0 (bd 0) rfl k) ?_
  refine OD.cS X0 (bd 1) hZ hown hml Wd293 Wd294 Wd17 Wd295 pd20 (rmNBL hw x0 h0 ⟨own_nneg h1, own_mlt (by have : (1073741823 : Int32).toInt = 1073741823 := rfl; omega)⟩) e0 rfl (fun v51 T51 L51 X51 hQ51 => ?_)
  obtain ⟨rfl, rfl, e51⟩ := hQ51
  try rw [List.append_nil] at X51
  rw [show (x0 <<< ((1 : Int32) &&& 31)) = zz from hzz]
  obtain ⟨T52, h52, k52, X52, e52, E52, A52, Q52, st52⟩ := newPE X51 hx hZ (aty := .byte) (Wd19 hw) e51 (g := (mkF m 4 #[vI x0] [(.int zz)])) rfl (bd 2).2 rfl (own_nneg (by omega)) (cap := 80) (by have := own_clamp (x := zz) (by omega); omega) (by decide) (nl rfl) (nl rfl) (ad := "[B") (by decide)
  obtain ⟨b52, g52⟩ : ∃ z, z = h0.size := ⟨_, rfl⟩
  rw [← g52] at A52 Q52 st52
  have V52 : Arv Z h52 b52 k52 .byte zz (own_rg zz.toNatClampNeg (fun x => .int (own_z x))) (.int 0) := own_fill (Arv.new A52 (own_nneg (by omega)))
  refine OD.go (B := (T52.setTop (mkF m 6 #[vI x0] [(.ref b52)]))) st52 ?_
  exact OD.rA X52 (bd 3) hlk hrt rfl rfl rfl ⟨_, _, rfl, N0, by rw [e52]; exact ((Keep.refl h0 []).ext E52), (nT Nat.le.refl (nE g52)), by rw [e52]; exact Q52, by rw [e52]; exact V52⟩
def Q_rmC5_11 (Z : State) (vb : Addr) (h0 : Heap) (n0 : Nat) (kb : ClassId) (c0 : Int32) (F : Int32 → Int32) : QT := fun v h L => v = some (.int 1) ∧ Fr n0 L ∧ Keep h0 h [vb] ∧ Arv Z h vb kb .byte (1 : Int32) (own_rg (1 : Int32).toNatClampNeg (fun x => .int ((own_up F (0 : Int32) c0.toInt8.toInt32.toInt8.toInt32) x))) (.int 0)
theorem rmC5_11 (va : Addr) (vb : Addr) (h0 : Heap) (n0 : Nat) (kc kb : ClassId) (c0 : Int32) (F : Int32 → Int32) (Ac : Arv Z h0 va kc .char (1 : Int32) [(.int c0)] (.int 0)) (Ab : Arv Z h0 vb kb .byte (1 : Int32) (own_rg (1 : Int32).toNatClampNeg (fun x => .int (F x))) (.int 0)) (nab : va ≠ vb) (gv : n0 ≤ vb) (s0 : ¬ (255 : Int32) < c0) :
    MF l hw ⟨zZ1, "compress", zZ23⟩ kQ45 7 (some .int) (rO 0 0 0 0) #[(.ref va), (.int 0), (.ref vb), (.int 0), (.int 1)] h0 (Q_rmC5_11 Z vb h0 n0 kb c0 F) := by
  refine MF.of (pF pn4) (ef17 · va (0 : Int32) vb (0 : Int32) (1 : Int32)) dP5 ?_
  intro p e s m below meth c s₁ bd hlk hml hown hnm hrt hZ X0 e0
  have hx := (bd 0).1
  have N0 := Fr.nil n0
  refine OD.at 12 (fun t k => zcI X0 (bd 0) 0 rfl (zsI X0 (bd 1) #[vR va, vI 0, vR vb, vI 0, vI 1, vI 0, .unset] rfl (ziL X0 (bd 2) rfl (ziL X0 (bd 3) rfl (zkN X0 (bd 4) (tlt (by decide : (0 : Int32) < (1 : Int32))).2.1 (zaN X0 (bd 5) rfl rfl (ziN X0 (bd 6) rfl k))))))) ?_
  obtain ⟨cl51, Ar51, hi51, ha51⟩ := own_at Ac (j := (0 : Int32)) (v := (.int c0)) ⟨by decide, by decide⟩ rfl
  refine OD.at 31 (fun t k => X0.caload hx (j := (0 : Int32)) (v := (.int c0)) (by rw [e0]; exact Ar51.1) (State.isArrayOf_alike hZ.alike Ar51.2.1) Ar51.2.2 hi51 ha51 (g := (mkF m 12 #[vR va, vI 0, vR vb, vI 0, vI 1, vI 0, .unset] [(.int 0), (.ref va)])) rfl rfl (bd 7).2 _ (zsI X0 (bd 8) #[vR va, vI 0, vR vb, vI 0, vI 1, vI 0, vI c0] rfl (ziL X0 (bd 9) rfl (zcS X0 (bd 10) 255 rfl (zkY X0 (bd 11) 26 (flt s0).2.2.2 (zaN X0 (bd 12) rfl rfl (ziN X0 (bd 13) rfl (ziL X0 (bd 14) rfl (zi2b X0 (bd 15) k))))))))) ?_
  obtain ⟨cl53, Ar53, q53, S53, M53, H53, G53⟩ := id Ab
  obtain ⟨T53, h53, X53, e53, W53, st53⟩ := stB X0 hx hZ e0 Ar53 (j := (0 : Int32)) (inb_of S53 ⟨by decide, by decide⟩) (g := (mkF m 31 #[vR va, vI 0, vR vb, vI 0, vI 1, vI 0, vI c0] [(.int c0.toInt8.toInt32), (.int 0), (.ref vb)])) rfl rfl (bd 16).2
  have V53 : Arv Z h53 vb kb .byte (1 : Int32) (own_rg (1 : Int32).toNatClampNeg (fun x => .int ((own_up F (0 : Int32) c0.toInt8.toInt32.toInt8.toInt32) x))) (.int 0) := own_put (fun x => .int ((own_up F (0 : Int32) c0.toInt8.toInt32.toInt8.toInt32) x)) Ar53 q53 S53 M53 H53 G53 (fits_nar_byte _) W53 ⟨by decide, by decide⟩ (congrArg Value.int (own_up_at _ _ _)) (fun x q => congrArg Value.int (own_up_ne _ _ q))
  have N53 := Fr.snoc X53 N0 gv
  refine OD.go (B := (T53.setTop (mkF m 32 #[vR va, vI 0, vR vb, vI 0, vI 1, vI 0, vI c0] []))) st53 ?_
  refine OD.at 46 (fun t k => zic X53 (bd 17) rfl #[vR va, vI 1, vR vb, vI 0, vI 1, vI 0, vI c0] rfl (zic X53 (bd 18) rfl #[vR va, vI 1, vR vb, vI 1, vI 1, vI 0, vI c0] rfl (zic X53 (bd 19) rfl #[vR va, vI 1, vR vb, vI 1, vI 1, vI 1, vI c0] rfl (zgO X53 (bd 20) 3 (ziL X53 (bd 2) rfl (ziL X53 (bd 3) rfl (zkY X53 (bd 4) 44 (flt (by decide : ¬ (1 : Int32) < (1 : Int32))).2.1 (ziL X53 (bd 21) rfl k)))))))) ?_
  exact OD.rI X53 (bd 22) hlk hrt rfl ⟨rfl, N53, by rw [e53]; exact ((Keep.refl h0 [vb]).wr W53 (Or.inl (mG 0 rfl))), by rw [e53]; exact V53⟩
def Q_rmC5_10 (Z : State) (vb : Addr) (h0 : Heap) (n0 : Nat) (kb : ClassId) (F : Int32 → Int32) : QT := fun v h L => v = some (.int 0) ∧ Fr n0 L ∧ Keep h0 h [vb] ∧ Arv Z h vb kb .byte (1 : Int32) (own_rg (1 : Int32).toNatClampNeg (fun x => .int (F x))) (.int 0)
theorem rmC5_10 (va : Addr) (vb : Addr) (h0 : Heap) (n0 : Nat) (kc kb : ClassId) (c0 : Int32) (F : Int32 → Int32) (Ac : Arv Z h0 va kc .char (1 : Int32) [(.int c0)] (.int 0)) (Ab : Arv Z h0 vb kb .byte (1 : Int32) (own_rg (1 : Int32).toNatClampNeg (fun x => .int (F x))) (.int 0)) (nab : va ≠ vb) (gv : n0 ≤ vb) (g0 : (255 : Int32) < c0) :
    MF l hw ⟨zZ1, "compress", zZ23⟩ kQ45 7 (some .int) (rO 0 0 0 0) #[(.ref va), (.int 0), (.ref vb), (.int 0), (.int 1)] h0 (Q_rmC5_10 Z vb h0 n0 kb F) := by
  refine MF.of (pF pn4) (ef17 · va (0 : Int32) vb (0 : Int32) (1 : Int32)) dP5 ?_
  intro p e s m below meth c s₁ bd hlk hml hown hnm hrt hZ X0 e0
  have hx := (bd 0).1
  have N0 := Fr.nil n0
  refine OD.at 12 (fun t k => zcI X0 (bd 0) 0 rfl (zsI X0 (bd 1) #[vR va, vI 0, vR vb, vI 0, vI 1, vI 0, .unset] rfl (ziL X0 (bd 2) rfl (ziL X0 (bd 3) rfl (zkN X0 (bd 4) (tlt (by decide : (0 : Int32) < (1 : Int32))).2.1 (zaN X0 (bd 5) rfl rfl (ziN X0 (bd 6) rfl k))))))) ?_
  obtain ⟨cl51, Ar51, hi51, ha51⟩ := own_at Ac (j := (0 : Int32)) (v := (.int c0)) ⟨by decide, by decide⟩ rfl
  refine OD.at 25 (fun t k => X0.caload hx (j := (0 : Int32)) (v := (.int c0)) (by rw [e0]; exact Ar51.1) (State.isArrayOf_alike hZ.alike Ar51.2.1) Ar51.2.2 hi51 ha51 (g := (mkF m 12 #[vR va, vI 0, vR vb, vI 0, vI 1, vI 0, .unset] [(.int 0), (.ref va)])) rfl rfl (bd 7).2 _ (zsI X0 (bd 8) #[vR va, vI 0, vR vb, vI 0, vI 1, vI 0, vI c0] rfl (ziL X0 (bd 9) rfl (zcS X0 (bd 10) 255 rfl (zkN X0 (bd 11) (tlt g0).2.2.2 (ziL X0 (bd 23) rfl k)))))) ?_
  exact OD.rI X0 (bd 24) hlk hrt rfl ⟨rfl, N0, by rw [e0]; exact (Keep.refl h0 [vb]), by rw [e0]; exact Ab⟩
def Q_rmC5_22 (Z : State) (vb : Addr) (h0 : Heap) (n0 : Nat) (kb : ClassId) (c0 : Int32) (c1 : Int32) (F : Int32 → Int32) : QT := fun v h L => v = some (.int 2) ∧ Fr n0 L ∧ Keep h0 h [vb] ∧ Arv Z h vb kb .byte (2 : Int32) (own_rg (2 : Int32).toNatClampNeg (fun x => .int ((own_up (own_up F (0 : Int32) c0.toInt8.toInt32.toInt8.toInt32) (1 : Int32) c1.toInt8.toInt32.toInt8.toInt32) x))) (.int 0)
theorem rmC5_22 (va : Addr) (vb : Addr) (h0 : Heap) (n0 : Nat) (kc kb : ClassId) (c0 c1 : Int32) (F : Int32 → Int32) (Ac : Arv Z h0 va kc .char (2 : Int32) [(.int c0), (.int c1)] (.int 0)) (Ab : Arv Z h0 vb kb .byte (2 : Int32) (own_rg (2 : Int32).toNatClampNeg (fun x => .int (F x))) (.int 0)) (nab : va ≠ vb) (gv : n0 ≤ vb) (s0 : ¬ (255 : Int32) < c0) (s1 : ¬ (255 : Int32) < c1) :
    MF l hw ⟨zZ1, "compress", zZ23⟩ kQ45 7 (some .int) (rO 0 0 0 0) #[(.ref va), (.int 0), (.ref vb), (.int 0), (.int 2)] h0 (Q_rmC5_22 Z vb h0 n0 kb c0 c1 F) := by
  refine MF.of (pF pn4) (ef17 · va (0 : Int32) vb (0 : Int32) (2 : Int32)) dP5 ?_
  intro p e s m below meth c s₁ bd hlk hml hown hnm hrt hZ X0 e0
  have hx := (bd 0).1
  have N0 := Fr.nil n0
  refine OD.at 12 (fun t k => zcI X0 (bd 0) 0 rfl (zsI X0 (bd 1) #[vR va, vI 0, vR vb, vI 0, vI 2, vI 0, .unset] rfl (ziL X0 (bd 2) rfl (ziL X0 (bd 3) rfl (zkN X0 (bd 4) (tlt (by decide : (0 : Int32) < (2 : Int32))).2.1 (zaN X0 (bd 5) rfl rfl (ziN X0 (bd 6) rfl k))))))) ?_
  obtain ⟨cl51, Ar51, hi51, ha51⟩ := own_at Ac (j := (0 : Int32)) (v := (.int c0)) ⟨by decide, by decide⟩ rfl
  refine OD.at 31 (fun t k => X0.caload hx (j := (0 : Int32)) (v := (.int c0)) (by rw [e0]; exact Ar51.1) (State.isArrayOf_alike hZ.alike Ar51.2.1) Ar51.2.2 hi51 ha51 (g := (mkF m 12 #[vR va, vI 0, vR vb, vI 0, vI 2, vI 0, .unset] [(.int 0), (.ref va)])) rfl rfl (bd 7).2 _ (zsI X0 (bd 8) #[vR va, vI 0, vR vb, vI 0, vI 2, vI 0, vI c0] rfl (ziL X0 (bd 9) rfl (zcS X0 (bd 10) 255 rfl (zkY X0 (bd 11) 26 (flt s0).2.2.2 (zaN X0 (bd 12) rfl rfl (ziN X0 (bd 13) rfl (ziL X0 (bd 14) rfl (zi2b X0 (bd 15) k))))))))) ?_
  obtain ⟨cl53, Ar53, q53, S53, M53, H53, G53⟩ := id Ab
  obtain ⟨T53, h53, X53, e53, W53, st53⟩ := stB X0 hx hZ e0 Ar53 (j := (0 : Int32)) (inb_of S53 ⟨by decide, by decide⟩) (g := (mkF m 31 #[vR va, vI 0, vR vb, vI 0, vI 2, vI 0, vI c0] [(.int c0.toInt8.toInt32), (.int 0), (.ref vb)])) rfl rfl (bd 16).2
  have V53 : Arv Z h53 vb kb .byte (2 : Int32) (own_rg (2 : Int32).toNatClampNeg (fun x => .int ((own_up F (0 : Int32) c0.toInt8.toInt32.toInt8.toInt32) x))) (.int 0) := own_put (fun x => .int ((own_up F (0 : Int32) c0.toInt8.toInt32.toInt8.toInt32) x)) Ar53 q53 S53 M53 H53 G53 (fits_nar_byte _) W53 ⟨by decide, by decide⟩ (congrArg Value.int (own_up_at _ _ _)) (fun x q => congrArg Value.int (own_up_ne _ _ q))
  have N53 := Fr.snoc X53 N0 gv
  refine OD.go (B := (T53.setTop (mkF m 32 #[vR va, vI 0, vR vb, vI 0, vI 2, vI 0, vI c0] []))) st53 ?_
  refine OD.at 12 (fun t k => zic X53 (bd 17) rfl #[vR va, vI 1, vR vb, vI 0, vI 2, vI 0, vI c0] rfl (zic X53 (bd 18) rfl #[vR va, vI 1, vR vb, vI 1, vI 2, vI 0, vI c0] rfl (zic X53 (bd 19) rfl #[vR va, vI 1, vR vb, vI 1, vI 2, vI 1, vI c0] rfl (zgO X53 (bd 20) 3 (ziL X53 (bd 2) rfl (ziL X53 (bd 3) rfl (zkN X53 (bd 4) (tlt (by decide : (1 : Int32) < (2 : Int32))).2.1 (zaN X53 (bd 5) rfl rfl (ziN X53 (bd 6) rfl k))))))))) ?_
  have f54 := (Ac.other W53 nab)
  obtain ⟨cl55, Ar55, hi55, ha55⟩ := own_at f54 (j := (1 : Int32)) (v := (.int c1)) ⟨by decide, by decide⟩ rfl
  refine OD.at 31 (fun t k => X53.caload hx (j := (1 : Int32)) (v := (.int c1)) (by rw [e53]; exact Ar55.1) (State.isArrayOf_alike hZ.alike Ar55.2.1) Ar55.2.2 hi55 ha55 (g := (mkF m 12 #[vR va, vI 1, vR vb, vI 1, vI 2, vI 1, vI c0] [(.int 1), (.ref va)])) rfl rfl (bd 7).2 _ (zsI X53 (bd 8) #[vR va, vI 1, vR vb, vI 1, vI 2, vI 1, vI c1] rfl (ziL X53 (bd 9) rfl (zcS X53 (bd 10) 255 rfl (zkY X53 (bd 11) 26 (flt s1).2.2.2 (zaN X53 (bd 12) rfl rfl (ziN X53 (bd 13) rfl (ziL X53 (bd 14) rfl (zi2b X53 (bd 15) k))))))))) ?_
  obtain ⟨cl57, Ar57, q57, S57, M57, H57, G57⟩ := id V53
  obtain ⟨T57, h57, X57, e57, W57, st57⟩ := stB X53 hx hZ e53 Ar57 (j := (1 : Int32)) (inb_of S57 ⟨by decide, by decide⟩) (g := (mkF m 31 #[vR va, vI 1, vR vb, vI 1, vI 2, vI 1, vI c1] [(.int c1.toInt8.toInt32), (.int 1), (.ref vb)])) rfl rfl (bd 16).2
  have V57 : Arv Z h57 vb kb .byte (2 : Int32) (own_rg (2 : Int32).toNatClampNeg (fun x => .int ((own_up (own_up F (0 : Int32) c0.toInt8.toInt32.toInt8.toInt32) (1 : Int32) c1.toInt8.toInt32.toInt8.toInt32) x))) (.int 0) := own_put (fun x => .int ((own_up (own_up F (0 : Int32) c0.toInt8.toInt32.toInt8.toInt32) (1 : Int32) c1.toInt8.toInt32.toInt8.toInt32) x)) Ar57 q57 S57 M57 H57 G57 (fits_nar_byte _) W57 ⟨by decide, by decide⟩ (congrArg Value.int (own_up_at _ _ _)) (fun x q => congrArg Value.int (own_up_ne _ _ q))
  have N57 := Fr.snoc X57 N53 gv
  refine OD.go (B := (T57.setTop (mkF m 32 #[vR va, vI 1, vR vb, vI 1, vI 2, vI 1, vI c1] []))) st57 ?_
  refine OD.at 46 (fun t k => zic X57 (bd 17) rfl #[vR va, vI 2, vR vb, vI 1, vI 2, vI 1, vI c1] rfl (zic X57 (bd 18) rfl #[vR va, vI 2, vR vb, vI 2, vI 2, vI 1, vI c1] rfl (zic X57 (bd 19) rfl #[vR va, vI 2, vR vb, vI 2, vI 2, vI 2, vI c1] rfl (zgO X57 (bd 20) 3 (ziL X57 (bd 2) rfl (ziL X57 (bd 3) rfl (zkY X57 (bd 4) 44 (flt (by decide : ¬ (2 : Int32) < (2 : Int32))).2.1 (ziL X57 (bd 21) rfl k)))))))) ?_
  exact OD.rI X57 (bd 22) hlk hrt rfl ⟨rfl, N57, by rw [e57]; exact (((Keep.refl h0 [vb]).wr W53 (Or.inl (mG 0 rfl))).wr W57 (Or.inl (mG 0 rfl))), by rw [e57]; exact V57⟩
def Q_rmC5_20 (Z : State) (vb : Addr) (h0 : Heap) (n0 : Nat) (kb : ClassId) (F : Int32 → Int32) : QT := fun v h L => v = some (.int 0) ∧ Fr n0 L ∧ Keep h0 h [vb] ∧ Arv Z h vb kb .byte (2 : Int32) (own_rg (2 : Int32).toNatClampNeg (fun x => .int (F x))) (.int 0)
theorem rmC5_20 (va : Addr) (vb : Addr) (h0 : Heap) (n0 : Nat) (kc kb : ClassId) (c0 c1 : Int32) (F : Int32 → Int32) (Ac : Arv Z h0 va kc .char (2 : Int32) [(.int c0), (.int c1)] (.int 0)) (Ab : Arv Z h0 vb kb .byte (2 : Int32) (own_rg (2 : Int32).toNatClampNeg (fun x => .int (F x))) (.int 0)) (nab : va ≠ vb) (gv : n0 ≤ vb) (g0 : (255 : Int32) < c0) :
    MF l hw ⟨zZ1, "compress", zZ23⟩ kQ45 7 (some .int) (rO 0 0 0 0) #[(.ref va), (.int 0), (.ref vb), (.int 0), (.int 2)] h0 (Q_rmC5_20 Z vb h0 n0 kb F) := by
  refine MF.of (pF pn4) (ef17 · va (0 : Int32) vb (0 : Int32) (2 : Int32)) dP5 ?_
  intro p e s m below meth c s₁ bd hlk hml hown hnm hrt hZ X0 e0
  have hx := (bd 0).1
  have N0 := Fr.nil n0
  refine OD.at 12 (fun t k => zcI X0 (bd 0) 0 rfl (zsI X0 (bd 1) #[vR va, vI 0, vR vb, vI 0, vI 2, vI 0, .unset] rfl (ziL X0 (bd 2) rfl (ziL X0 (bd 3) rfl (zkN X0 (bd 4) (tlt (by decide : (0 : Int32) < (2 : Int32))).2.1 (zaN X0 (bd 5) rfl rfl (ziN X0 (bd 6) rfl k))))))) ?_
  obtain ⟨cl51, Ar51, hi51, ha51⟩ := own_at Ac (j := (0 : Int32)) (v := (.int c0)) ⟨by decide, by decide⟩ rfl
  refine OD.at 25 (fun t k => X0.caload hx (j := (0 : Int32)) (v := (.int c0)) (by rw [e0]; exact Ar51.1) (State.isArrayOf_alike hZ.alike Ar51.2.1) Ar51.2.2 hi51 ha51 (g := (mkF m 12 #[vR va, vI 0, vR vb, vI 0, vI 2, vI 0, .unset] [(.int 0), (.ref va)])) rfl rfl (bd 7).2 _ (zsI X0 (bd 8) #[vR va, vI 0, vR vb, vI 0, vI 2, vI 0, vI c0] rfl (ziL X0 (bd 9) rfl (zcS X0 (bd 10) 255 rfl (zkN X0 (bd 11) (tlt g0).2.2.2 (ziL X0 (bd 23) rfl k)))))) ?_
  exact OD.rI X0 (bd 24) hlk hrt rfl ⟨rfl, N0, by rw [e0]; exact (Keep.refl h0 [vb]), by rw [e0]; exact Ab⟩
def Q_rmC5_21 (Z : State) (vb : Addr) (h0 : Heap) (n0 : Nat) (kb : ClassId) (c0 : Int32) (F : Int32 → Int32) : QT := fun v h L => v = some (.int 1) ∧ Fr n0 L ∧ Keep h0 h [vb] ∧ Arv Z h vb kb .byte (2 : Int32) (own_rg (2 : Int32).toNatClampNeg (fun x => .int ((own_up F (0 : Int32) c0.toInt8.toInt32.toInt8.toInt32) x))) (.int 0)
theorem rmC5_21 (va : Addr) (vb : Addr) (h0 : Heap) (n0 : Nat) (kc kb : ClassId) (c0 c1 : Int32) (F : Int32 → Int32) (Ac : Arv Z h0 va kc .char (2 : Int32) [(.int c0), (.int c1)] (.int 0)) (Ab : Arv Z h0 vb kb .byte (2 : Int32) (own_rg (2 : Int32).toNatClampNeg (fun x => .int (F x))) (.int 0)) (nab : va ≠ vb) (gv : n0 ≤ vb) (s0 : ¬ (255 : Int32) < c0) (g1 : (255 : Int32) < c1) :
    MF l hw ⟨zZ1, "compress", zZ23⟩ kQ45 7 (some .int) (rO 0 0 0 0) #[(.ref va), (.int 0), (.ref vb), (.int 0), (.int 2)] h0 (Q_rmC5_21 Z vb h0 n0 kb c0 F) := by
  refine MF.of (pF pn4) (ef17 · va (0 : Int32) vb (0 : Int32) (2 : Int32)) dP5 ?_
  intro p e s m below meth c s₁ bd hlk hml hown hnm hrt hZ X0 e0
  have hx := (bd 0).1
  have N0 := Fr.nil n0
  refine OD.at 12 (fun t k => zcI X0 (bd 0) 0 rfl (zsI X0 (bd 1) #[vR va, vI 0, vR vb, vI 0, vI 2, vI 0, .unset] rfl (ziL X0 (bd 2) rfl (ziL X0 (bd 3) rfl (zkN X0 (bd 4) (tlt (by decide : (0 : Int32) < (2 : Int32))).2.1 (zaN X0 (bd 5) rfl rfl (ziN X0 (bd 6) rfl k))))))) ?_
  obtain ⟨cl51, Ar51, hi51, ha51⟩ := own_at Ac (j := (0 : Int32)) (v := (.int c0)) ⟨by decide, by decide⟩ rfl
  refine OD.at 31 (fun t k => X0.caload hx (j := (0 : Int32)) (v := (.int c0)) (by rw [e0]; exact Ar51.1) (State.isArrayOf_alike hZ.alike Ar51.2.1) Ar51.2.2 hi51 ha51 (g := (mkF m 12 #[vR va, vI 0, vR vb, vI 0, vI 2, vI 0, .unset] [(.int 0), (.ref va)])) rfl rfl (bd 7).2 _ (zsI X0 (bd 8) #[vR va, vI 0, vR vb, vI 0, vI 2, vI 0, vI c0] rfl (ziL X0 (bd 9) rfl (zcS X0 (bd 10) 255 rfl (zkY X0 (bd 11) 26 (flt s0).2.2.2 (zaN X0 (bd 12) rfl rfl (ziN X0 (bd 13) rfl (ziL X0 (bd 14) rfl (zi2b X0 (bd 15) k))))))))) ?_
  obtain ⟨cl53, Ar53, q53, S53, M53, H53, G53⟩ := id Ab
  obtain ⟨T53, h53, X53, e53, W53, st53⟩ := stB X0 hx hZ e0 Ar53 (j := (0 : Int32)) (inb_of S53 ⟨by decide, by decide⟩) (g := (mkF m 31 #[vR va, vI 0, vR vb, vI 0, vI 2, vI 0, vI c0] [(.int c0.toInt8.toInt32), (.int 0), (.ref vb)])) rfl rfl (bd 16).2
  have V53 : Arv Z h53 vb kb .byte (2 : Int32) (own_rg (2 : Int32).toNatClampNeg (fun x => .int ((own_up F (0 : Int32) c0.toInt8.toInt32.toInt8.toInt32) x))) (.int 0) := own_put (fun x => .int ((own_up F (0 : Int32) c0.toInt8.toInt32.toInt8.toInt32) x)) Ar53 q53 S53 M53 H53 G53 (fits_nar_byte _) W53 ⟨by decide, by decide⟩ (congrArg Value.int (own_up_at _ _ _)) (fun x q => congrArg Value.int (own_up_ne _ _ q))
  have N53 := Fr.snoc X53 N0 gv
  refine OD.go (B := (T53.setTop (mkF m 32 #[vR va, vI 0, vR vb, vI 0, vI 2, vI 0, vI c0] []))) st53 ?_
  refine OD.at 12 (fun t k => zic X53 (bd 17) rfl #[vR va, vI 1, vR vb, vI 0, vI 2, vI 0, vI c0] rfl (zic X53 (bd 18) rfl #[vR va, vI 1, vR vb, vI 1, vI 2, vI 0, vI c0] rfl (zic X53 (bd 19) rfl #[vR va, vI 1, vR vb, vI 1, vI 2, vI 1, vI c0] rfl (zgO X53 (bd 20) 3 (ziL X53 (bd 2) rfl (ziL X53 (bd 3) rfl (zkN X53 (bd 4) (tlt (by decide : (1 : Int32) < (2 : Int32))).2.1 (zaN X53 (bd 5) rfl rfl (ziN X53 (bd 6) rfl k))))))))) ?_
  have f54 := (Ac.other W53 nab)
  obtain ⟨cl55, Ar55, hi55, ha55⟩ := own_at f54 (j := (1 : Int32)) (v := (.int c1)) ⟨by decide, by decide⟩ rfl
  refine OD.at 25 (fun t k => X53.caload hx (j := (1 : Int32)) (v := (.int c1)) (by rw [e53]; exact Ar55.1) (State.isArrayOf_alike hZ.alike Ar55.2.1) Ar55.2.2 hi55 ha55 (g := (mkF m 12 #[vR va, vI 1, vR vb, vI 1, vI 2, vI 1, vI c0] [(.int 1), (.ref va)])) rfl rfl (bd 7).2 _ (zsI X53 (bd 8) #[vR va, vI 1, vR vb, vI 1, vI 2, vI 1, vI c1] rfl (ziL X53 (bd 9) rfl (zcS X53 (bd 10) 255 rfl (zkN X53 (bd 11) (tlt g1).2.2.2 (ziL X53 (bd 23) rfl k)))))) ?_
  exact OD.rI X53 (bd 24) hlk hrt rfl ⟨rfl, N53, by rw [e53]; exact ((Keep.refl h0 [vb]).wr W53 (Or.inl (mG 0 rfl))), by rw [e53]; exact V53⟩
def Q_rmTB1 (Z : State) (h0 : Heap) (n0 : Nat) (c0 : Int32) : QT := fun v h L => ∃ (b : Addr) (k : ClassId), v = some (.ref b) ∧ Fr n0 L ∧ Keep h0 h [] ∧ h0.size ≤ b ∧ Exa Z h b "[B" ∧ Arv Z h b k .byte (2 : Int32) (own_rg (2 : Int32).toNatClampNeg (fun x => .int ((own_pc own_z (0 : Int32) c0) x))) (.int 0)
theorem rmTB1 (va : Addr) (h0 : Heap) (n0 : Nat) (X00 : Old Z n0 h0) (SS : STs Z zc fm u8 hxa kh) (Z0 : n0 ≤ h0.size) (kc : ClassId) (c0 : Int32) (Ac : Arv Z h0 va kc .char (1 : Int32) [(.int c0)] (.int 0)) :
    MF l hw ⟨zZ1, "toBytes", "([CII)[B"⟩ kQ46 5 (some (.array .byte)) (rO 2 1 80 32) #[(.ref va), (.int 0), (.int 1)] h0 (Q_rmTB1 Z h0 n0 c0) := by
  refine MF.of (pF pn4) (ef18 · va (0 : Int32) (1 : Int32)) dP63 ?_
  intro p e s m below meth c s₁ bd hlk hml hown hnm hrt hZ X0 e0
  have hx := (bd 0).1
  have N0 := Fr.nil n0
  refine OD.at 1 (fun t k => ziN X0 (bd 0) rfl k) ?_
  refine OD.cS X0 (bd 1) hZ hown hml Wd300 Wd291 Wd17 Wd292 pd21 (rmNBF hw (1 : Int32) h0 n0 Z0 (2 : Int32) rfl (by decide) (by decide)) e0 rfl (fun v51 T51 L51 X51 hQ51 => ?_)
  obtain ⟨b51, k51', rfl, Nq51, K51, ob51, Q51, A51⟩ := hQ51
  have N51 := Fr.app N0 Nq51
  have gbb51 : n0 ≤ b51 := nT Z0 ob51
  refine OD.at 19 (fun t k => zaT X51 (bd 2) rfl #[vR va, vI 0, vI 1, vR b51, .unset] rfl (zcI X51 (bd 3) 0 rfl (zsI X51 (bd 4) #[vR va, vI 0, vI 1, vR b51, vI 0] rfl (ziL X51 (bd 5) rfl (ziN X51 (bd 6) rfl (zkN X51 (bd 7) (tlt (by decide : (0 : Int32) < (1 : Int32))).2.1 (zaN X51 (bd 8) rfl rfl (ziL X51 (bd 9) rfl (zaN X51 (bd 10) rfl rfl (ziN X51 (bd 11) rfl k)))))))))) ?_
  have f52 := (Ac.keep K51 nin0)
  obtain ⟨cl53, Ar53, hi53, ha53⟩ := own_at f52 (j := (0 : Int32)) (v := (.int c0)) ⟨by decide, by decide⟩ rfl
  refine OD.at 20 (fun t k => X51.caload hx (j := (0 : Int32)) (v := (.int c0)) (by exact Ar53.1) (State.isArrayOf_alike hZ.alike Ar53.2.1) Ar53.2.2 hi53 ha53 (g := (mkF m 19 #[vR va, vI 0, vI 1, vR b51, vI 0] [(.int 0), (.ref va), (.int 0), (.ref b51)])) rfl rfl (bd 12).2 _ k) ?_
  refine OD.cS X51 (bd 13) hZ hown hml Wd301 Wd302 Wd17 Wd303 pd22 (rmPC hw b51 (0 : Int32) c0 T51.heap n0 (X00.keep K51 all0) SS (nT Z0 K51.1) k51' (2 : Int32) own_z A51 ⟨by decide, by decide⟩ ⟨by decide, by decide⟩ gbb51) rfl rfl (fun v54 T54 L54 X54 hQ54 => ?_)
  obtain ⟨rfl, Nq54, K54, A54⟩ := hQ54
  have N54 := Fr.app N51 Nq54
  refine OD.at 33 (fun t k => zic X54 (bd 14) rfl #[vR va, vI 1, vI 1, vR b51, vI 0] rfl (zic X54 (bd 15) rfl #[vR va, vI 1, vI 1, vR b51, vI 1] rfl (zgO X54 (bd 16) 8 (ziL X54 (bd 5) rfl (ziN X54 (bd 6) rfl (zkY X54 (bd 7) 32 (flt (by decide : ¬ (1 : Int32) < (1 : Int32))).2.1 (zaN X54 (bd 17) rfl rfl k))))))) ?_
  exact OD.rA X54 (bd 18) hlk hrt rfl rfl rfl ⟨_, _, rfl, N54, by exact (((Keep.refl h0 []).trans K51 all0).trans K54 (allS (Or.inr (nT Nat.le.refl ob51)) all0)), (nT Nat.le.refl ob51), by exact (Q51.keep K54), by exact A54⟩
def Q_rmTB2 (Z : State) (h0 : Heap) (n0 : Nat) (c0 : Int32) (c1 : Int32) : QT := fun v h L => ∃ (b : Addr) (k : ClassId), v = some (.ref b) ∧ Fr n0 L ∧ Keep h0 h [] ∧ h0.size ≤ b ∧ Exa Z h b "[B" ∧ Arv Z h b k .byte (4 : Int32) (own_rg (4 : Int32).toNatClampNeg (fun x => .int ((own_pc (own_pc own_z (0 : Int32) c0) (1 : Int32) c1) x))) (.int 0)
theorem rmTB2 (va : Addr) (h0 : Heap) (n0 : Nat) (X00 : Old Z n0 h0) (SS : STs Z zc fm u8 hxa kh) (Z0 : n0 ≤ h0.size) (kc : ClassId) (c0 c1 : Int32) (Ac : Arv Z h0 va kc .char (2 : Int32) [(.int c0), (.int c1)] (.int 0)) :
    MF l hw ⟨zZ1, "toBytes", "([CII)[B"⟩ kQ46 5 (some (.array .byte)) (rO 2 1 80 32) #[(.ref va), (.int 0), (.int 2)] h0 (Q_rmTB2 Z h0 n0 c0 c1) := by
  refine MF.of (pF pn4) (ef18 · va (0 : Int32) (2 : Int32)) dP63 ?_
  intro p e s m below meth c s₁ bd hlk hml hown hnm hrt hZ X0 e0
  have hx := (bd 0).1
  have N0 := Fr.nil n0
  refine OD.at 1 (fun t k => ziN X0 (bd 0) rfl k) ?_
  refine OD.cS X0 (bd 1) hZ hown hml Wd300 Wd291 Wd17 Wd292 pd21 (rmNBF hw (2 : Int32) h0 n0 Z0 (4 : Int32) rfl (by decide) (by decide)) e0 rfl (fun v51 T51 L51 X51 hQ51 => ?_)
  obtain ⟨b51, k51', rfl, Nq51, K51, ob51, Q51, A51⟩ := hQ51
  have N51 := Fr.app N0 Nq51
  have gbb51 : n0 ≤ b51 := nT Z0 ob51
  refine OD.at 19 (fun t k => zaT X51 (bd 2) rfl #[vR va, vI 0, vI 2, vR b51, .unset] rfl (zcI X51 (bd 3) 0 rfl (zsI X51 (bd 4) #[vR va, vI 0, vI 2, vR b51, vI 0] rfl (ziL X51 (bd 5) rfl (ziN X51 (bd 6) rfl (zkN X51 (bd 7) (tlt (by decide : (0 : Int32) < (2 : Int32))).2.1 (zaN X51 (bd 8) rfl rfl (ziL X51 (bd 9) rfl (zaN X51 (bd 10) rfl rfl (ziN X51 (bd 11) rfl k)))))))))) ?_
  have f52 := (Ac.keep K51 nin0)
  obtain ⟨cl53, Ar53, hi53, ha53⟩ := own_at f52 (j := (0 : Int32)) (v := (.int c0)) ⟨by decide, by decide⟩ rfl
  refine OD.at 20 (fun t k => X51.caload hx (j := (0 : Int32)) (v := (.int c0)) (by exact Ar53.1) (State.isArrayOf_alike hZ.alike Ar53.2.1) Ar53.2.2 hi53 ha53 (g := (mkF m 19 #[vR va, vI 0, vI 2, vR b51, vI 0] [(.int 0), (.ref va), (.int 0), (.ref b51)])) rfl rfl (bd 12).2 _ k) ?_
  refine OD.cS X51 (bd 13) hZ hown hml Wd301 Wd302 Wd17 Wd303 pd22 (rmPC hw b51 (0 : Int32) c0 T51.heap n0 (X00.keep K51 all0) SS (nT Z0 K51.1) k51' (4 : Int32) own_z A51 ⟨by decide, by decide⟩ ⟨by decide, by decide⟩ gbb51) rfl rfl (fun v54 T54 L54 X54 hQ54 => ?_)
  obtain ⟨rfl, Nq54, K54, A54⟩ := hQ54
  have N54 := Fr.app N51 Nq54
  refine OD.at 19 (fun t k => zic X54 (bd 14) rfl #[vR va, vI 1, vI 2, vR b51, vI 0] rfl (zic X54 (bd 15) rfl #[vR va, vI 1, vI 2, vR b51, vI 1] rfl (zgO X54 (bd 16) 8 (ziL X54 (bd 5) rfl (ziN X54 (bd 6) rfl (zkN X54 (bd 7) (tlt (by decide : (1 : Int32) < (2 : Int32))).2.1 (zaN X54 (bd 8) rfl rfl (ziL X54 (bd 9) rfl (zaN X54 (bd 10) rfl rfl (ziN X54 (bd 11) rfl k)))))))))) ?_
  have f55 := (f52.keep K54 (ninS (nN Ac.lt ob51) nin0))
  obtain ⟨cl56, Ar56, hi56, ha56⟩ := own_at f55 (j := (1 : Int32)) (v := (.int c1)) ⟨by decide, by decide⟩ rfl
  refine OD.at 20 (fun t k => X54.caload hx (j := (1 : Int32)) (v := (.int c1)) (by exact Ar56.1) (State.isArrayOf_alike hZ.alike Ar56.2.1) Ar56.2.2 hi56 ha56 (g := (mkF m 19 #[vR va, vI 1, vI 2, vR b51, vI 1] [(.int 1), (.ref va), (.int 1), (.ref b51)])) rfl rfl (bd 12).2 _ k) ?_
  refine OD.cS X54 (bd 13) hZ hown hml Wd301 Wd302 Wd17 Wd303 pd22 (rmPC hw b51 (1 : Int32) c1 T54.heap n0 ((X00.keep K51 all0).keep K54 (allS gbb51 all0)) SS (nT (nT Z0 K51.1) K54.1) k51' (4 : Int32) (own_pc own_z (0 : Int32) c0) A54 ⟨by decide, by decide⟩ ⟨by decide, by decide⟩ gbb51) rfl rfl (fun v57 T57 L57 X57 hQ57 => ?_)
  obtain ⟨rfl, Nq57, K57, A57⟩ := hQ57
  have N57 := Fr.app N54 Nq57
  refine OD.at 33 (fun t k => zic X57 (bd 14) rfl #[vR va, vI 2, vI 2, vR b51, vI 1] rfl (zic X57 (bd 15) rfl #[vR va, vI 2, vI 2, vR b51, vI 2] rfl (zgO X57 (bd 16) 8 (ziL X57 (bd 5) rfl (ziN X57 (bd 6) rfl (zkY X57 (bd 7) 32 (flt (by decide : ¬ (2 : Int32) < (2 : Int32))).2.1 (zaN X57 (bd 17) rfl rfl k))))))) ?_
  exact OD.rA X57 (bd 18) hlk hrt rfl rfl rfl ⟨_, _, rfl, N57, by exact ((((Keep.refl h0 []).trans K51 all0).trans K54 (allS (Or.inr (nT Nat.le.refl ob51)) all0)).trans K57 (allS (Or.inr (nT Nat.le.refl ob51)) all0)), (nT Nat.le.refl ob51), by exact ((Q51.keep K54).keep K57), by exact A57⟩
theorem rmCF (va : Addr) (x1 : Int32) (h0 : Heap) (ka : ClassId) (z : Int32) (F : Int32 → Int32) (Aa : Arv Z h0 va ka .byte z (own_rg z.toNatClampNeg (fun x => .int (F x))) (.int 0)) (r0 : Int32) (hr0 : (((x1 - z).toUInt32 >>> ((31 : Int32) &&& 31).toUInt32).toInt32).toInt8.toInt32 = r0) :
    MF l hw ⟨zZ1, zZ57, "([BI)B"⟩ kQ47 2 (some .byte) (rO 0 0 0 0) #[(.ref va), (.int x1)] h0 (Pu (some (.int r0)) h0) := by
  refine MF.of (pF pn4) (ef9 · va x1) dP6 ?_
  intro p e s m below meth c s₁ bd hlk hml hown hnm hrt hZ X0 e0
  refine OD.at 8 (fun t k => ziN X0 (bd 0) rfl (zaN X0 (bd 1) rfl rfl (zal X0 (bd 2) hZ e0 Aa (zisub X0 (bd 3) (zcB X0 (bd 4) 31 rfl (ziushr X0 (bd 5) (zi2b X0 (bd 6) k))))))) ?_
  rw [show (((x1 - z).toUInt32 >>> ((31 : Int32) &&& 31).toUInt32).toInt32).toInt8.toInt32 = r0 from hr0]
  exact OD.rB X0 (bd 7) hlk hrt (by rw [← hr0]; exact own_b_nar _) ⟨rfl, rfl, e0⟩
def Q_rmC3_1 (Z : State) (h0 : Heap) (n0 : Nat) (c0 : Int32) : QT := fun v h L => ∃ (b : Addr) (k : ClassId) (z : Int32) (F : Int32 → Int32), v = some (.ref b) ∧ Fr n0 L ∧ Keep h0 h [] ∧ h0.size ≤ b ∧ Exa Z h b "[B" ∧ Arv Z h b k .byte z (own_rg z.toNatClampNeg (fun x => .int (F x))) (.int 0) ∧ (z = (1 : Int32) ∧ RpL F ([c0] : List Int32) ∨ z = (2 : Int32) ∧ RpU F ([c0] : List Int32))
theorem rmC3_1 (va : Addr) (h0 : Heap) (n0 : Nat) (X00 : Old Z n0 h0) (SS : STs Z zc fm u8 hxa kh) (Z0 : n0 ≤ h0.size) (kc : ClassId) (c0 : Int32) (Ac : Arv Z h0 va kc .char (1 : Int32) [(.int c0)] (.int 0)) (u0 : 0 ≤ c0.toInt) (w0 : c0.toInt ≤ 65535) :
    MF l hw ⟨zZ1, "compress", "([CII)[B"⟩ kQ48 6 (some (.array .byte)) (rO 3 2 82 52) #[(.ref va), (.int 0), (.int 1)] h0 (Q_rmC3_1 Z h0 n0 c0) := by
  refine MF.of (pF pn4) (ef19 · va (0 : Int32) (1 : Int32)) dP4 ?_
  intro p e s m below meth c s₁ bd hlk hml hown hnm hrt hZ X0 e0
  have hx := (bd 0).1
  have N0 := Fr.nil n0
  by_cases g0 : (255 : Int32) < c0
  · skip
    refine OD.at 1 (fun t k => ziN X0 (bd 0) rfl k) ?_
    obtain ⟨T51, h51, k51, X51, e51, E51, A51, Q51, st51⟩ := newPE X0 hx hZ (aty := .byte) (Wd19 hw) e0 (g := (mkF m 1 #[vR va, vI 0, vI 1, .unset, .unset, .unset] [(.int 1)])) rfl (bd 1).2 rfl (by decide) (cap := 1) (by decide) (by decide) (nl rfl) (nl rfl) (ad := "[B") (by decide)
    obtain ⟨b51, g51⟩ : ∃ z, z = h0.size := ⟨_, rfl⟩
    rw [← g51] at A51 Q51 st51
    have V51 : Arv Z h51 b51 k51 .byte (1 : Int32) (own_rg (1 : Int32).toNatClampNeg (fun x => .int (own_z x))) (.int 0) := own_fill (Arv.new A51 (by decide))
    refine OD.go (B := (T51.setTop (mkF m 3 #[vR va, vI 0, vI 1, .unset, .unset, .unset] [(.ref b51)]))) st51 ?_
    refine OD.at 9 (fun t k => zaT X51 (bd 2) rfl #[vR va, vI 0, vI 1, vR b51, .unset, .unset] rfl (zaN X51 (bd 3) rfl rfl (ziN X51 (bd 4) rfl (zaN X51 (bd 5) rfl rfl (zcI X51 (bd 6) 0 rfl (ziN X51 (bd 7) rfl k)))))) ?_
    have f52 := (Ac.ext E51)
    refine OD.cS X51 (bd 8) hZ hown hml Wd20 Wd21 Wd17 Wd22 pd23 (rmC5_10 hw va b51 h51 n0 kc k51 c0 own_z f52 V51 (nN Ac.lt (nE g51)) (nT Z0 (nE g51)) g0) e51 rfl (fun v53 T53 L53 X53 hQ53 => ?_)
    obtain ⟨rfl, Nq53, K53, A53⟩ := hQ53
    have N53 := Fr.app N0 Nq53
    refine OD.at 23 (fun t k => zsI X53 (bd 9) #[vR va, vI 0, vI 1, vR b51, vI 0, .unset] rfl (ziL X53 (bd 10) rfl (ziN X53 (bd 11) rfl (zkN X53 (bd 12) (feq (by decide : ¬ (0 : Int32) = (1 : Int32))).1 (zaN X53 (bd 13) rfl rfl (ziN X53 (bd 14) rfl (ziN X53 (bd 15) rfl k))))))) ?_
    have f54 := (f52.keep K53 (ninS (nN Ac.lt (nE g51)) nin0))
    refine OD.cS X53 (bd 16) hZ hown hml Wd297 Wd298 Wd17 Wd299 pd24 (rmTB1 hw va T53.heap n0 ((X00.ext E51).keep K53 (allS (nT Z0 (nE g51)) all0)) SS (nT (nT Z0 E51.1) K53.1) kc c0 f54) rfl rfl (fun v55 T55 L55 X55 hQ55 => ?_)
    obtain ⟨b55, k55', rfl, Nq55, K55, ob55, Q55, A55⟩ := hQ55
    have N55 := Fr.app N53 Nq55
    have gbb55 : n0 ≤ b55 := nT (nT (nT Z0 E51.1) K53.1) ob55
    refine OD.at 32 (fun t k => zaS X55 (bd 17) rfl #[vR va, vI 0, vI 1, vR b51, vI 0, vR b55] rfl (zaL X55 (bd 18) rfl rfl (ziL X55 (bd 19) rfl k))) ?_
    refine OD.cS X55 (bd 20) hZ hown hml Wd307 Wd308 Wd17 Wd309 pd13 (rmGC hw b55 (0 : Int32) T55.heap n0 (((X00.ext E51).keep K53 (allS (nT Z0 (nE g51)) all0)).keep K55 all0) SS k55' (2 : Int32) (own_pc own_z (0 : Int32) c0) A55 ⟨by decide, by decide⟩ ⟨by decide, by decide⟩) rfl rfl (fun v56 T56 L56 X56 hQ56 => ?_)
    obtain ⟨rfl, rfl, e56⟩ := hQ56
    try rw [List.append_nil] at X56
    rw [show (own_gc (own_pc own_z (0 : Int32) c0) (0 : Int32)) = c0 from (own_gcR (own_U1 u0 w0) (i := (0 : Int32)) (by decide) (by simp only [List.length_cons, List.length_nil]; decide))]
    refine OD.at 56 (fun t k => zcS X56 (bd 21) 255 rfl (zkY X56 (bd 22) 54 (tlt g0).2.2.1 (zaL X56 (bd 23) rfl rfl k))) ?_
    exact OD.rA X56 (bd 24) hlk hrt rfl rfl rfl ⟨_, _, _, _, rfl, N55, by rw [e56]; exact ((((Keep.refl h0 []).ext E51).trans K53 (allS (Or.inr (nT Nat.le.refl (nE g51))) all0)).trans K55 all0), (nT (nT (nT Nat.le.refl E51.1) K53.1) ob55), by rw [e56]; exact Q55, by rw [e56]; exact A55, Or.inr ⟨rfl, own_U1 u0 w0⟩⟩
  · have s0 := g0
    refine OD.at 1 (fun t k => ziN X0 (bd 0) rfl k) ?_
    obtain ⟨T57, h57, k57, X57, e57, E57, A57, Q57, st57⟩ := newPE X0 hx hZ (aty := .byte) (Wd19 hw) e0 (g := (mkF m 1 #[vR va, vI 0, vI 1, .unset, .unset, .unset] [(.int 1)])) rfl (bd 1).2 rfl (by decide) (cap := 1) (by decide) (by decide) (nl rfl) (nl rfl) (ad := "[B") (by decide)
    obtain ⟨b57, g57⟩ : ∃ z, z = h0.size := ⟨_, rfl⟩
    rw [← g57] at A57 Q57 st57
    have V57 : Arv Z h57 b57 k57 .byte (1 : Int32) (own_rg (1 : Int32).toNatClampNeg (fun x => .int (own_z x))) (.int 0) := own_fill (Arv.new A57 (by decide))
    refine OD.go (B := (T57.setTop (mkF m 3 #[vR va, vI 0, vI 1, .unset, .unset, .unset] [(.ref b57)]))) st57 ?_
    refine OD.at 9 (fun t k => zaT X57 (bd 2) rfl #[vR va, vI 0, vI 1, vR b57, .unset, .unset] rfl (zaN X57 (bd 3) rfl rfl (ziN X57 (bd 4) rfl (zaN X57 (bd 5) rfl rfl (zcI X57 (bd 6) 0 rfl (ziN X57 (bd 7) rfl k)))))) ?_
    have f58 := (Ac.ext E57)
    refine OD.cS X57 (bd 8) hZ hown hml Wd20 Wd21 Wd17 Wd22 pd23 (rmC5_11 hw va b57 h57 n0 kc k57 c0 own_z f58 V57 (nN Ac.lt (nE g57)) (nT Z0 (nE g57)) s0) e57 rfl (fun v59 T59 L59 X59 hQ59 => ?_)
    obtain ⟨rfl, Nq59, K59, A59⟩ := hQ59
    have N59 := Fr.app N0 Nq59
    refine OD.at 58 (fun t k => zsI X59 (bd 9) #[vR va, vI 0, vI 1, vR b57, vI 1, .unset] rfl (ziL X59 (bd 10) rfl (ziN X59 (bd 11) rfl (zkY X59 (bd 12) 57 (teq (by decide : (1 : Int32) = (1 : Int32))).1 (zaN X59 (bd 25) rfl rfl k))))) ?_
    exact OD.rA X59 (bd 26) hlk hrt rfl rfl rfl ⟨_, _, _, _, rfl, N59, by exact (((Keep.refl h0 []).ext E57).trans K59 (allS (Or.inr (nT Nat.le.refl (nE g57))) all0)), (nT Nat.le.refl (nE g57)), by exact (Q57.keep K59), by exact A59, Or.inl ⟨rfl, own_L1 u0 s0⟩⟩
def Q_rmS4_1 (Z : State) (a1 : Addr) (h0 : Heap) (n0 : Nat) (c0 : Int32) : QT := fun v h L => v = none ∧ Fr n0 L ∧ Keep h0 h [a1] ∧ ∃ t : Addr, h0.size ≤ t ∧ Strg Z h a1 t ([c0] : List Int32)
theorem rmS4_1 (a1 : Addr) (va : Addr) (h0 : Heap) (n0 : Nat) (X00 : Old Z n0 h0) (SS : STs Z zc fm u8 hxa kh) (Z0 : n0 ≤ h0.size) (E1 : Exa Z h0 a1 zZ0) (F1 : Fld Z h0 a1 zZ0 "value" "[B" .null) (F2 : Fld Z h0 a1 zZ0 "coder" "B" (.int 0)) (g1 : n0 ≤ a1) (kc : ClassId) (c0 : Int32) (Ac : Arv Z h0 va kc .char (1 : Int32) [(.int c0)] (.int 0)) (u0 : 0 ≤ c0.toInt) (w0 : c0.toInt ≤ 65535) :
    MF l hw ⟨zZ0, "<init>", zZ25⟩ kQ49 6 none (rO 4 2 82 73) #[(.ref a1), (.ref va), (.int 0), (.int 1), .null] h0 (Q_rmS4_1 Z a1 h0 n0 c0) := by
  refine MF.of (pF pn3) (ef20 · a1 va (0 : Int32) (1 : Int32)) dP2 ?_
  intro p e s m below meth c s₁ bd hlk hml hown hnm hrt hZ X0 e0
  have hx := (bd 0).1
  have N0 := Fr.nil n0
  refine OD.at 1 (fun t k => zaN X0 (bd 0) rfl rfl k) ?_
  obtain ⟨T51, X51, e51, st51⟩ := initO X0 hx hZ hown (Wd11 hw) (Wd12 hw) (Wd13 hw) e0 (g := (mkF m 1 #[vR a1, vR va, vI 0, vI 1, .val .null, .unset] [(.ref a1)])) rfl (by rw [hml]; rfl) rfl (bd 1).2 (by decide) (W := 0) (by show 2 * 0 + _ ≤ _; exact Nat.le_of_eq rfl) (by decide)
  refine OD.go (B := (T51.setTop (mkF m 4 #[vR a1, vR va, vI 0, vI 1, .val .null, .unset] []))) st51 ?_
  refine OD.at 27 (fun t k => ziN X51 (bd 2) rfl (zjY X51 (bd 3) 27 (feq (by decide : ¬ (1 : Int32) = (0 : Int32))).2 k)) ?_
  have f52 := (SS.1.ext X00.2)
  refine OD.gS X51 (bd 4) hZ hown hw Wd14 Via.refl e51 f52 (fun T53 X53 e53 => ?_)
  refine OD.at 36 (fun t k => zjN X53 (bd 5) (feq SS.2.1).1 (zaN X53 (bd 6) rfl rfl (ziN X53 (bd 7) rfl (ziN X53 (bd 8) rfl k)))) ?_
  refine OD.cS X53 (bd 9) hZ hown hml Wd15 Wd16 Wd17 Wd18 pd24 (rmC3_1 hw va h0 n0 X00 SS Z0 kc c0 Ac u0 w0) e53 rfl (fun v54 T54 L54 X54 hQ54 => ?_)
  obtain ⟨b54, k54', z54, F54, rfl, Nq54, K54, ob54, Q54, A54, R54⟩ := hQ54
  have N54 := Fr.app N0 Nq54
  have gbb54 : n0 ≤ b54 := nT Z0 ob54
  refine OD.at 41 (fun t k => zaS X54 (bd 10) rfl #[vR a1, vR va, vI 0, vI 1, .val .null, vR b54] rfl k) ?_
  rcases R54 with ⟨rfl, hR⟩ | ⟨rfl, hR⟩
  · skip
    refine OD.at 45 (fun t k => zaN X54 (bd 11) rfl rfl (zaL X54 (bd 12) rfl rfl (ziN X54 (bd 13) rfl k))) ?_
    refine OD.cS X54 (bd 14) hZ hown hml Wd23 Wd24 Wd17 Wd25 pd25 (rmCF hw b54 (1 : Int32) T54.heap k54' (1 : Int32) F54 A54 (0 : Int32) (by decide)) rfl rfl (fun v55 T55 L55 X55 hQ55 => ?_)
    obtain ⟨rfl, rfl, e55⟩ := hQ55
    try rw [List.append_nil] at X55
    have f56 := (F2.keep K54 nin0)
    have f57 := (E1.keep K54)
    obtain ⟨T58, h58, X58, e58, W58, st58⟩ := putFN X55 hx hZ hown (Wd26 hw) Via.refl e55 f56 f57 (Or.inr ⟨(Wd27 hw), rfl, hnm⟩) (Wd2 hw) (ty := .byte) (v' := (.int 0)) (by decide) rfl (by decide) (g := (mkF m 48 #[vR a1, vR va, vI 0, vI 1, .val .null, vR b54] [(.int 0), (.ref a1)])) rfl rfl (bd 15).2
    have Fx58 := f56.same W58
    have N58 := Fr.snoc X58 N54 g1
    refine OD.go (B := (T58.setTop (mkF m 51 #[vR a1, vR va, vI 0, vI 1, .val .null, vR b54] []))) st58 ?_
    refine OD.at 54 (fun t k => zaN X58 (bd 16) rfl rfl (zaL X58 (bd 17) rfl rfl k)) ?_
    have f59 := ((F1.keep K54 nin0).other W58 (Or.inr (slot_ne (Or.inr (Wd29 hw)) (Or.inr (Wd27 hw)) (by decide) (t := (.array .byte)) (t' := .byte) (by decide) (by decide))))
    have f60 := (f57.wr W58)
    obtain ⟨T61, h61, X61, e61, W61, st61⟩ := putF X58 hx hZ hown (host := "") (Or.inl (Wd28 hw)) Via.refl e58 f59 f60 (Or.inr ⟨(Wd29 hw), rfl, hnm⟩) (Wd2 hw) (ty := (.array .byte)) (by decide) rfl rfl (g := (mkF m 54 #[vR a1, vR va, vI 0, vI 1, .val .null, vR b54] [(.ref b54), (.ref a1)])) rfl rfl (bd 18).2
    have Fx61 := f59.same W61
    have N61 := Fr.snoc X61 N58 g1
    refine OD.go (B := (T61.setTop (mkF m 57 #[vR a1, vR va, vI 0, vI 1, .val .null, vR b54] []))) st61 ?_
    exact OD.rV X61 (bd 19) hlk hrt ⟨rfl, N61, by rw [e61]; exact ((((Keep.refl h0 [a1]).trans K54 all0).wr W58 (Or.inl (mG 0 rfl))).wr W61 (Or.inl (mG 0 rfl))), _, (nT Nat.le.refl ob54), by rw [e61]; exact (f60.wr W61), fun _ => by rw [e61]; exact ((Q54.wr W58).wr W61), by rw [e61]; exact Fx61, _, _, _, by rw [e61]; exact ((A54.other W58 (Ne.symm (nN E1.lt ob54))).other W61 (Ne.symm (nN E1.lt ob54))), Or.inl ⟨by rw [e61]; exact (Fx58.other W61 (Or.inr (slot_ne (Or.inr (Wd27 hw)) (Or.inr (Wd29 hw)) (by decide) (t := .byte) (t' := (.array .byte)) (by decide) (by decide)))), rfl, hR⟩⟩
  · skip
    refine OD.at 45 (fun t k => zaN X54 (bd 11) rfl rfl (zaL X54 (bd 12) rfl rfl (ziN X54 (bd 13) rfl k))) ?_
    refine OD.cS X54 (bd 14) hZ hown hml Wd23 Wd24 Wd17 Wd25 pd25 (rmCF hw b54 (1 : Int32) T54.heap k54' (2 : Int32) F54 A54 (1 : Int32) (by decide)) rfl rfl (fun v62 T62 L62 X62 hQ62 => ?_)
    obtain ⟨rfl, rfl, e62⟩ := hQ62
    try rw [List.append_nil] at X62
    have f63 := (F2.keep K54 nin0)
    have f64 := (E1.keep K54)
    obtain ⟨T65, h65, X65, e65, W65, st65⟩ := putFN X62 hx hZ hown (Wd26 hw) Via.refl e62 f63 f64 (Or.inr ⟨(Wd27 hw), rfl, hnm⟩) (Wd2 hw) (ty := .byte) (v' := (.int 1)) (by decide) rfl (by decide) (g := (mkF m 48 #[vR a1, vR va, vI 0, vI 1, .val .null, vR b54] [(.int 1), (.ref a1)])) rfl rfl (bd 15).2
    have Fx65 := f63.same W65
    have N65 := Fr.snoc X65 N54 g1
    refine OD.go (B := (T65.setTop (mkF m 51 #[vR a1, vR va, vI 0, vI 1, .val .null, vR b54] []))) st65 ?_
    refine OD.at 54 (fun t k => zaN X65 (bd 16) rfl rfl (zaL X65 (bd 17) rfl rfl k)) ?_
    have f66 := ((F1.keep K54 nin0).other W65 (Or.inr (slot_ne (Or.inr (Wd29 hw)) (Or.inr (Wd27 hw)) (by decide) (t := (.array .byte)) (t' := .byte) (by decide) (by decide))))
    have f67 := (f64.wr W65)
    obtain ⟨T68, h68, X68, e68, W68, st68⟩ := putF X65 hx hZ hown (host := "") (Or.inl (Wd28 hw)) Via.refl e65 f66 f67 (Or.inr ⟨(Wd29 hw), rfl, hnm⟩) (Wd2 hw) (ty := (.array .byte)) (by decide) rfl rfl (g := (mkF m 54 #[vR a1, vR va, vI 0, vI 1, .val .null, vR b54] [(.ref b54), (.ref a1)])) rfl rfl (bd 18).2
    have Fx68 := f66.same W68
    have N68 := Fr.snoc X68 N65 g1
    refine OD.go (B := (T68.setTop (mkF m 57 #[vR a1, vR va, vI 0, vI 1, .val .null, vR b54] []))) st68 ?_
    exact OD.rV X68 (bd 19) hlk hrt ⟨rfl, N68, by rw [e68]; exact ((((Keep.refl h0 [a1]).trans K54 all0).wr W65 (Or.inl (mG 0 rfl))).wr W68 (Or.inl (mG 0 rfl))), _, (nT Nat.le.refl ob54), by rw [e68]; exact (f67.wr W68), fun _ => by rw [e68]; exact ((Q54.wr W65).wr W68), by rw [e68]; exact Fx68, _, _, _, by rw [e68]; exact ((A54.other W65 (Ne.symm (nN E1.lt ob54))).other W68 (Ne.symm (nN E1.lt ob54))), Or.inr ⟨by rw [e68]; exact (Fx65.other W68 (Or.inr (slot_ne (Or.inr (Wd27 hw)) (Or.inr (Wd29 hw)) (by decide) (t := .byte) (t' := (.array .byte)) (by decide) (by decide)))), rfl, hR⟩⟩
def Q_rmS1_1 (Z : State) (a1 : Addr) (h0 : Heap) (n0 : Nat) (c0 : Int32) : QT := fun v h L => v = none ∧ Fr n0 L ∧ Keep h0 h [a1] ∧ ∃ t : Addr, h0.size ≤ t ∧ Strg Z h a1 t ([c0] : List Int32)
theorem rmS1_1 (a1 : Addr) (va : Addr) (h0 : Heap) (n0 : Nat) (X00 : Old Z n0 h0) (SS : STs Z zc fm u8 hxa kh) (Z0 : n0 ≤ h0.size) (E1 : Exa Z h0 a1 zZ0) (F1 : Fld Z h0 a1 zZ0 "value" "[B" .null) (F2 : Fld Z h0 a1 zZ0 "coder" "B" (.int 0)) (g1 : n0 ≤ a1) (kc : ClassId) (c0 : Int32) (Ac : Arv Z h0 va kc .char (1 : Int32) [(.int c0)] (.int 0)) (u0 : 0 ≤ c0.toInt) (w0 : c0.toInt ≤ 65535) :
    MF l hw ⟨zZ0, "<init>", "([C)V"⟩ kQ50 2 none (rO 5 2 82 94) #[(.ref a1), (.ref va)] h0 (Q_rmS1_1 Z a1 h0 n0 c0) := by
  refine MF.of (pF pn3) (ef21 · a1 va) dP1 ?_
  intro p e s m below meth c s₁ bd hlk hml hown hnm hrt hZ X0 e0
  have hx := (bd 0).1
  have N0 := Fr.nil n0
  refine OD.at 6 (fun t k => zaN X0 (bd 0) rfl rfl (zaN X0 (bd 1) rfl rfl (zcI X0 (bd 2) 0 rfl (zaN X0 (bd 3) rfl rfl (zal X0 (bd 4) hZ e0 Ac (XS.aconstNull X0.here hx rfl (bd 5).2 k)))))) ?_
  refine OD.cI X0 (bd 6) hZ hown hml Wd7 Wd8 Wd3 Wd10 pd26 (rmS4_1 hw a1 va h0 n0 X00 SS Z0 E1 F1 F2 g1 kc c0 Ac u0 w0) e0 rfl (fun v51 T51 L51 X51 hQ51 => ?_)
  obtain ⟨rfl, Nq51, K51, t51, ob51, S51⟩ := hQ51
  have N51 := Fr.app N0 Nq51
  have gbt51 : n0 ≤ t51 := nT Z0 ob51
  exact OD.rV X51 (bd 7) hlk hrt ⟨rfl, N51, by exact ((Keep.refl h0 [a1]).trans K51 (allS (Or.inl (mG 0 rfl)) all0)), _, (nT Nat.le.refl ob51), by exact S51⟩
def Q_rmC3_2 (Z : State) (h0 : Heap) (n0 : Nat) (c0 : Int32) (c1 : Int32) : QT := fun v h L => ∃ (b : Addr) (k : ClassId) (z : Int32) (F : Int32 → Int32), v = some (.ref b) ∧ Fr n0 L ∧ Keep h0 h [] ∧ h0.size ≤ b ∧ Exa Z h b "[B" ∧ Arv Z h b k .byte z (own_rg z.toNatClampNeg (fun x => .int (F x))) (.int 0) ∧ (z = (2 : Int32) ∧ RpL F ([c0, c1] : List Int32) ∨ z = (4 : Int32) ∧ RpU F ([c0, c1] : List Int32))
theorem rmC3_2 (va : Addr) (h0 : Heap) (n0 : Nat) (X00 : Old Z n0 h0) (SS : STs Z zc fm u8 hxa kh) (Z0 : n0 ≤ h0.size) (kc : ClassId) (c0 c1 : Int32) (Ac : Arv Z h0 va kc .char (2 : Int32) [(.int c0), (.int c1)] (.int 0)) (u0 : 0 ≤ c0.toInt) (w0 : c0.toInt ≤ 65535) (u1 : 0 ≤ c1.toInt) (w1 : c1.toInt ≤ 65535) :
    MF l hw ⟨zZ1, "compress", "([CII)[B"⟩ kQ48 6 (some (.array .byte)) (rO 3 2 82 52) #[(.ref va), (.int 0), (.int 2)] h0 (Q_rmC3_2 Z h0 n0 c0 c1) := by
  refine MF.of (pF pn4) (ef19 · va (0 : Int32) (2 : Int32)) dP4 ?_
  intro p e s m below meth c s₁ bd hlk hml hown hnm hrt hZ X0 e0
  have hx := (bd 0).1
  have N0 := Fr.nil n0
  by_cases g0 : (255 : Int32) < c0
  · skip
    refine OD.at 1 (fun t k => ziN X0 (bd 0) rfl k) ?_
    obtain ⟨T51, h51, k51, X51, e51, E51, A51, Q51, st51⟩ := newPE X0 hx hZ (aty := .byte) (Wd19 hw) e0 (g := (mkF m 1 #[vR va, vI 0, vI 2, .unset, .unset, .unset] [(.int 2)])) rfl (bd 1).2 rfl (by decide) (cap := 2) (by decide) (by decide) (nl rfl) (nl rfl) (ad := "[B") (by decide)
    obtain ⟨b51, g51⟩ : ∃ z, z = h0.size := ⟨_, rfl⟩
    rw [← g51] at A51 Q51 st51
    have V51 : Arv Z h51 b51 k51 .byte (2 : Int32) (own_rg (2 : Int32).toNatClampNeg (fun x => .int (own_z x))) (.int 0) := own_fill (Arv.new A51 (by decide))
    refine OD.go (B := (T51.setTop (mkF m 3 #[vR va, vI 0, vI 2, .unset, .unset, .unset] [(.ref b51)]))) st51 ?_
    refine OD.at 9 (fun t k => zaT X51 (bd 2) rfl #[vR va, vI 0, vI 2, vR b51, .unset, .unset] rfl (zaN X51 (bd 3) rfl rfl (ziN X51 (bd 4) rfl (zaN X51 (bd 5) rfl rfl (zcI X51 (bd 6) 0 rfl (ziN X51 (bd 7) rfl k)))))) ?_
    have f52 := (Ac.ext E51)
    refine OD.cS X51 (bd 8) hZ hown hml Wd20 Wd21 Wd17 Wd22 pd23 (rmC5_20 hw va b51 h51 n0 kc k51 c0 c1 own_z f52 V51 (nN Ac.lt (nE g51)) (nT Z0 (nE g51)) g0) e51 rfl (fun v53 T53 L53 X53 hQ53 => ?_)
    obtain ⟨rfl, Nq53, K53, A53⟩ := hQ53
    have N53 := Fr.app N0 Nq53
    refine OD.at 23 (fun t k => zsI X53 (bd 9) #[vR va, vI 0, vI 2, vR b51, vI 0, .unset] rfl (ziL X53 (bd 10) rfl (ziN X53 (bd 11) rfl (zkN X53 (bd 12) (feq (by decide : ¬ (0 : Int32) = (2 : Int32))).1 (zaN X53 (bd 13) rfl rfl (ziN X53 (bd 14) rfl (ziN X53 (bd 15) rfl k))))))) ?_
    have f54 := (f52.keep K53 (ninS (nN Ac.lt (nE g51)) nin0))
    refine OD.cS X53 (bd 16) hZ hown hml Wd297 Wd298 Wd17 Wd299 pd24 (rmTB2 hw va T53.heap n0 ((X00.ext E51).keep K53 (allS (nT Z0 (nE g51)) all0)) SS (nT (nT Z0 E51.1) K53.1) kc c0 c1 f54) rfl rfl (fun v55 T55 L55 X55 hQ55 => ?_)
    obtain ⟨b55, k55', rfl, Nq55, K55, ob55, Q55, A55⟩ := hQ55
    have N55 := Fr.app N53 Nq55
    have gbb55 : n0 ≤ b55 := nT (nT (nT Z0 E51.1) K53.1) ob55
    refine OD.at 32 (fun t k => zaS X55 (bd 17) rfl #[vR va, vI 0, vI 2, vR b51, vI 0, vR b55] rfl (zaL X55 (bd 18) rfl rfl (ziL X55 (bd 19) rfl k))) ?_
    refine OD.cS X55 (bd 20) hZ hown hml Wd307 Wd308 Wd17 Wd309 pd13 (rmGC hw b55 (0 : Int32) T55.heap n0 (((X00.ext E51).keep K53 (allS (nT Z0 (nE g51)) all0)).keep K55 all0) SS k55' (4 : Int32) (own_pc (own_pc own_z (0 : Int32) c0) (1 : Int32) c1) A55 ⟨by decide, by decide⟩ ⟨by decide, by decide⟩) rfl rfl (fun v56 T56 L56 X56 hQ56 => ?_)
    obtain ⟨rfl, rfl, e56⟩ := hQ56
    try rw [List.append_nil] at X56
    rw [show (own_gc (own_pc (own_pc own_z (0 : Int32) c0) (1 : Int32) c1) (0 : Int32)) = c0 from (own_gcR (own_U2 u0 w0 u1 w1) (i := (0 : Int32)) (by decide) (by simp only [List.length_cons, List.length_nil]; decide))]
    refine OD.at 56 (fun t k => zcS X56 (bd 21) 255 rfl (zkY X56 (bd 22) 54 (tlt g0).2.2.1 (zaL X56 (bd 23) rfl rfl k))) ?_
    exact OD.rA X56 (bd 24) hlk hrt rfl rfl rfl ⟨_, _, _, _, rfl, N55, by rw [e56]; exact ((((Keep.refl h0 []).ext E51).trans K53 (allS (Or.inr (nT Nat.le.refl (nE g51))) all0)).trans K55 all0), (nT (nT (nT Nat.le.refl E51.1) K53.1) ob55), by rw [e56]; exact Q55, by rw [e56]; exact A55, Or.inr ⟨rfl, own_U2 u0 w0 u1 w1⟩⟩
  · have s0 := g0
    by_cases g1 : (255 : Int32) < c1
    · skip
      refine OD.at 1 (fun t k => ziN X0 (bd 0) rfl k) ?_
      obtain ⟨T57, h57, k57, X57, e57, E57, A57, Q57, st57⟩ := newPE X0 hx hZ (aty := .byte) (Wd19 hw) e0 (g := (mkF m 1 #[vR va, vI 0, vI 2, .unset, .unset, .unset] [(.int 2)])) rfl (bd 1).2 rfl (by decide) (cap := 2) (by decide) (by decide) (nl rfl) (nl rfl) (ad := "[B") (by decide)
      obtain ⟨b57, g57⟩ : ∃ z, z = h0.size := ⟨_, rfl⟩
      rw [← g57] at A57 Q57 st57
      have V57 : Arv Z h57 b57 k57 .byte (2 : Int32) (own_rg (2 : Int32).toNatClampNeg (fun x => .int (own_z x))) (.int 0) := own_fill (Arv.new A57 (by decide))
      refine OD.go (B := (T57.setTop (mkF m 3 #[vR va, vI 0, vI 2, .unset, .unset, .unset] [(.ref b57)]))) st57 ?_
      refine OD.at 9 (fun t k => zaT X57 (bd 2) rfl #[vR va, vI 0, vI 2, vR b57, .unset, .unset] rfl (zaN X57 (bd 3) rfl rfl (ziN X57 (bd 4) rfl (zaN X57 (bd 5) rfl rfl (zcI X57 (bd 6) 0 rfl (ziN X57 (bd 7) rfl k)))))) ?_
      have f58 := (Ac.ext E57)
      refine OD.cS X57 (bd 8) hZ hown hml Wd20 Wd21 Wd17 Wd22 pd23 (rmC5_21 hw va b57 h57 n0 kc k57 c0 c1 own_z f58 V57 (nN Ac.lt (nE g57)) (nT Z0 (nE g57)) s0 g1) e57 rfl (fun v59 T59 L59 X59 hQ59 => ?_)
      obtain ⟨rfl, Nq59, K59, A59⟩ := hQ59
      have N59 := Fr.app N0 Nq59
      refine OD.at 23 (fun t k => zsI X59 (bd 9) #[vR va, vI 0, vI 2, vR b57, vI 1, .unset] rfl (ziL X59 (bd 10) rfl (ziN X59 (bd 11) rfl (zkN X59 (bd 12) (feq (by decide : ¬ (1 : Int32) = (2 : Int32))).1 (zaN X59 (bd 13) rfl rfl (ziN X59 (bd 14) rfl (ziN X59 (bd 15) rfl k))))))) ?_
      have f60 := (f58.keep K59 (ninS (nN Ac.lt (nE g57)) nin0))
      refine OD.cS X59 (bd 16) hZ hown hml Wd297 Wd298 Wd17 Wd299 pd24 (rmTB2 hw va T59.heap n0 ((X00.ext E57).keep K59 (allS (nT Z0 (nE g57)) all0)) SS (nT (nT Z0 E57.1) K59.1) kc c0 c1 f60) rfl rfl (fun v61 T61 L61 X61 hQ61 => ?_)
      obtain ⟨b61, k61', rfl, Nq61, K61, ob61, Q61, A61⟩ := hQ61
      have N61 := Fr.app N59 Nq61
      have gbb61 : n0 ≤ b61 := nT (nT (nT Z0 E57.1) K59.1) ob61
      refine OD.at 32 (fun t k => zaS X61 (bd 17) rfl #[vR va, vI 0, vI 2, vR b57, vI 1, vR b61] rfl (zaL X61 (bd 18) rfl rfl (ziL X61 (bd 19) rfl k))) ?_
      refine OD.cS X61 (bd 20) hZ hown hml Wd307 Wd308 Wd17 Wd309 pd13 (rmGC hw b61 (1 : Int32) T61.heap n0 (((X00.ext E57).keep K59 (allS (nT Z0 (nE g57)) all0)).keep K61 all0) SS k61' (4 : Int32) (own_pc (own_pc own_z (0 : Int32) c0) (1 : Int32) c1) A61 ⟨by decide, by decide⟩ ⟨by decide, by decide⟩) rfl rfl (fun v62 T62 L62 X62 hQ62 => ?_)
      obtain ⟨rfl, rfl, e62⟩ := hQ62
      try rw [List.append_nil] at X62
      rw [show (own_gc (own_pc (own_pc own_z (0 : Int32) c0) (1 : Int32) c1) (1 : Int32)) = c1 from (own_gcR (own_U2 u0 w0 u1 w1) (i := (1 : Int32)) (by decide) (by simp only [List.length_cons, List.length_nil]; decide))]
      refine OD.at 56 (fun t k => zcS X62 (bd 21) 255 rfl (zkY X62 (bd 22) 54 (tlt g1).2.2.1 (zaL X62 (bd 23) rfl rfl k))) ?_
      exact OD.rA X62 (bd 24) hlk hrt rfl rfl rfl ⟨_, _, _, _, rfl, N61, by rw [e62]; exact ((((Keep.refl h0 []).ext E57).trans K59 (allS (Or.inr (nT Nat.le.refl (nE g57))) all0)).trans K61 all0), (nT (nT (nT Nat.le.refl E57.1) K59.1) ob61), by rw [e62]; exact Q61, by rw [e62]; exact A61, Or.inr ⟨rfl, own_U2 u0 w0 u1 w1⟩⟩
    · have s1 := g1
      refine OD.at 1 (fun t k => ziN X0 (bd 0) rfl k) ?_
      obtain ⟨T63, h63, k63, X63, e63, E63, A63, Q63, st63⟩ := newPE X0 hx hZ (aty := .byte) (Wd19 hw) e0 (g := (mkF m 1 #[vR va, vI 0, vI 2, .unset, .unset, .unset] [(.int 2)])) rfl (bd 1).2 rfl (by decide) (cap := 2) (by decide) (by decide) (nl rfl) (nl rfl) (ad := "[B") (by decide)
      obtain ⟨b63, g63⟩ : ∃ z, z = h0.size := ⟨_, rfl⟩
      rw [← g63] at A63 Q63 st63
      have V63 : Arv Z h63 b63 k63 .byte (2 : Int32) (own_rg (2 : Int32).toNatClampNeg (fun x => .int (own_z x))) (.int 0) := own_fill (Arv.new A63 (by decide))
      refine OD.go (B := (T63.setTop (mkF m 3 #[vR va, vI 0, vI 2, .unset, .unset, .unset] [(.ref b63)]))) st63 ?_
      refine OD.at 9 (fun t k => zaT X63 (bd 2) rfl #[vR va, vI 0, vI 2, vR b63, .unset, .unset] rfl (zaN X63 (bd 3) rfl rfl (ziN X63 (bd 4) rfl (zaN X63 (bd 5) rfl rfl (zcI X63 (bd 6) 0 rfl (ziN X63 (bd 7) rfl k)))))) ?_
      have f64 := (Ac.ext E63)
      refine OD.cS X63 (bd 8) hZ hown hml Wd20 Wd21 Wd17 Wd22 pd23 (rmC5_22 hw va b63 h63 n0 kc k63 c0 c1 own_z f64 V63 (nN Ac.lt (nE g63)) (nT Z0 (nE g63)) s0 s1) e63 rfl (fun v65 T65 L65 X65 hQ65 => ?_)
      obtain ⟨rfl, Nq65, K65, A65⟩ := hQ65
      have N65 := Fr.app N0 Nq65
      refine OD.at 58 (fun t k => zsI X65 (bd 9) #[vR va, vI 0, vI 2, vR b63, vI 2, .unset] rfl (ziL X65 (bd 10) rfl (ziN X65 (bd 11) rfl (zkY X65 (bd 12) 57 (teq (by decide : (2 : Int32) = (2 : Int32))).1 (zaN X65 (bd 25) rfl rfl k))))) ?_
      exact OD.rA X65 (bd 26) hlk hrt rfl rfl rfl ⟨_, _, _, _, rfl, N65, by exact (((Keep.refl h0 []).ext E63).trans K65 (allS (Or.inr (nT Nat.le.refl (nE g63))) all0)), (nT Nat.le.refl (nE g63)), by exact (Q63.keep K65), by exact A65, Or.inl ⟨rfl, own_L2 u0 s0 u1 s1⟩⟩
def Q_rmS4_2 (Z : State) (a1 : Addr) (h0 : Heap) (n0 : Nat) (c0 : Int32) (c1 : Int32) : QT := fun v h L => v = none ∧ Fr n0 L ∧ Keep h0 h [a1] ∧ ∃ t : Addr, h0.size ≤ t ∧ Strg Z h a1 t ([c0, c1] : List Int32)
theorem rmS4_2 (a1 : Addr) (va : Addr) (h0 : Heap) (n0 : Nat) (X00 : Old Z n0 h0) (SS : STs Z zc fm u8 hxa kh) (Z0 : n0 ≤ h0.size) (E1 : Exa Z h0 a1 zZ0) (F1 : Fld Z h0 a1 zZ0 "value" "[B" .null) (F2 : Fld Z h0 a1 zZ0 "coder" "B" (.int 0)) (g1 : n0 ≤ a1) (kc : ClassId) (c0 c1 : Int32) (Ac : Arv Z h0 va kc .char (2 : Int32) [(.int c0), (.int c1)] (.int 0)) (u0 : 0 ≤ c0.toInt) (w0 : c0.toInt ≤ 65535) (u1 : 0 ≤ c1.toInt) (w1 : c1.toInt ≤ 65535) :
    MF l hw ⟨zZ0, "<init>", zZ25⟩ kQ49 6 none (rO 4 2 82 73) #[(.ref a1), (.ref va), (.int 0), (.int 2), .null] h0 (Q_rmS4_2 Z a1 h0 n0 c0 c1) := by
  refine MF.of (pF pn3) (ef20 · a1 va (0 : Int32) (2 : Int32)) dP2 ?_
  intro p e s m below meth c s₁ bd hlk hml hown hnm hrt hZ X0 e0
  have hx := (bd 0).1
  have N0 := Fr.nil n0
  refine OD.at 1 (fun t k => zaN X0 (bd 0) rfl rfl k) ?_
  obtain ⟨T51, X51, e51, st51⟩ := initO X0 hx hZ hown (Wd11 hw) (Wd12 hw) (Wd13 hw) e0 (g := (mkF m 1 #[vR a1, vR va, vI 0, vI 2, .val .null, .unset] [(.ref a1)])) rfl (by rw [hml]; rfl) rfl (bd 1).2 (by decide) (W := 0) (by show 2 * 0 + _ ≤ _; exact Nat.le_of_eq rfl) (by decide)
  refine OD.go (B := (T51.setTop (mkF m 4 #[vR a1, vR va, vI 0, vI 2, .val .null, .unset] []))) st51 ?_
  refine OD.at 27 (fun t k => ziN X51 (bd 2) rfl (zjY X51 (bd 3) 27 (feq (by decide : ¬ (2 : Int32) = (0 : Int32))).2 k)) ?_
  have f52 := (SS.1.ext X00.2)
  refine OD.gS X51 (bd 4) hZ hown hw Wd14 Via.refl e51 f52 (fun T53 X53 e53 => ?_)
  refine OD.at 36 (fun t k => zjN X53 (bd 5) (feq SS.2.1).1 (zaN X53 (bd 6) rfl rfl (ziN X53 (bd 7) rfl (ziN X53 (bd 8) rfl k)))) ?_
  refine OD.cS X53 (bd 9) hZ hown hml Wd15 Wd16 Wd17 Wd18 pd24 (rmC3_2 hw va h0 n0 X00 SS Z0 kc c0 c1 Ac u0 w0 u1 w1) e53 rfl (fun v54 T54 L54 X54 hQ54 => ?_)
  obtain ⟨b54, k54', z54, F54, rfl, Nq54, K54, ob54, Q54, A54, R54⟩ := hQ54
  have N54 := Fr.app N0 Nq54
  have gbb54 : n0 ≤ b54 := nT Z0 ob54
  refine OD.at 41 (fun t k => zaS X54 (bd 10) rfl #[vR a1, vR va, vI 0, vI 2, .val .null, vR b54] rfl k) ?_
  rcases R54 with ⟨rfl, hR⟩ | ⟨rfl, hR⟩
  · skip
    refine OD.at 45 (fun t k => zaN X54 (bd 11) rfl rfl (zaL X54 (bd 12) rfl rfl (ziN X54 (bd 13) rfl k))) ?_
    refine OD.cS X54 (bd 14) hZ hown hml Wd23 Wd24 Wd17 Wd25 pd25 (rmCF hw b54 (2 : Int32) T54.heap k54' (2 : Int32) F54 A54 (0 : Int32) (by decide)) rfl rfl (fun v55 T55 L55 X55 hQ55 => ?_)
    obtain ⟨rfl, rfl, e55⟩ := hQ55
    try rw [List.append_nil] at X55
    have f56 := (F2.keep K54 nin0)
    have f57 := (E1.keep K54)
    obtain ⟨T58, h58, X58, e58, W58, st58⟩ := putFN X55 hx hZ hown (Wd26 hw) Via.refl e55 f56 f57 (Or.inr ⟨(Wd27 hw), rfl, hnm⟩) (Wd2 hw) (ty := .byte) (v' := (.int 0)) (by decide) rfl (by decide) (g := (mkF m 48 #[vR a1, vR va, vI 0, vI 2, .val .null, vR b54] [(.int 0), (.ref a1)])) rfl rfl (bd 15).2
    have Fx58 := f56.same W58
    have N58 := Fr.snoc X58 N54 g1
    refine OD.go (B := (T58.setTop (mkF m 51 #[vR a1, vR va, vI 0, vI 2, .val .null, vR b54] []))) st58 ?_
    refine OD.at 54 (fun t k => zaN X58 (bd 16) rfl rfl (zaL X58 (bd 17) rfl rfl k)) ?_
    have f59 := ((F1.keep K54 nin0).other W58 (Or.inr (slot_ne (Or.inr (Wd29 hw)) (Or.inr (Wd27 hw)) (by decide) (t := (.array .byte)) (t' := .byte) (by decide) (by decide))))
    have f60 := (f57.wr W58)
    obtain ⟨T61, h61, X61, e61, W61, st61⟩ := putF X58 hx hZ hown (host := "") (Or.inl (Wd28 hw)) Via.refl e58 f59 f60 (Or.inr ⟨(Wd29 hw), rfl, hnm⟩) (Wd2 hw) (ty := (.array .byte)) (by decide) rfl rfl (g := (mkF m 54 #[vR a1, vR va, vI 0, vI 2, .val .null, vR b54] [(.ref b54), (.ref a1)])) rfl rfl (bd 18).2
    have Fx61 := f59.same W61
    have N61 := Fr.snoc X61 N58 g1
    refine OD.go (B := (T61.setTop (mkF m 57 #[vR a1, vR va, vI 0, vI 2, .val .null, vR b54] []))) st61 ?_
    exact OD.rV X61 (bd 19) hlk hrt ⟨rfl, N61, by rw [e61]; exact ((((Keep.refl h0 [a1]).trans K54 all0).wr W58 (Or.inl (mG 0 rfl))).wr W61 (Or.inl (mG 0 rfl))), _, (nT Nat.le.refl ob54), by rw [e61]; exact (f60.wr W61), fun _ => by rw [e61]; exact ((Q54.wr W58).wr W61), by rw [e61]; exact Fx61, _, _, _, by rw [e61]; exact ((A54.other W58 (Ne.symm (nN E1.lt ob54))).other W61 (Ne.symm (nN E1.lt ob54))), Or.inl ⟨by rw [e61]; exact (Fx58.other W61 (Or.inr (slot_ne (Or.inr (Wd27 hw)) (Or.inr (Wd29 hw)) (by decide) (t := .byte) (t' := (.array .byte)) (by decide) (by decide)))), rfl, hR⟩⟩
  · skip
    refine OD.at 45 (fun t k => zaN X54 (bd 11) rfl rfl (zaL X54 (bd 12) rfl rfl (ziN X54 (bd 13) rfl k))) ?_
    refine OD.cS X54 (bd 14) hZ hown hml Wd23 Wd24 Wd17 Wd25 pd25 (rmCF hw b54 (2 : Int32) T54.heap k54' (4 : Int32) F54 A54 (1 : Int32) (by decide)) rfl rfl (fun v62 T62 L62 X62 hQ62 => ?_)
    obtain ⟨rfl, rfl, e62⟩ := hQ62
    try rw [List.append_nil] at X62
    have f63 := (F2.keep K54 nin0)
    have f64 := (E1.keep K54)
    obtain ⟨T65, h65, X65, e65, W65, st65⟩ := putFN X62 hx hZ hown (Wd26 hw) Via.refl e62 f63 f64 (Or.inr ⟨(Wd27 hw), rfl, hnm⟩) (Wd2 hw) (ty := .byte) (v' := (.int 1)) (by decide) rfl (by decide) (g := (mkF m 48 #[vR a1, vR va, vI 0, vI 2, .val .null, vR b54] [(.int 1), (.ref a1)])) rfl rfl (bd 15).2
    have Fx65 := f63.same W65
    have N65 := Fr.snoc X65 N54 g1
    refine OD.go (B := (T65.setTop (mkF m 51 #[vR a1, vR va, vI 0, vI 2, .val .null, vR b54] []))) st65 ?_
    refine OD.at 54 (fun t k => zaN X65 (bd 16) rfl rfl (zaL X65 (bd 17) rfl rfl k)) ?_
    have f66 := ((F1.keep K54 nin0).other W65 (Or.inr (slot_ne (Or.inr (Wd29 hw)) (Or.inr (Wd27 hw)) (by decide) (t := (.array .byte)) (t' := .byte) (by decide) (by decide))))
    have f67 := (f64.wr W65)
    obtain ⟨T68, h68, X68, e68, W68, st68⟩ := putF X65 hx hZ hown (host := "") (Or.inl (Wd28 hw)) Via.refl e65 f66 f67 (Or.inr ⟨(Wd29 hw), rfl, hnm⟩) (Wd2 hw) (ty := (.array .byte)) (by decide) rfl rfl (g := (mkF m 54 #[vR a1, vR va, vI 0, vI 2, .val .null, vR b54] [(.ref b54), (.ref a1)])) rfl rfl (bd 18).2
    have Fx68 := f66.same W68
    have N68 := Fr.snoc X68 N65 g1
    refine OD.go (B := (T68.setTop (mkF m 57 #[vR a1, vR va, vI 0, vI 2, .val .null, vR b54] []))) st68 ?_
    exact OD.rV X68 (bd 19) hlk hrt ⟨rfl, N68, by rw [e68]; exact ((((Keep.refl h0 [a1]).trans K54 all0).wr W65 (Or.inl (mG 0 rfl))).wr W68 (Or.inl (mG 0 rfl))), _, (nT Nat.le.refl ob54), by rw [e68]; exact (f67.wr W68), fun _ => by rw [e68]; exact ((Q54.wr W65).wr W68), by rw [e68]; exact Fx68, _, _, _, by rw [e68]; exact ((A54.other W65 (Ne.symm (nN E1.lt ob54))).other W68 (Ne.symm (nN E1.lt ob54))), Or.inr ⟨by rw [e68]; exact (Fx65.other W68 (Or.inr (slot_ne (Or.inr (Wd27 hw)) (Or.inr (Wd29 hw)) (by decide) (t := .byte) (t' := (.array .byte)) (by decide) (by decide)))), rfl, hR⟩⟩
def Q_rmS1_2 (Z : State) (a1 : Addr) (h0 : Heap) (n0 : Nat) (c0 : Int32) (c1 : Int32) : QT := fun v h L => v = none ∧ Fr n0 L ∧ Keep h0 h [a1] ∧ ∃ t : Addr, h0.size ≤ t ∧ Strg Z h a1 t ([c0, c1] : List Int32)
theorem rmS1_2 (a1 : Addr) (va : Addr) (h0 : Heap) (n0 : Nat) (X00 : Old Z n0 h0) (SS : STs Z zc fm u8 hxa kh) (Z0 : n0 ≤ h0.size) (E1 : Exa Z h0 a1 zZ0) (F1 : Fld Z h0 a1 zZ0 "value" "[B" .null) (F2 : Fld Z h0 a1 zZ0 "coder" "B" (.int 0)) (g1 : n0 ≤ a1) (kc : ClassId) (c0 c1 : Int32) (Ac : Arv Z h0 va kc .char (2 : Int32) [(.int c0), (.int c1)] (.int 0)) (u0 : 0 ≤ c0.toInt) (w0 : c0.toInt ≤ 65535) (u1 : 0 ≤ c1.toInt) (w1 : c1.toInt ≤ 65535) :
    MF l hw ⟨zZ0, "<init>", "([C)V"⟩ kQ50 2 none (rO 5 2 82 94) #[(.ref a1), (.ref va)] h0 (Q_rmS1_2 Z a1 h0 n0 c0 c1) := by
  refine MF.of (pF pn3) (ef21 · a1 va) dP1 ?_
  intro p e s m below meth c s₁ bd hlk hml hown hnm hrt hZ X0 e0
  have hx := (bd 0).1
  have N0 := Fr.nil n0
  refine OD.at 6 (fun t k => zaN X0 (bd 0) rfl rfl (zaN X0 (bd 1) rfl rfl (zcI X0 (bd 2) 0 rfl (zaN X0 (bd 3) rfl rfl (zal X0 (bd 4) hZ e0 Ac (XS.aconstNull X0.here hx rfl (bd 5).2 k)))))) ?_
  refine OD.cI X0 (bd 6) hZ hown hml Wd7 Wd8 Wd3 Wd10 pd26 (rmS4_2 hw a1 va h0 n0 X00 SS Z0 E1 F1 F2 g1 kc c0 c1 Ac u0 w0 u1 w1) e0 rfl (fun v51 T51 L51 X51 hQ51 => ?_)
  obtain ⟨rfl, Nq51, K51, t51, ob51, S51⟩ := hQ51
  have N51 := Fr.app N0 Nq51
  have gbt51 : n0 ≤ t51 := nT Z0 ob51
  exact OD.rV X51 (bd 7) hlk hrt ⟨rfl, N51, by exact ((Keep.refl h0 [a1]).trans K51 (allS (Or.inl (mG 0 rfl)) all0)), _, (nT Nat.le.refl ob51), by exact S51⟩
def Q_rmTS (Z : State) (x0 : Int32) (va : Addr) (h0 : Heap) (n0 : Nat) (ka : ClassId) : QT := fun v h L => v = none ∧ Fr n0 L ∧ Keep h0 h [va] ∧ Arv Z h va ka .char (2 : Int32) [(.int (own_highSurrogate x0)), (.int (own_lowSurrogate x0))] (.int 0)
theorem rmTS (x0 : Int32) (va : Addr) (h0 : Heap) (n0 : Nat) (ka : ClassId) (Aa : Arv Z h0 va ka .char (2 : Int32) [(.int 0), (.int 0)] (.int 0)) (gv : n0 ≤ va) :
    MF l hw ⟨zZ4, "toSurrogates", "(I[CI)V"⟩ kQ51 3 none (rO 1 0 0 16) #[(.int x0), (.ref va), (.int 0)] h0 (Q_rmTS Z x0 va h0 n0 ka) := by
  refine MF.of (pF pn0) (ef22 · x0 va (0 : Int32)) dP72 ?_
  intro p e s m below meth c s₁ bd hlk hml hown hnm hrt hZ X0 e0
  have hx := (bd 0).1
  have N0 := Fr.nil n0
  have ch := own_hsB x0
  have cl' := own_lsB x0
  refine OD.go (B := (s₁.setTop (mkF m 5 #[vI x0, vR va, vI 0] [(.int x0), (.int 1), (.ref va)]))) (fun t k => zaN X0 (bd 0) rfl rfl (ziN X0 (bd 1) rfl (zcI X0 (bd 2) 1 rfl (ziadd X0 (bd 3) (ziN X0 (bd 4) rfl k))))) ?_
  refine OD.cS X0 (bd 5) hZ hown hml Wd338 Wd339 Wd120 Wd340 pd19 (rm_lowSurrogate hw x0 h0) e0 rfl (fun v51 T51 L51 X51 hQ51 => ?_)
  obtain ⟨rfl, rfl, e51⟩ := hQ51
  try rw [List.append_nil] at X51
  obtain ⟨cl52, Ar52, q52, S52, M52, H52, G52⟩ := id Aa
  obtain ⟨T52, h52, X52, e52, W52, st52⟩ := stC X51 hx hZ e51 Ar52 (j := (1 : Int32)) (inb_of S52 ⟨by decide, by decide⟩) (g := (mkF m 8 #[vI x0, vR va, vI 0] [(.int (own_lowSurrogate x0)), (.int 1), (.ref va)])) rfl rfl (bd 6).2
  rw [(own_nc cl'.1 cl'.2)] at W52
  have V52 : Arv Z h52 va ka .char (2 : Int32) [(.int 0), (.int (own_lowSurrogate x0))] (.int 0) := Arv.set Ar52 q52 S52 M52 H52 G52 ((own_nc cl'.1 cl'.2) ▸ fits_nar_char _) W52 1 rfl (nl rfl)
  have N52 := Fr.snoc X52 N0 gv
  refine OD.go (B := (T52.setTop (mkF m 9 #[vI x0, vR va, vI 0] []))) st52 ?_
  refine OD.at 12 (fun t k => zaN X52 (bd 7) rfl rfl (ziN X52 (bd 8) rfl (ziN X52 (bd 9) rfl k))) ?_
  refine OD.cS X52 (bd 10) hZ hown hml Wd341 Wd342 Wd120 Wd343 pd19 (rm_highSurrogate hw x0 h52) e52 rfl (fun v53 T53 L53 X53 hQ53 => ?_)
  obtain ⟨rfl, rfl, e53⟩ := hQ53
  try rw [List.append_nil] at X53
  obtain ⟨cl54, Ar54, q54, S54, M54, H54, G54⟩ := id V52
  obtain ⟨T54, h54, X54, e54, W54, st54⟩ := stC X53 hx hZ e53 Ar54 (j := (0 : Int32)) (inb_of S54 ⟨by decide, by decide⟩) (g := (mkF m 15 #[vI x0, vR va, vI 0] [(.int (own_highSurrogate x0)), (.int 0), (.ref va)])) rfl rfl (bd 11).2
  rw [(own_nc ch.1 ch.2)] at W54
  have V54 : Arv Z h54 va ka .char (2 : Int32) [(.int (own_highSurrogate x0)), (.int (own_lowSurrogate x0))] (.int 0) := Arv.set Ar54 q54 S54 M54 H54 G54 ((own_nc ch.1 ch.2) ▸ fits_nar_char _) W54 0 rfl (nl rfl)
  have N54 := Fr.snoc X54 N52 gv
  refine OD.go (B := (T54.setTop (mkF m 16 #[vI x0, vR va, vI 0] []))) st54 ?_
  exact OD.rV X54 (bd 12) hlk hrt ⟨rfl, N54, by rw [e54]; exact (((Keep.refl h0 [va]).wr W52 (Or.inl (mG 0 rfl))).wr W54 (Or.inl (mG 0 rfl))), by rw [e54]; exact V54⟩
def Q_rmTC1 (Z : State) (x0 : Int32) (h0 : Heap) (n0 : Nat) : QT := fun v h L => ∃ (b : Addr) (k : ClassId), v = some (.ref b) ∧ Fr n0 L ∧ Keep h0 h [] ∧ h0.size ≤ b ∧ Arv Z h b k .char (1 : Int32) [(.int x0)] (.int 0)
theorem rmTC1 (x0 : Int32) (h0 : Heap) (n0 : Nat) (Z0 : n0 ≤ h0.size) (hbp : ¬ own_isBmpCodePoint x0 = (0 : Int32)) (u0 : 0 ≤ x0.toInt) (w0 : x0.toInt ≤ 65535) :
    MF l hw ⟨zZ4, "toChars", "(I)[C"⟩ kQ52 2 (some (.array .char)) (rO 2 1 2 34) #[(.int x0)] h0 (Q_rmTC1 Z x0 h0 n0) := by
  refine MF.of (pF pn0) (ef1 · x0) dP25 ?_
  intro p e s m below meth c s₁ bd hlk hml hown hnm hrt hZ X0 e0
  have hx := (bd 0).1
  have N0 := Fr.nil n0
  have i2 : x0.toUInt32.toUInt16.toUInt32.toInt32 = x0 := own_i2cid u0 w0
  refine OD.at 1 (fun t k => ziN X0 (bd 0) rfl k) ?_
  refine OD.cS X0 (bd 1) hZ hown hml Wd122 Wd123 Wd120 Wd124 pd7 (rm_isBmpCodePoint hw x0 h0) e0 rfl (fun v51 T51 L51 X51 hQ51 => ?_)
  obtain ⟨rfl, rfl, e51⟩ := hQ51
  try rw [List.append_nil] at X51
  refine OD.at 8 (fun t k => zjN X51 (bd 2) (feq hbp).1 (zcI X51 (bd 3) 1 rfl k)) ?_
  obtain ⟨T52, h52, k52, X52, e52, E52, A52, st52⟩ := newP X51 hx hZ (aty := .char) (Wd0 hw) e51 (g := (mkF m 8 #[vI x0, .unset] [(.int 1)])) rfl (bd 4).2 rfl (by decide) (cap := 1) (by decide) (by decide) (nl rfl) (nl rfl)
  obtain ⟨b52, g52⟩ : ∃ z, z = h0.size := ⟨_, rfl⟩
  rw [← g52] at A52 st52
  have V52 : Arv Z h52 b52 k52 .char (1 : Int32) [(.int 0)] (.int 0) := (Arv.new A52 (by decide)).pad (pad_rep [] (.int 0) 1)
  refine OD.go (B := (T52.setTop (mkF m 10 #[vI x0, .unset] [(.ref b52)]))) st52 ?_
  refine OD.at 14 (fun t k => XS.dup X52.here hx rfl (bd 5).2 rfl rfl (zcI X52 (bd 6) 0 rfl (ziN X52 (bd 7) rfl (zi2c X52 (bd 8) k)))) ?_
  rw [i2]
  obtain ⟨cl53, Ar53, q53, S53, M53, H53, G53⟩ := id V52
  obtain ⟨T53, h53, X53, e53, W53, st53⟩ := stC X52 hx hZ e52 Ar53 (j := (0 : Int32)) (inb_of S53 ⟨by decide, by decide⟩) (g := (mkF m 14 #[vI x0, .unset] [(.int x0), (.int 0), (.ref b52), (.ref b52)])) rfl rfl (bd 9).2
  rw [(own_nc u0 w0)] at W53
  have V53 : Arv Z h53 b52 k52 .char (1 : Int32) [(.int x0)] (.int 0) := Arv.set Ar53 q53 S53 M53 H53 G53 ((own_nc u0 w0) ▸ fits_nar_char _) W53 0 rfl (nl rfl)
  have N53 := Fr.snoc X53 N0 (nT Z0 (nE g52))
  refine OD.go (B := (T53.setTop (mkF m 15 #[vI x0, .unset] [(.ref b52)]))) st53 ?_
  exact OD.rA X53 (bd 10) hlk hrt rfl rfl rfl ⟨_, _, rfl, N53, by rw [e53]; exact (((Keep.refl h0 []).ext E52).wr W53 (Or.inr (nT Nat.le.refl (nE g52)))), (nT Nat.le.refl (nE g52)), by rw [e53]; exact V53⟩
def Q_rmTC2 (Z : State) (x0 : Int32) (h0 : Heap) (n0 : Nat) : QT := fun v h L => ∃ (b : Addr) (k : ClassId), v = some (.ref b) ∧ Fr n0 L ∧ Keep h0 h [] ∧ h0.size ≤ b ∧ Arv Z h b k .char (2 : Int32) [(.int (own_highSurrogate x0)), (.int (own_lowSurrogate x0))] (.int 0)
theorem rmTC2 (x0 : Int32) (h0 : Heap) (n0 : Nat) (Z0 : n0 ≤ h0.size) (hbp : own_isBmpCodePoint x0 = (0 : Int32)) (hv : ¬ own_isValidCodePoint x0 = (0 : Int32)) :
    MF l hw ⟨zZ4, "toChars", "(I)[C"⟩ kQ52 2 (some (.array .char)) (rO 2 1 2 34) #[(.int x0)] h0 (Q_rmTC2 Z x0 h0 n0) := by
  refine MF.of (pF pn0) (ef1 · x0) dP25 ?_
  intro p e s m below meth c s₁ bd hlk hml hown hnm hrt hZ X0 e0
  have hx := (bd 0).1
  have N0 := Fr.nil n0
  refine OD.at 1 (fun t k => ziN X0 (bd 0) rfl k) ?_
  refine OD.cS X0 (bd 1) hZ hown hml Wd122 Wd123 Wd120 Wd124 pd7 (rm_isBmpCodePoint hw x0 h0) e0 rfl (fun v51 T51 L51 X51 hQ51 => ?_)
  obtain ⟨rfl, rfl, e51⟩ := hQ51
  try rw [List.append_nil] at X51
  refine OD.at 17 (fun t k => zjY X51 (bd 2) 16 (teq hbp).1 (ziN X51 (bd 11) rfl k)) ?_
  refine OD.cS X51 (bd 12) hZ hown hml Wd332 Wd333 Wd120 Wd334 pd7 (rm_isValidCodePoint hw x0 h0) e51 rfl (fun v52 T52 L52 X52 hQ52 => ?_)
  obtain ⟨rfl, rfl, e52⟩ := hQ52
  try rw [List.append_nil] at X52
  refine OD.at 24 (fun t k => zjN X52 (bd 13) (feq hv).1 (zcI X52 (bd 14) 2 rfl k)) ?_
  obtain ⟨T53, h53, k53, X53, e53, E53, A53, st53⟩ := newP X52 hx hZ (aty := .char) (Wd0 hw) e52 (g := (mkF m 24 #[vI x0, .unset] [(.int 2)])) rfl (bd 15).2 rfl (by decide) (cap := 2) (by decide) (by decide) (nl rfl) (nl rfl)
  obtain ⟨b53, g53⟩ : ∃ z, z = h0.size := ⟨_, rfl⟩
  rw [← g53] at A53 st53
  have V53 : Arv Z h53 b53 k53 .char (2 : Int32) [(.int 0), (.int 0)] (.int 0) := (Arv.new A53 (by decide)).pad (pad_rep [] (.int 0) 2)
  refine OD.go (B := (T53.setTop (mkF m 26 #[vI x0, .unset] [(.ref b53)]))) st53 ?_
  refine OD.at 30 (fun t k => zaT X53 (bd 16) rfl #[vI x0, vR b53] rfl (ziN X53 (bd 17) rfl (zaN X53 (bd 18) rfl rfl (zcI X53 (bd 19) 0 rfl k)))) ?_
  refine OD.cS X53 (bd 20) hZ hown hml Wd335 Wd336 Wd120 Wd337 pd27 (rmTS hw x0 b53 h53 n0 k53 V53 (nT Z0 (nE g53))) e53 rfl (fun v54 T54 L54 X54 hQ54 => ?_)
  obtain ⟨rfl, Nq54, K54, A54⟩ := hQ54
  have N54 := Fr.app N0 Nq54
  refine OD.at 34 (fun t k => zaN X54 (bd 21) rfl rfl k) ?_
  exact OD.rA X54 (bd 22) hlk hrt rfl rfl rfl ⟨_, _, rfl, N54, by exact (((Keep.refl h0 []).ext E53).trans K54 (allS (Or.inr (nT Nat.le.refl (nE g53))) all0)), (nT Nat.le.refl (nE g53)), by exact A54⟩
def Q_rmCO (Z : State) (x1 : Int32) (h0 : Heap) (n0 : Nat) (z : Int32) (F : Int32 → Int32) : QT := fun v h L => ∃ (b : Addr) (k : ClassId), v = some (.ref b) ∧ Fr n0 L ∧ Keep h0 h [] ∧ h0.size ≤ b ∧ Exa Z h b "[B" ∧ Arv Z h b k .byte x1 (own_rg x1.toNatClampNeg (fun x => .int ((own_cut F (own_min z x1)) x))) (.int 0)
theorem rmCO (va : Addr) (x1 : Int32) (h0 : Heap) (n0 : Nat) (Z0 : n0 ≤ h0.size) (ka : ClassId) (z : Int32) (F : Int32 → Int32) (Aa : Arv Z h0 va ka .byte z (own_rg z.toNatClampNeg (fun x => .int (F x))) (.int 0)) (hn : ¬ x1 = z) (h1 : 0 ≤ x1.toInt) (h2 : x1.toInt ≤ 80) :
    MF l hw ⟨zZ8, "copyOf", "([BI)[B"⟩ kQ53 3 (some (.array .byte)) (rO 1 1 80 40) #[(.ref va), (.int x1)] h0 (Q_rmCO Z x1 h0 n0 z F) := by
  refine MF.of (pF pn6) (ef13 · va x1) dP39 ?_
  intro p e s m below meth c s₁ bd hlk hml hown hnm hrt hZ X0 e0
  have hx := (bd 0).1
  have N0 := Fr.nil n0
  have hz := own_zpos Aa
  have hm : 0 ≤ (own_min z x1).toInt := by rcases (own_minP z x1).2.2 with q | q <;> rw [q] <;> assumption
  refine OD.at 15 (fun t k => ziN X0 (bd 0) rfl (zaN X0 (bd 1) rfl rfl (zal X0 (bd 2) hZ e0 Aa (zkY X0 (bd 3) 14 (feq hn).2 (ziN X0 (bd 4) rfl k))))) ?_
  obtain ⟨T51, h51, k51, X51, e51, E51, A51, Q51, st51⟩ := newPE X0 hx hZ (aty := .byte) (Wd19 hw) e0 (g := (mkF m 15 #[vR va, vI x1, .unset] [(.int x1)])) rfl (bd 5).2 rfl (own_nneg h1) (cap := 80) (by have := own_clamp h1; omega) (by decide) (nl rfl) (nl rfl) (ad := "[B") (by decide)
  obtain ⟨b51, g51⟩ : ∃ z, z = h0.size := ⟨_, rfl⟩
  rw [← g51] at A51 Q51 st51
  have V51 : Arv Z h51 b51 k51 .byte x1 (own_rg x1.toNatClampNeg (fun x => .int (own_z x))) (.int 0) := own_fill (Arv.new A51 (own_nneg h1))
  refine OD.go (B := (T51.setTop (mkF m 17 #[vR va, vI x1, .unset] [(.ref b51)]))) st51 ?_
  refine OD.at 23 (fun t k => zaT X51 (bd 6) rfl #[vR va, vI x1, vR b51] rfl (zaN X51 (bd 7) rfl rfl (zcI X51 (bd 8) 0 rfl (zaN X51 (bd 9) rfl rfl (zcI X51 (bd 10) 0 rfl (zaN X51 (bd 11) rfl rfl k)))))) ?_
  have f52 := (Aa.ext E51)
  refine OD.at 25 (fun t k => zal X51 (bd 12) hZ e51 f52 (ziN X51 (bd 13) rfl k)) ?_
  refine OD.cS X51 (bd 14) hZ hown hml Wd200 Wd109 Wd106 Wd110 pd8 (rm_min hw z x1 h51) e51 rfl (fun v53 T53 L53 X53 hQ53 => ?_)
  obtain ⟨rfl, rfl, e53⟩ := hQ53
  try rw [List.append_nil] at X53
  obtain ⟨T54, h54, L54, X54, e54, N54, K54, A54, st54⟩ := cpA X53 hx hZ hown (Wd201 hw) (Wd204 hw) (Wd202 hw) (Wd203 hw) e53 f52 V51 (Or.inl ⟨rfl, rfl⟩) (sp := (0 : Int32)) (dp := (0 : Int32)) (nn := (own_min z x1)) (by decide) (by decide) (own_nneg hm) (own_cle hm (own_minP z x1).1) (own_cle hm (own_minP z x1).2.1) (us := (own_rg (own_min z x1).toNatClampNeg (fun x => .int (F x)))) (own_cpu F _ hm (own_minP z x1).1) (by rw [own_rg_len]; exact own_cle hm (own_minP z x1).2.1) N0 (nT Z0 (nE g51)) (g := (mkF m 28 #[vR va, vI x1, vR b51] [(.int (own_min z x1)), (.int 0), (.ref b51), (.int 0), (.ref va)])) rfl (by rw [hml]; rfl) rfl (bd 15).2 (by decide) (W := 0) (by show 2 * 0 + _ ≤ _; exact Nat.le_of_eq rfl) (by decide)
  have A54 : Arv Z h54 b51 k51 .byte x1 (own_rg x1.toNatClampNeg (fun x => .int ((own_cut F (own_min z x1)) x))) (.int 0) := by have q := A54; rw [own_cpl F hm (own_minP z x1).2.1 (by omega)] at q; exact q
  refine OD.go (B := (T54.setTop (mkF m 31 #[vR va, vI x1, vR b51] []))) st54 ?_
  refine OD.at 32 (fun t k => zaN X54 (bd 16) rfl rfl k) ?_
  exact OD.rA X54 (bd 17) hlk hrt rfl rfl rfl ⟨_, _, rfl, N54, by rw [e54]; exact (((Keep.refl h0 []).ext E51).trans K54 (allS (Or.inr (nT Nat.le.refl (nE g51))) all0)), (nT Nat.le.refl (nE g51)), by rw [e54]; exact (Q51.keep K54), by rw [e54]; exact A54⟩
theorem rmCPz1 (va : Addr) (h0 : Heap) (ka : ClassId) (F : Int32 → Int32) (Aa : Arv Z h0 va ka .byte (1 : Int32) (own_rg (1 : Int32).toNatClampNeg (fun x => .int (F x))) (.int 0)) (hF : (F (0 : Int32)) < (0 : Int32)) :
    MF l hw ⟨zZ14, zZ46, "([BII)I"⟩ kQ54 5 (some .int) (rO 0 0 0 0) #[(.ref va), (.int 0), (.int 1)] h0 (Pu (some (.int 0)) h0) := by
  refine MF.of (pF pn7) (ef18 · va (0 : Int32) (1 : Int32)) dP31 ?_
  intro p e s m below meth c s₁ bd hlk hml hown hnm hrt hZ X0 e0
  have hx := (bd 0).1
  refine OD.go (B := (s₁.setTop (mkF m 16 #[vR va, vI 0, vI 1, vI 1, vI 0] [(.int 0), (.ref va)]))) (fun t k => ziN X0 (bd 0) rfl (ziN X0 (bd 1) rfl (ziadd X0 (bd 2) (zsN X0 (bd 3) #[vR va, vI 0, vI 1, vI 1, .unset] rfl (ziN X0 (bd 4) rfl (zsI X0 (bd 5) #[vR va, vI 0, vI 1, vI 1, vI 0] rfl (ziL X0 (bd 6) rfl (ziN X0 (bd 7) rfl (zkN X0 (bd 8) (tlt (by decide : (0 : Int32) < (1 : Int32))).2.1 (zaN X0 (bd 9) rfl rfl (ziL X0 (bd 10) rfl k))))))))))) ?_
  obtain ⟨cl51, Ar51, hi51, ha51⟩ := own_at Aa (j := (0 : Int32)) (v := (.int (F (0 : Int32)))) ⟨by decide, by decide⟩ (own_rg_at ⟨by decide, by decide⟩ _ _)
  refine OD.go (B := (s₁.setTop (mkF m 24 #[vR va, vI 0, vI 1, vI 1, vI 0] [(.int 0)]))) (fun t k => X0.baloadBytes hx (j := (0 : Int32)) (v := (.int (F (0 : Int32)))) (by rw [e0]; exact Ar51.1) (State.isArrayOf_alike hZ.alike Ar51.2.1) Ar51.2.2 hi51 ha51 (g := (mkF m 16 #[vR va, vI 0, vI 1, vI 1, vI 0] [(.int 0), (.ref va)])) rfl rfl (bd 11).2 _ (zjN X0 (bd 12) (tlt hF).2.1 (ziL X0 (bd 13) rfl (ziN X0 (bd 14) rfl (zisub X0 (bd 15) k))))) ?_
  exact OD.rI X0 (bd 16) hlk hrt rfl ⟨rfl, rfl, e0⟩
theorem rmHN1 (va : Addr) (h0 : Heap) (ka : ClassId) (F : Int32 → Int32) (Aa : Arv Z h0 va ka .byte (1 : Int32) (own_rg (1 : Int32).toNatClampNeg (fun x => .int (F x))) (.int 0)) (hF : (F (0 : Int32)) < (0 : Int32)) :
    MF l hw ⟨zZ14, zZ47, "([BII)Z"⟩ kQ55 3 (some .boolean) (rO 1 0 0 20) #[(.ref va), (.int 0), (.int 1)] h0 (Pu (some (.int 1)) h0) := by
  refine MF.of (pF pn7) (ef10 · va (0 : Int32) (1 : Int32)) dP30 ?_
  intro p e s m below meth c s₁ bd hlk hml hown hnm hrt hZ X0 e0
  refine OD.at 3 (fun t k => zaN X0 (bd 0) rfl rfl (ziN X0 (bd 1) rfl (ziN X0 (bd 2) rfl k))) ?_
  refine OD.cS X0 (bd 3) hZ hown hml Wd145 Wd146 Wd143 Wd147 pd17 (rmCPz1 hw va h0 ka F Aa hF) e0 rfl (fun v51 T51 L51 X51 hQ51 => ?_)
  obtain ⟨rfl, rfl, e51⟩ := hQ51
  refine OD.at 15 (fun t k => ziN X51 (bd 4) rfl (zkN X51 (bd 5) (feq (by decide : ¬ (0 : Int32) = (1 : Int32))).1 (zcI X51 (bd 6) 1 rfl (zgO X51 (bd 7) 15 k)))) ?_
  exact OD.rZ X51 (bd 8) hlk hrt rfl ⟨rfl, rfl, e51⟩
theorem rmCPz0 (va : Addr) (h0 : Heap) (ka : ClassId) (F : Int32 → Int32) (Aa : Arv Z h0 va ka .byte (1 : Int32) (own_rg (1 : Int32).toNatClampNeg (fun x => .int (F x))) (.int 0)) (hF : ¬ (F (0 : Int32)) < (0 : Int32)) :
    MF l hw ⟨zZ14, zZ46, "([BII)I"⟩ kQ54 5 (some .int) (rO 0 0 0 0) #[(.ref va), (.int 0), (.int 1)] h0 (Pu (some (.int 1)) h0) := by
  refine MF.of (pF pn7) (ef18 · va (0 : Int32) (1 : Int32)) dP31 ?_
  intro p e s m below meth c s₁ bd hlk hml hown hnm hrt hZ X0 e0
  have hx := (bd 0).1
  refine OD.go (B := (s₁.setTop (mkF m 16 #[vR va, vI 0, vI 1, vI 1, vI 0] [(.int 0), (.ref va)]))) (fun t k => ziN X0 (bd 0) rfl (ziN X0 (bd 1) rfl (ziadd X0 (bd 2) (zsN X0 (bd 3) #[vR va, vI 0, vI 1, vI 1, .unset] rfl (ziN X0 (bd 4) rfl (zsI X0 (bd 5) #[vR va, vI 0, vI 1, vI 1, vI 0] rfl (ziL X0 (bd 6) rfl (ziN X0 (bd 7) rfl (zkN X0 (bd 8) (tlt (by decide : (0 : Int32) < (1 : Int32))).2.1 (zaN X0 (bd 9) rfl rfl (ziL X0 (bd 10) rfl k))))))))))) ?_
  obtain ⟨cl51, Ar51, hi51, ha51⟩ := own_at Aa (j := (0 : Int32)) (v := (.int (F (0 : Int32)))) ⟨by decide, by decide⟩ (own_rg_at ⟨by decide, by decide⟩ _ _)
  refine OD.at 32 (fun t k => X0.baloadBytes hx (j := (0 : Int32)) (v := (.int (F (0 : Int32)))) (by rw [e0]; exact Ar51.1) (State.isArrayOf_alike hZ.alike Ar51.2.1) Ar51.2.2 hi51 ha51 (g := (mkF m 16 #[vR va, vI 0, vI 1, vI 1, vI 0] [(.int 0), (.ref va)])) rfl rfl (bd 11).2 _ (zjY X0 (bd 12) 25 (flt hF).2.1 (zic X0 (bd 17) rfl #[vR va, vI 0, vI 1, vI 1, vI 1] rfl (zgO X0 (bd 18) 7 (ziL X0 (bd 6) rfl (ziN X0 (bd 7) rfl (zkY X0 (bd 8) 31 (flt (by decide : ¬ (1 : Int32) < (1 : Int32))).2.1 (ziN X0 (bd 19) rfl k)))))))) ?_
  exact OD.rI X0 (bd 20) hlk hrt rfl ⟨rfl, rfl, e0⟩
theorem rmHN0 (va : Addr) (h0 : Heap) (ka : ClassId) (F : Int32 → Int32) (Aa : Arv Z h0 va ka .byte (1 : Int32) (own_rg (1 : Int32).toNatClampNeg (fun x => .int (F x))) (.int 0)) (hF : ¬ (F (0 : Int32)) < (0 : Int32)) :
    MF l hw ⟨zZ14, zZ47, "([BII)Z"⟩ kQ55 3 (some .boolean) (rO 1 0 0 20) #[(.ref va), (.int 0), (.int 1)] h0 (Pu (some (.int 0)) h0) := by
  refine MF.of (pF pn7) (ef10 · va (0 : Int32) (1 : Int32)) dP30 ?_
  intro p e s m below meth c s₁ bd hlk hml hown hnm hrt hZ X0 e0
  refine OD.at 3 (fun t k => zaN X0 (bd 0) rfl rfl (ziN X0 (bd 1) rfl (ziN X0 (bd 2) rfl k))) ?_
  refine OD.cS X0 (bd 3) hZ hown hml Wd145 Wd146 Wd143 Wd147 pd17 (rmCPz0 hw va h0 ka F Aa hF) e0 rfl (fun v51 T51 L51 X51 hQ51 => ?_)
  obtain ⟨rfl, rfl, e51⟩ := hQ51
  refine OD.at 15 (fun t k => ziN X51 (bd 4) rfl (zkY X51 (bd 5) 14 (teq (by decide : (1 : Int32) = (1 : Int32))).1 (zcI X51 (bd 9) 0 rfl k))) ?_
  exact OD.rZ X51 (bd 8) hlk hrt rfl ⟨rfl, rfl, e51⟩
def Q_rmE16_1 (Z : State) (h0 : Heap) (n0 : Nat) (c0 : Int32) : QT := fun v h L => ∃ (b : Addr) (k : ClassId) (z : Int32) (G : Int32 → Int32), v = some (.ref b) ∧ Fr n0 L ∧ Keep h0 h [] ∧ h0.size ≤ b ∧ Arv Z h b k .byte z (own_rg z.toNatClampNeg (fun x => .int (G x))) (.int 0) ∧ Byo z G (own_u8 c0)
theorem rmE16_1 (va : Addr) (h0 : Heap) (n0 : Nat) (X00 : Old Z n0 h0) (SS : STs Z zc fm u8 hxa kh) (Z0 : n0 ≤ h0.size) (ka : ClassId) (F : Int32 → Int32) (Aa : Arv Z h0 va ka .byte (2 : Int32) (own_rg (2 : Int32).toNatClampNeg (fun x => .int (F x))) (.int 0)) (c0 : Int32) (hg : own_gc F (0 : Int32) = c0) (u0 : 0 ≤ c0.toInt) (w0 : c0.toInt ≤ 65535) :
    MF l hw ⟨zZ0, zZ48, "([BZ)[B"⟩ kQ56 9 (some (.array .byte)) (rO 2 2 86 58) #[(.ref va), (.int 1)] h0 (Q_rmE16_1 Z h0 n0 c0) := by
  refine MF.of (pF pn3) (ef23 · va (1 : Int32)) dP75 ?_
  intro p e s m below meth c s₁ bd hlk hml hown hnm hrt hZ X0 e0
  have hx := (bd 0).1
  have N0 := Fr.nil n0
  refine OD.go (B := (s₁.setTop (mkF m 14 #[vR va, vI 1, vI 0, vI 0, vI 1, .unset, .unset, .unset, .unset] [(.int 3)]))) (fun t k => zcI X0 (bd 0) 0 rfl (zsN X0 (bd 1) #[vR va, vI 1, vI 0, .unset, .unset, .unset, .unset, .unset, .unset] rfl (zcI X0 (bd 2) 0 rfl (zsN X0 (bd 3) #[vR va, vI 1, vI 0, vI 0, .unset, .unset, .unset, .unset, .unset] rfl (zaN X0 (bd 4) rfl rfl (zal X0 (bd 5) hZ e0 Aa (zcI X0 (bd 6) 1 rfl (zishr X0 (bd 7) (zsI X0 (bd 8) #[vR va, vI 1, vI 0, vI 0, vI 1, .unset, .unset, .unset, .unset] rfl (ziL X0 (bd 9) rfl (zcI X0 (bd 10) 3 rfl (zimul X0 (bd 11) k)))))))))))) ?_
  obtain ⟨T51, h51, k51, X51, e51, E51, A51, Q51, st51⟩ := newPE X0 hx hZ (aty := .byte) (Wd19 hw) e0 (g := (mkF m 14 #[vR va, vI 1, vI 0, vI 0, vI 1, .unset, .unset, .unset, .unset] [(.int 3)])) rfl (bd 12).2 rfl (by decide) (cap := 3) (by decide) (by decide) (nl rfl) (nl rfl) (ad := "[B") (by decide)
  obtain ⟨b51, g51⟩ : ∃ z, z = h0.size := ⟨_, rfl⟩
  rw [← g51] at A51 Q51 st51
  have V51 : Arv Z h51 b51 k51 .byte (3 : Int32) (own_rg (3 : Int32).toNatClampNeg (fun x => .int (own_z x))) (.int 0) := own_fill (Arv.new A51 (by decide))
  refine OD.go (B := (T51.setTop (mkF m 16 #[vR va, vI 1, vI 0, vI 0, vI 1, .unset, .unset, .unset, .unset] [(.ref b51)]))) st51 ?_
  refine OD.at 26 (fun t k => zaS X51 (bd 13) rfl #[vR va, vI 1, vI 0, vI 0, vI 1, vR b51, .unset, .unset, .unset] rfl (ziN X51 (bd 14) rfl (ziL X51 (bd 15) rfl (zkN X51 (bd 16) (tlt (by decide : (0 : Int32) < (1 : Int32))).2.1 (zaN X51 (bd 17) rfl rfl (ziN X51 (bd 18) rfl k)))))) ?_
  have f52 := (Aa.ext E51)
  refine OD.cS X51 (bd 19) hZ hown hml Wd348 Wd308 Wd17 Wd309 pd13 (rmGC hw va (0 : Int32) h51 n0 (X00.ext E51) SS ka (2 : Int32) F f52 ⟨by decide, by decide⟩ ⟨by decide, by decide⟩) e51 rfl (fun v53 T53 L53 X53 hQ53 => ?_)
  obtain ⟨rfl, rfl, e53⟩ := hQ53
  try rw [List.append_nil] at X53
  rw [show (own_gc F (0 : Int32)) = c0 from hg]
  refine OD.at 36 (fun t k => zsI X53 (bd 20) #[vR va, vI 1, vI 0, vI 0, vI 1, vR b51, vI c0, .unset, .unset] rfl (ziL X53 (bd 21) rfl (zcS X53 (bd 22) 128 rfl k))) ?_
  by_cases c36_54 : c0 < (128 : Int32)
  · refine OD.at 51 (fun t k => zkY X53 (bd 23) 42 (tlt c36_54).1 (zaL X53 (bd 24) rfl rfl (ziN X53 (bd 25) rfl (zic X53 (bd 26) rfl #[vR va, vI 1, vI 1, vI 0, vI 1, vR b51, vI c0, .unset, .unset] rfl (ziL X53 (bd 27) rfl (zi2b X53 (bd 28) k)))))) ?_
    obtain ⟨cl56, Ar56, q56, S56, M56, H56, G56⟩ := id V51
    obtain ⟨T56, h56, X56, e56, W56, st56⟩ := stB X53 hx hZ e53 Ar56 (j := (0 : Int32)) (inb_of S56 ⟨by decide, by decide⟩) (g := (mkF m 51 #[vR va, vI 1, vI 1, vI 0, vI 1, vR b51, vI c0, .unset, .unset] [(.int c0.toInt8.toInt32), (.int 0), (.ref b51)])) rfl rfl (bd 29).2
    have V56 : Arv Z h56 b51 k51 .byte (3 : Int32) (own_rg (3 : Int32).toNatClampNeg (fun x => .int ((own_up own_z (0 : Int32) c0.toInt8.toInt32.toInt8.toInt32) x))) (.int 0) := own_put (fun x => .int ((own_up own_z (0 : Int32) c0.toInt8.toInt32.toInt8.toInt32) x)) Ar56 q56 S56 M56 H56 G56 (fits_nar_byte _) W56 ⟨by decide, by decide⟩ (congrArg Value.int (own_up_at _ _ _)) (fun x q => congrArg Value.int (own_up_ne _ _ q))
    have N56 := Fr.snoc X56 N0 (nT Z0 (nE g51))
    refine OD.go (B := (T56.setTop (mkF m 52 #[vR va, vI 1, vI 1, vI 0, vI 1, vR b51, vI c0, .unset, .unset] []))) st56 ?_
    refine OD.at 365 (fun t k => zic X56 (bd 30) rfl #[vR va, vI 1, vI 1, vI 1, vI 1, vR b51, vI c0, .unset, .unset] rfl (zgO X56 (bd 31) 18 (ziN X56 (bd 14) rfl (ziL X56 (bd 15) rfl (zkY X56 (bd 16) 58 (flt (by decide : ¬ (1 : Int32) < (1 : Int32))).2.1 (ziN X56 (bd 32) rfl (ziL X56 (bd 33) rfl (zkY X56 (bd 34) 355 (flt (by decide : ¬ (1 : Int32) < (1 : Int32))).2.1 (ziN X56 (bd 35) rfl (zaL X56 (bd 36) rfl rfl (zal X56 (bd 37) hZ e56 V56 (zkY X56 (bd 38) 365 (feq (by decide : ¬ (1 : Int32) = (3 : Int32))).2 k)))))))))))) ?_
    refine OD.at 368 (fun t k => zaL X56 (bd 39) rfl rfl (ziN X56 (bd 40) rfl k)) ?_
    refine OD.cS X56 (bd 41) hZ hown hml Wd355 Wd197 Wd198 Wd199 pd28 (rmCO hw b51 (1 : Int32) h56 n0 (nT (nT Z0 E51.1) (Keep.of_wr W56).1) k51 (3 : Int32) (own_up own_z (0 : Int32) c0.toInt8.toInt32.toInt8.toInt32) V56 (by decide) (by decide) (by decide)) e56 rfl (fun v57 T57 L57 X57 hQ57 => ?_)
    obtain ⟨b57, k57', rfl, Nq57, K57, ob57, Q57, A57⟩ := hQ57
    have N57 := Fr.app N56 Nq57
    have gbb57 : n0 ≤ b57 := nT (nT (nT Z0 E51.1) (Keep.of_wr W56).1) ob57
    have Yf : Byo (1 : Int32) (own_cut (own_up own_z (0 : Int32) c0.toInt8.toInt32.toInt8.toInt32) (own_min (3 : Int32) (1 : Int32))) (own_u8 c0) := by unfold own_u8; rw [if_pos c36_54]; exact own_byo1 (by rw [own_cutE (by decide) (by decide)]; simp [own_up, own_bb] <;> (try exact own_bid (by omega) (by have := own_lt (by assumption : c0 < (128 : Int32)); have : (128 : Int32).toInt = 128 := rfl; omega)))
    exact OD.rA X57 (bd 42) hlk hrt rfl rfl rfl ⟨_, _, _, _, rfl, N57, by exact ((((Keep.refl h0 []).ext E51).wr W56 (Or.inr (nT Nat.le.refl (nE g51)))).trans K57 all0), (nT (nT (nT Nat.le.refl E51.1) (Keep.of_wr W56).1) ob57), by exact A57, Yf⟩
  · refine OD.at 69 (fun t k => zkN X53 (bd 23) (flt c36_54).1 (zgO X53 (bd 43) 58 (ziN X53 (bd 32) rfl (ziL X53 (bd 33) rfl (zkN X53 (bd 34) (tlt (by decide : (0 : Int32) < (1 : Int32))).2.1 (zaN X53 (bd 44) rfl rfl (ziN X53 (bd 45) rfl (zic X53 (bd 46) rfl #[vR va, vI 1, vI 0, vI 1, vI 1, vR b51, vI c0, .unset, .unset] rfl k)))))))) ?_
    refine OD.cS X53 (bd 47) hZ hown hml Wd348 Wd308 Wd17 Wd309 pd13 (rmGC hw va (0 : Int32) h51 n0 (X00.ext E51) SS ka (2 : Int32) F f52 ⟨by decide, by decide⟩ ⟨by decide, by decide⟩) e53 rfl (fun v58 T58 L58 X58 hQ58 => ?_)
    obtain ⟨rfl, rfl, e58⟩ := hQ58
    try rw [List.append_nil] at X58
    rw [show (own_gc F (0 : Int32)) = c0 from hg]
    refine OD.at 100 (fun t k => zsI X58 (bd 48) #[vR va, vI 1, vI 0, vI 1, vI 1, vR b51, vI c0, .unset, .unset] rfl (ziL X58 (bd 49) rfl (zcS X58 (bd 50) 128 rfl (zkY X58 (bd 51) 95 (flt c36_54).2.1 (ziL X58 (bd 52) rfl (zcS X58 (bd 53) 2048 rfl k)))))) ?_
    by_cases c100_59 : c0 < (2048 : Int32)
    · refine OD.at 119 (fun t k => zkN X58 (bd 54) (tlt c100_59).2.1 (zaL X58 (bd 55) rfl rfl (ziN X58 (bd 56) rfl (zic X58 (bd 57) rfl #[vR va, vI 1, vI 1, vI 1, vI 1, vR b51, vI c0, .unset, .unset] rfl (zcS X58 (bd 58) 192 rfl (ziL X58 (bd 59) rfl (zcB X58 (bd 60) 6 rfl (zishr X58 (bd 61) (zior X58 (bd 62) (zi2b X58 (bd 63) k)))))))))) ?_
      obtain ⟨cl61, Ar61, q61, S61, M61, H61, G61⟩ := id V51
      obtain ⟨T61, h61, X61, e61, W61, st61⟩ := stB X58 hx hZ e58 Ar61 (j := (0 : Int32)) (inb_of S61 ⟨by decide, by decide⟩) (g := (mkF m 119 #[vR va, vI 1, vI 1, vI 1, vI 1, vR b51, vI c0, .unset, .unset] [(.int ((192 : Int32) ||| (c0 >>> ((6 : Int32) &&& 31))).toInt8.toInt32), (.int 0), (.ref b51)])) rfl rfl (bd 64).2
      have V61 : Arv Z h61 b51 k51 .byte (3 : Int32) (own_rg (3 : Int32).toNatClampNeg (fun x => .int ((own_up own_z (0 : Int32) ((192 : Int32) ||| (c0 >>> ((6 : Int32) &&& 31))).toInt8.toInt32.toInt8.toInt32) x))) (.int 0) := own_put (fun x => .int ((own_up own_z (0 : Int32) ((192 : Int32) ||| (c0 >>> ((6 : Int32) &&& 31))).toInt8.toInt32.toInt8.toInt32) x)) Ar61 q61 S61 M61 H61 G61 (fits_nar_byte _) W61 ⟨by decide, by decide⟩ (congrArg Value.int (own_up_at _ _ _)) (fun x q => congrArg Value.int (own_up_ne _ _ q))
      have N61 := Fr.snoc X61 N0 (nT Z0 (nE g51))
      refine OD.go (B := (T61.setTop (mkF m 120 #[vR va, vI 1, vI 1, vI 1, vI 1, vR b51, vI c0, .unset, .unset] []))) st61 ?_
      refine OD.at 136 (fun t k => zaL X61 (bd 65) rfl rfl (ziN X61 (bd 66) rfl (zic X61 (bd 67) rfl #[vR va, vI 1, vI 2, vI 1, vI 1, vR b51, vI c0, .unset, .unset] rfl (zcS X61 (bd 68) 128 rfl (ziL X61 (bd 69) rfl (zcB X61 (bd 70) 63 rfl (ziand X61 (bd 71) (zior X61 (bd 72) (zi2b X61 (bd 73) k))))))))) ?_
      obtain ⟨cl63, Ar63, q63, S63, M63, H63, G63⟩ := id V61
      obtain ⟨T63, h63, X63, e63, W63, st63⟩ := stB X61 hx hZ e61 Ar63 (j := (1 : Int32)) (inb_of S63 ⟨by decide, by decide⟩) (g := (mkF m 136 #[vR va, vI 1, vI 2, vI 1, vI 1, vR b51, vI c0, .unset, .unset] [(.int ((128 : Int32) ||| (c0 &&& (63 : Int32))).toInt8.toInt32), (.int 1), (.ref b51)])) rfl rfl (bd 74).2
      have V63 : Arv Z h63 b51 k51 .byte (3 : Int32) (own_rg (3 : Int32).toNatClampNeg (fun x => .int ((own_up (own_up own_z (0 : Int32) ((192 : Int32) ||| (c0 >>> ((6 : Int32) &&& 31))).toInt8.toInt32.toInt8.toInt32) (1 : Int32) ((128 : Int32) ||| (c0 &&& (63 : Int32))).toInt8.toInt32.toInt8.toInt32) x))) (.int 0) := own_put (fun x => .int ((own_up (own_up own_z (0 : Int32) ((192 : Int32) ||| (c0 >>> ((6 : Int32) &&& 31))).toInt8.toInt32.toInt8.toInt32) (1 : Int32) ((128 : Int32) ||| (c0 &&& (63 : Int32))).toInt8.toInt32.toInt8.toInt32) x)) Ar63 q63 S63 M63 H63 G63 (fits_nar_byte _) W63 ⟨by decide, by decide⟩ (congrArg Value.int (own_up_at _ _ _)) (fun x q => congrArg Value.int (own_up_ne _ _ q))
      have N63 := Fr.snoc X63 N61 (nT Z0 (nE g51))
      refine OD.go (B := (T63.setTop (mkF m 137 #[vR va, vI 1, vI 2, vI 1, vI 1, vR b51, vI c0, .unset, .unset] []))) st63 ?_
      refine OD.at 368 (fun t k => zgO X63 (bd 75) 352 (zgO X63 (bd 76) 58 (ziN X63 (bd 32) rfl (ziL X63 (bd 33) rfl (zkY X63 (bd 34) 355 (flt (by decide : ¬ (1 : Int32) < (1 : Int32))).2.1 (ziN X63 (bd 35) rfl (zaL X63 (bd 36) rfl rfl (zal X63 (bd 37) hZ e63 V63 (zkY X63 (bd 38) 365 (feq (by decide : ¬ (2 : Int32) = (3 : Int32))).2 (zaL X63 (bd 39) rfl rfl (ziN X63 (bd 40) rfl k))))))))))) ?_
      refine OD.cS X63 (bd 41) hZ hown hml Wd355 Wd197 Wd198 Wd199 pd28 (rmCO hw b51 (2 : Int32) h63 n0 (nT (nT (nT Z0 E51.1) (Keep.of_wr W61).1) (Keep.of_wr W63).1) k51 (3 : Int32) (own_up (own_up own_z (0 : Int32) ((192 : Int32) ||| (c0 >>> ((6 : Int32) &&& 31))).toInt8.toInt32.toInt8.toInt32) (1 : Int32) ((128 : Int32) ||| (c0 &&& (63 : Int32))).toInt8.toInt32.toInt8.toInt32) V63 (by decide) (by decide) (by decide)) e63 rfl (fun v64 T64 L64 X64 hQ64 => ?_)
      obtain ⟨b64, k64', rfl, Nq64, K64, ob64, Q64, A64⟩ := hQ64
      have N64 := Fr.app N63 Nq64
      have gbb64 : n0 ≤ b64 := nT (nT (nT (nT Z0 E51.1) (Keep.of_wr W61).1) (Keep.of_wr W63).1) ob64
      have Yf : Byo (2 : Int32) (own_cut (own_up (own_up own_z (0 : Int32) ((192 : Int32) ||| (c0 >>> ((6 : Int32) &&& 31))).toInt8.toInt32.toInt8.toInt32) (1 : Int32) ((128 : Int32) ||| (c0 &&& (63 : Int32))).toInt8.toInt32.toInt8.toInt32) (own_min (3 : Int32) (2 : Int32))) (own_u8 c0) := by unfold own_u8; rw [if_neg c36_54, if_pos c100_59]; exact own_byo2 (by rw [own_cutE (by decide) (by decide)]; simp [own_up, own_bb] <;> (try exact own_bid (by omega) (by have := own_lt (by assumption : c0 < (128 : Int32)); have : (128 : Int32).toInt = 128 := rfl; omega))) (by rw [own_cutE (by decide) (by decide)]; simp [own_up, own_bb] <;> (try exact own_bid (by omega) (by have := own_lt (by assumption : c0 < (128 : Int32)); have : (128 : Int32).toInt = 128 := rfl; omega)))
      exact OD.rA X64 (bd 42) hlk hrt rfl rfl rfl ⟨_, _, _, _, rfl, N64, by exact (((((Keep.refl h0 []).ext E51).wr W61 (Or.inr (nT Nat.le.refl (nE g51)))).wr W63 (Or.inr (nT Nat.le.refl (nE g51)))).trans K64 all0), (nT (nT (nT (nT Nat.le.refl E51.1) (Keep.of_wr W61).1) (Keep.of_wr W63).1) ob64), by exact A64, Yf⟩
    · refine OD.at 142 (fun t k => zkY X58 (bd 54) 140 (flt c100_59).2.1 (ziL X58 (bd 77) rfl k)) ?_
      refine OD.cS X58 (bd 78) hZ hown hml Wd349 Wd350 Wd120 Wd351 pd14 (rm_isSurrogate hw c0 h51) e58 rfl (fun v65 T65 L65 X65 hQ65 => ?_)
      obtain ⟨rfl, rfl, e65⟩ := hQ65
      try rw [List.append_nil] at X65
      by_cases c145_66 : (own_isSurrogate c0) = (0 : Int32)
      · refine OD.at 314 (fun t k => zjY X65 (bd 79) 298 (teq c145_66).1 (zaL X65 (bd 80) rfl rfl (ziN X65 (bd 81) rfl (zic X65 (bd 82) rfl #[vR va, vI 1, vI 1, vI 1, vI 1, vR b51, vI c0, .unset, .unset] rfl (zcS X65 (bd 83) 224 rfl (ziL X65 (bd 84) rfl (zcB X65 (bd 85) 12 rfl (zishr X65 (bd 86) (zior X65 (bd 87) (zi2b X65 (bd 88) k)))))))))) ?_
        obtain ⟨cl68, Ar68, q68, S68, M68, H68, G68⟩ := id V51
        obtain ⟨T68, h68, X68, e68, W68, st68⟩ := stB X65 hx hZ e65 Ar68 (j := (0 : Int32)) (inb_of S68 ⟨by decide, by decide⟩) (g := (mkF m 314 #[vR va, vI 1, vI 1, vI 1, vI 1, vR b51, vI c0, .unset, .unset] [(.int ((224 : Int32) ||| (c0 >>> ((12 : Int32) &&& 31))).toInt8.toInt32), (.int 0), (.ref b51)])) rfl rfl (bd 89).2
        have V68 : Arv Z h68 b51 k51 .byte (3 : Int32) (own_rg (3 : Int32).toNatClampNeg (fun x => .int ((own_up own_z (0 : Int32) ((224 : Int32) ||| (c0 >>> ((12 : Int32) &&& 31))).toInt8.toInt32.toInt8.toInt32) x))) (.int 0) := own_put (fun x => .int ((own_up own_z (0 : Int32) ((224 : Int32) ||| (c0 >>> ((12 : Int32) &&& 31))).toInt8.toInt32.toInt8.toInt32) x)) Ar68 q68 S68 M68 H68 G68 (fits_nar_byte _) W68 ⟨by decide, by decide⟩ (congrArg Value.int (own_up_at _ _ _)) (fun x q => congrArg Value.int (own_up_ne _ _ q))
        have N68 := Fr.snoc X68 N0 (nT Z0 (nE g51))
        refine OD.go (B := (T68.setTop (mkF m 315 #[vR va, vI 1, vI 1, vI 1, vI 1, vR b51, vI c0, .unset, .unset] []))) st68 ?_
        refine OD.at 334 (fun t k => zaL X68 (bd 90) rfl rfl (ziN X68 (bd 91) rfl (zic X68 (bd 92) rfl #[vR va, vI 1, vI 2, vI 1, vI 1, vR b51, vI c0, .unset, .unset] rfl (zcS X68 (bd 93) 128 rfl (ziL X68 (bd 94) rfl (zcB X68 (bd 95) 6 rfl (zishr X68 (bd 96) (zcB X68 (bd 97) 63 rfl (ziand X68 (bd 98) (zior X68 (bd 99) (zi2b X68 (bd 100) k))))))))))) ?_
        obtain ⟨cl70, Ar70, q70, S70, M70, H70, G70⟩ := id V68
        obtain ⟨T70, h70, X70, e70, W70, st70⟩ := stB X68 hx hZ e68 Ar70 (j := (1 : Int32)) (inb_of S70 ⟨by decide, by decide⟩) (g := (mkF m 334 #[vR va, vI 1, vI 2, vI 1, vI 1, vR b51, vI c0, .unset, .unset] [(.int ((128 : Int32) ||| ((c0 >>> ((6 : Int32) &&& 31)) &&& (63 : Int32))).toInt8.toInt32), (.int 1), (.ref b51)])) rfl rfl (bd 101).2
        have V70 : Arv Z h70 b51 k51 .byte (3 : Int32) (own_rg (3 : Int32).toNatClampNeg (fun x => .int ((own_up (own_up own_z (0 : Int32) ((224 : Int32) ||| (c0 >>> ((12 : Int32) &&& 31))).toInt8.toInt32.toInt8.toInt32) (1 : Int32) ((128 : Int32) ||| ((c0 >>> ((6 : Int32) &&& 31)) &&& (63 : Int32))).toInt8.toInt32.toInt8.toInt32) x))) (.int 0) := own_put (fun x => .int ((own_up (own_up own_z (0 : Int32) ((224 : Int32) ||| (c0 >>> ((12 : Int32) &&& 31))).toInt8.toInt32.toInt8.toInt32) (1 : Int32) ((128 : Int32) ||| ((c0 >>> ((6 : Int32) &&& 31)) &&& (63 : Int32))).toInt8.toInt32.toInt8.toInt32) x)) Ar70 q70 S70 M70 H70 G70 (fits_nar_byte _) W70 ⟨by decide, by decide⟩ (congrArg Value.int (own_up_at _ _ _)) (fun x q => congrArg Value.int (own_up_ne _ _ q))
        have N70 := Fr.snoc X70 N68 (nT Z0 (nE g51))
        refine OD.go (B := (T70.setTop (mkF m 335 #[vR va, vI 1, vI 2, vI 1, vI 1, vR b51, vI c0, .unset, .unset] []))) st70 ?_
        refine OD.at 351 (fun t k => zaL X70 (bd 102) rfl rfl (ziN X70 (bd 103) rfl (zic X70 (bd 104) rfl #[vR va, vI 1, vI 3, vI 1, vI 1, vR b51, vI c0, .unset, .unset] rfl (zcS X70 (bd 105) 128 rfl (ziL X70 (bd 106) rfl (zcB X70 (bd 107) 63 rfl (ziand X70 (bd 108) (zior X70 (bd 109) (zi2b X70 (bd 110) k))))))))) ?_
        obtain ⟨cl72, Ar72, q72, S72, M72, H72, G72⟩ := id V70
        obtain ⟨T72, h72, X72, e72, W72, st72⟩ := stB X70 hx hZ e70 Ar72 (j := (2 : Int32)) (inb_of S72 ⟨by decide, by decide⟩) (g := (mkF m 351 #[vR va, vI 1, vI 3, vI 1, vI 1, vR b51, vI c0, .unset, .unset] [(.int ((128 : Int32) ||| (c0 &&& (63 : Int32))).toInt8.toInt32), (.int 2), (.ref b51)])) rfl rfl (bd 111).2
        have V72 : Arv Z h72 b51 k51 .byte (3 : Int32) (own_rg (3 : Int32).toNatClampNeg (fun x => .int ((own_up (own_up (own_up own_z (0 : Int32) ((224 : Int32) ||| (c0 >>> ((12 : Int32) &&& 31))).toInt8.toInt32.toInt8.toInt32) (1 : Int32) ((128 : Int32) ||| ((c0 >>> ((6 : Int32) &&& 31)) &&& (63 : Int32))).toInt8.toInt32.toInt8.toInt32) (2 : Int32) ((128 : Int32) ||| (c0 &&& (63 : Int32))).toInt8.toInt32.toInt8.toInt32) x))) (.int 0) := own_put (fun x => .int ((own_up (own_up (own_up own_z (0 : Int32) ((224 : Int32) ||| (c0 >>> ((12 : Int32) &&& 31))).toInt8.toInt32.toInt8.toInt32) (1 : Int32) ((128 : Int32) ||| ((c0 >>> ((6 : Int32) &&& 31)) &&& (63 : Int32))).toInt8.toInt32.toInt8.toInt32) (2 : Int32) ((128 : Int32) ||| (c0 &&& (63 : Int32))).toInt8.toInt32.toInt8.toInt32) x)) Ar72 q72 S72 M72 H72 G72 (fits_nar_byte _) W72 ⟨by decide, by decide⟩ (congrArg Value.int (own_up_at _ _ _)) (fun x q => congrArg Value.int (own_up_ne _ _ q))
        have N72 := Fr.snoc X72 N70 (nT Z0 (nE g51))
        refine OD.go (B := (T72.setTop (mkF m 352 #[vR va, vI 1, vI 3, vI 1, vI 1, vR b51, vI c0, .unset, .unset] []))) st72 ?_
        refine OD.at 364 (fun t k => zgO X72 (bd 76) 58 (ziN X72 (bd 32) rfl (ziL X72 (bd 33) rfl (zkY X72 (bd 34) 355 (flt (by decide : ¬ (1 : Int32) < (1 : Int32))).2.1 (ziN X72 (bd 35) rfl (zaL X72 (bd 36) rfl rfl (zal X72 (bd 37) hZ e72 V72 (zkN X72 (bd 38) (teq (by decide : (3 : Int32) = (3 : Int32))).2 (zaL X72 (bd 112) rfl rfl k))))))))) ?_
        have Yf : Byo (3 : Int32) (own_up (own_up (own_up own_z (0 : Int32) ((224 : Int32) ||| (c0 >>> ((12 : Int32) &&& 31))).toInt8.toInt32.toInt8.toInt32) (1 : Int32) ((128 : Int32) ||| ((c0 >>> ((6 : Int32) &&& 31)) &&& (63 : Int32))).toInt8.toInt32.toInt8.toInt32) (2 : Int32) ((128 : Int32) ||| (c0 &&& (63 : Int32))).toInt8.toInt32.toInt8.toInt32) (own_u8 c0) := by unfold own_u8; rw [if_neg c36_54, if_neg c100_59, if_pos c145_66]; exact own_byo3 (by simp [own_up, own_bb] <;> (try exact own_bid (by omega) (by have := own_lt (by assumption : c0 < (128 : Int32)); have : (128 : Int32).toInt = 128 := rfl; omega))) (by simp [own_up, own_bb] <;> (try exact own_bid (by omega) (by have := own_lt (by assumption : c0 < (128 : Int32)); have : (128 : Int32).toInt = 128 := rfl; omega))) (by simp [own_up, own_bb] <;> (try exact own_bid (by omega) (by have := own_lt (by assumption : c0 < (128 : Int32)); have : (128 : Int32).toInt = 128 := rfl; omega)))
        exact OD.rA X72 (bd 113) hlk hrt rfl rfl rfl ⟨_, _, _, _, rfl, N72, by rw [e72]; exact (((((Keep.refl h0 []).ext E51).wr W68 (Or.inr (nT Nat.le.refl (nE g51)))).wr W70 (Or.inr (nT Nat.le.refl (nE g51)))).wr W72 (Or.inr (nT Nat.le.refl (nE g51)))), (nT Nat.le.refl (nE g51)), by rw [e72]; exact V72, Yf⟩
      · refine OD.at 153 (fun t k => zjN X65 (bd 79) (feq c145_66).1 (zcI X65 (bd 114) (-1) rfl (zsI X65 (bd 115) #[vR va, vI 1, vI 0, vI 1, vI 1, vR b51, vI c0, vI (-1), .unset] rfl (ziL X65 (bd 116) rfl k)))) ?_
        refine OD.cS X65 (bd 117) hZ hown hml Wd352 Wd320 Wd120 Wd321 pd14 (rm_isHighSurrogate hw c0 h51) e65 rfl (fun v73 T73 L73 X73 hQ73 => ?_)
        obtain ⟨rfl, rfl, e73⟩ := hQ73
        try rw [List.append_nil] at X73
        by_cases c156_74 : (own_isHighSurrogate c0) = (0 : Int32)
        · refine OD.at 205 (fun t k => zjY X73 (bd 118) 188 (teq c156_74).1 (ziL X73 (bd 119) rfl (zjN X73 (bd 120) (tlt (by decide : (-1 : Int32) < (0 : Int32))).2.1 (ziN X73 (bd 121) rfl (zjN X73 (bd 122) (feq (by decide : ¬ (1 : Int32) = (0 : Int32))).1 (zaL X73 (bd 123) rfl rfl (ziN X73 (bd 124) rfl (zic X73 (bd 125) rfl #[vR va, vI 1, vI 1, vI 1, vI 1, vR b51, vI c0, vI (-1), .unset] rfl (zcB X73 (bd 126) 63 rfl k))))))))) ?_
          obtain ⟨cl76, Ar76, q76, S76, M76, H76, G76⟩ := id V51
          obtain ⟨T76, h76, X76, e76, W76, st76⟩ := stB X73 hx hZ e73 Ar76 (j := (0 : Int32)) (inb_of S76 ⟨by decide, by decide⟩) (g := (mkF m 205 #[vR va, vI 1, vI 1, vI 1, vI 1, vR b51, vI c0, vI (-1), .unset] [(.int 63), (.int 0), (.ref b51)])) rfl rfl (bd 127).2
          have V76 : Arv Z h76 b51 k51 .byte (3 : Int32) (own_rg (3 : Int32).toNatClampNeg (fun x => .int ((own_up own_z (0 : Int32) (63 : Int32).toInt8.toInt32) x))) (.int 0) := own_put (fun x => .int ((own_up own_z (0 : Int32) (63 : Int32).toInt8.toInt32) x)) Ar76 q76 S76 M76 H76 G76 (fits_nar_byte _) W76 ⟨by decide, by decide⟩ (congrArg Value.int (own_up_at _ _ _)) (fun x q => congrArg Value.int (own_up_ne _ _ q))
          have N76 := Fr.snoc X76 N0 (nT Z0 (nE g51))
          refine OD.go (B := (T76.setTop (mkF m 206 #[vR va, vI 1, vI 1, vI 1, vI 1, vR b51, vI c0, vI (-1), .unset] []))) st76 ?_
          refine OD.at 368 (fun t k => zgO X76 (bd 128) 295 (zgO X76 (bd 129) 352 (zgO X76 (bd 76) 58 (ziN X76 (bd 32) rfl (ziL X76 (bd 33) rfl (zkY X76 (bd 34) 355 (flt (by decide : ¬ (1 : Int32) < (1 : Int32))).2.1 (ziN X76 (bd 35) rfl (zaL X76 (bd 36) rfl rfl (zal X76 (bd 37) hZ e76 V76 (zkY X76 (bd 38) 365 (feq (by decide : ¬ (1 : Int32) = (3 : Int32))).2 (zaL X76 (bd 39) rfl rfl (ziN X76 (bd 40) rfl k)))))))))))) ?_
          refine OD.cS X76 (bd 41) hZ hown hml Wd355 Wd197 Wd198 Wd199 pd28 (rmCO hw b51 (1 : Int32) h76 n0 (nT (nT Z0 E51.1) (Keep.of_wr W76).1) k51 (3 : Int32) (own_up own_z (0 : Int32) (63 : Int32).toInt8.toInt32) V76 (by decide) (by decide) (by decide)) e76 rfl (fun v77 T77 L77 X77 hQ77 => ?_)
          obtain ⟨b77, k77', rfl, Nq77, K77, ob77, Q77, A77⟩ := hQ77
          have N77 := Fr.app N76 Nq77
          have gbb77 : n0 ≤ b77 := nT (nT (nT Z0 E51.1) (Keep.of_wr W76).1) ob77
          have Yf : Byo (1 : Int32) (own_cut (own_up own_z (0 : Int32) (63 : Int32).toInt8.toInt32) (own_min (3 : Int32) (1 : Int32))) (own_u8 c0) := by unfold own_u8; rw [if_neg c36_54, if_neg c100_59, if_neg c145_66]; exact own_byo1 (by rw [own_cutE (by decide) (by decide)]; simp [own_up, own_bb] <;> (try exact own_bid (by omega) (by have := own_lt (by assumption : c0 < (128 : Int32)); have : (128 : Int32).toInt = 128 := rfl; omega)))
          exact OD.rA X77 (bd 42) hlk hrt rfl rfl rfl ⟨_, _, _, _, rfl, N77, by exact ((((Keep.refl h0 []).ext E51).wr W76 (Or.inr (nT Nat.le.refl (nE g51)))).trans K77 all0), (nT (nT (nT Nat.le.refl E51.1) (Keep.of_wr W76).1) ob77), by exact A77, Yf⟩
        · refine OD.at 205 (fun t k => zjN X73 (bd 118) (feq c156_74).1 (ziN X73 (bd 130) rfl (ziL X73 (bd 131) rfl (zkY X73 (bd 132) 188 (flt (by decide : ¬ (1 : Int32) < (1 : Int32))).2.1 (ziL X73 (bd 119) rfl (zjN X73 (bd 120) (tlt (by decide : (-1 : Int32) < (0 : Int32))).2.1 (ziN X73 (bd 121) rfl (zjN X73 (bd 122) (feq (by decide : ¬ (1 : Int32) = (0 : Int32))).1 (zaL X73 (bd 123) rfl rfl (ziN X73 (bd 124) rfl (zic X73 (bd 125) rfl #[vR va, vI 1, vI 1, vI 1, vI 1, vR b51, vI c0, vI (-1), .unset] rfl (zcB X73 (bd 126) 63 rfl k)))))))))))) ?_
          obtain ⟨cl79, Ar79, q79, S79, M79, H79, G79⟩ := id V51
          obtain ⟨T79, h79, X79, e79, W79, st79⟩ := stB X73 hx hZ e73 Ar79 (j := (0 : Int32)) (inb_of S79 ⟨by decide, by decide⟩) (g := (mkF m 205 #[vR va, vI 1, vI 1, vI 1, vI 1, vR b51, vI c0, vI (-1), .unset] [(.int 63), (.int 0), (.ref b51)])) rfl rfl (bd 127).2
          have V79 : Arv Z h79 b51 k51 .byte (3 : Int32) (own_rg (3 : Int32).toNatClampNeg (fun x => .int ((own_up own_z (0 : Int32) (63 : Int32).toInt8.toInt32) x))) (.int 0) := own_put (fun x => .int ((own_up own_z (0 : Int32) (63 : Int32).toInt8.toInt32) x)) Ar79 q79 S79 M79 H79 G79 (fits_nar_byte _) W79 ⟨by decide, by decide⟩ (congrArg Value.int (own_up_at _ _ _)) (fun x q => congrArg Value.int (own_up_ne _ _ q))
          have N79 := Fr.snoc X79 N0 (nT Z0 (nE g51))
          refine OD.go (B := (T79.setTop (mkF m 206 #[vR va, vI 1, vI 1, vI 1, vI 1, vR b51, vI c0, vI (-1), .unset] []))) st79 ?_
          refine OD.at 368 (fun t k => zgO X79 (bd 128) 295 (zgO X79 (bd 129) 352 (zgO X79 (bd 76) 58 (ziN X79 (bd 32) rfl (ziL X79 (bd 33) rfl (zkY X79 (bd 34) 355 (flt (by decide : ¬ (1 : Int32) < (1 : Int32))).2.1 (ziN X79 (bd 35) rfl (zaL X79 (bd 36) rfl rfl (zal X79 (bd 37) hZ e79 V79 (zkY X79 (bd 38) 365 (feq (by decide : ¬ (1 : Int32) = (3 : Int32))).2 (zaL X79 (bd 39) rfl rfl (ziN X79 (bd 40) rfl k)))))))))))) ?_
          refine OD.cS X79 (bd 41) hZ hown hml Wd355 Wd197 Wd198 Wd199 pd28 (rmCO hw b51 (1 : Int32) h79 n0 (nT (nT Z0 E51.1) (Keep.of_wr W79).1) k51 (3 : Int32) (own_up own_z (0 : Int32) (63 : Int32).toInt8.toInt32) V79 (by decide) (by decide) (by decide)) e79 rfl (fun v80 T80 L80 X80 hQ80 => ?_)
          obtain ⟨b80, k80', rfl, Nq80, K80, ob80, Q80, A80⟩ := hQ80
          have N80 := Fr.app N79 Nq80
          have gbb80 : n0 ≤ b80 := nT (nT (nT Z0 E51.1) (Keep.of_wr W79).1) ob80
          have Yf : Byo (1 : Int32) (own_cut (own_up own_z (0 : Int32) (63 : Int32).toInt8.toInt32) (own_min (3 : Int32) (1 : Int32))) (own_u8 c0) := by unfold own_u8; rw [if_neg c36_54, if_neg c100_59, if_neg c145_66]; exact own_byo1 (by rw [own_cutE (by decide) (by decide)]; simp [own_up, own_bb] <;> (try exact own_bid (by omega) (by have := own_lt (by assumption : c0 < (128 : Int32)); have : (128 : Int32).toInt = 128 := rfl; omega)))
          exact OD.rA X80 (bd 42) hlk hrt rfl rfl rfl ⟨_, _, _, _, rfl, N80, by exact ((((Keep.refl h0 []).ext E51).wr W79 (Or.inr (nT Nat.le.refl (nE g51)))).trans K80 all0), (nT (nT (nT Nat.le.refl E51.1) (Keep.of_wr W79).1) ob80), by exact A80, Yf⟩
def Q_rmE16_2 (Z : State) (h0 : Heap) (n0 : Nat) (c0 : Int32) (c1 : Int32) : QT := fun v h L => ∃ (b : Addr) (k : ClassId) (z : Int32) (G : Int32 → Int32), v = some (.ref b) ∧ Fr n0 L ∧ Keep h0 h [] ∧ h0.size ≤ b ∧ Arv Z h b k .byte z (own_rg z.toNatClampNeg (fun x => .int (G x))) (.int 0) ∧ Byo z G (own_u8s (own_toCodePoint c0 c1))
theorem rmE16_2 (va : Addr) (h0 : Heap) (n0 : Nat) (X00 : Old Z n0 h0) (SS : STs Z zc fm u8 hxa kh) (Z0 : n0 ≤ h0.size) (ka : ClassId) (F : Int32 → Int32) (Aa : Arv Z h0 va ka .byte (4 : Int32) (own_rg (4 : Int32).toNatClampNeg (fun x => .int (F x))) (.int 0)) (c0 c1 : Int32) (hg : own_gc F (0 : Int32) = c0) (hg1 : own_gc F (1 : Int32) = c1) (hh : ¬ own_isHighSurrogate c0 = (0 : Int32)) (hl : ¬ own_isLowSurrogate c1 = (0 : Int32)) :
    MF l hw ⟨zZ0, zZ48, "([BZ)[B"⟩ kQ56 9 (some (.array .byte)) (rO 2 2 86 58) #[(.ref va), (.int 1)] h0 (Q_rmE16_2 Z h0 n0 c0 c1) := by
  refine MF.of (pF pn3) (ef23 · va (1 : Int32)) dP75 ?_
  intro p e s m below meth c s₁ bd hlk hml hown hnm hrt hZ X0 e0
  have hx := (bd 0).1
  have N0 := Fr.nil n0
  have bh := own_hsR hh
  have bl := own_lsR hl
  have bt := own_tcp bh.1 bh.2 bl.1 bl.2
  refine OD.go (B := (s₁.setTop (mkF m 14 #[vR va, vI 1, vI 0, vI 0, vI 2, .unset, .unset, .unset, .unset] [(.int 6)]))) (fun t k => zcI X0 (bd 0) 0 rfl (zsN X0 (bd 1) #[vR va, vI 1, vI 0, .unset, .unset, .unset, .unset, .unset, .unset] rfl (zcI X0 (bd 2) 0 rfl (zsN X0 (bd 3) #[vR va, vI 1, vI 0, vI 0, .unset, .unset, .unset, .unset, .unset] rfl (zaN X0 (bd 4) rfl rfl (zal X0 (bd 5) hZ e0 Aa (zcI X0 (bd 6) 1 rfl (zishr X0 (bd 7) (zsI X0 (bd 8) #[vR va, vI 1, vI 0, vI 0, vI 2, .unset, .unset, .unset, .unset] rfl (ziL X0 (bd 9) rfl (zcI X0 (bd 10) 3 rfl (zimul X0 (bd 11) k)))))))))))) ?_
  obtain ⟨T51, h51, k51, X51, e51, E51, A51, Q51, st51⟩ := newPE X0 hx hZ (aty := .byte) (Wd19 hw) e0 (g := (mkF m 14 #[vR va, vI 1, vI 0, vI 0, vI 2, .unset, .unset, .unset, .unset] [(.int 6)])) rfl (bd 12).2 rfl (by decide) (cap := 6) (by decide) (by decide) (nl rfl) (nl rfl) (ad := "[B") (by decide)
  obtain ⟨b51, g51⟩ : ∃ z, z = h0.size := ⟨_, rfl⟩
  rw [← g51] at A51 Q51 st51
  have V51 : Arv Z h51 b51 k51 .byte (6 : Int32) (own_rg (6 : Int32).toNatClampNeg (fun x => .int (own_z x))) (.int 0) := own_fill (Arv.new A51 (by decide))
  refine OD.go (B := (T51.setTop (mkF m 16 #[vR va, vI 1, vI 0, vI 0, vI 2, .unset, .unset, .unset, .unset] [(.ref b51)]))) st51 ?_
  refine OD.at 26 (fun t k => zaS X51 (bd 13) rfl #[vR va, vI 1, vI 0, vI 0, vI 2, vR b51, .unset, .unset, .unset] rfl (ziN X51 (bd 14) rfl (ziL X51 (bd 15) rfl (zkN X51 (bd 16) (tlt (by decide : (0 : Int32) < (2 : Int32))).2.1 (zaN X51 (bd 17) rfl rfl (ziN X51 (bd 18) rfl k)))))) ?_
  have f52 := (Aa.ext E51)
  refine OD.cS X51 (bd 19) hZ hown hml Wd348 Wd308 Wd17 Wd309 pd13 (rmGC hw va (0 : Int32) h51 n0 (X00.ext E51) SS ka (4 : Int32) F f52 ⟨by decide, by decide⟩ ⟨by decide, by decide⟩) e51 rfl (fun v53 T53 L53 X53 hQ53 => ?_)
  obtain ⟨rfl, rfl, e53⟩ := hQ53
  try rw [List.append_nil] at X53
  rw [show (own_gc F (0 : Int32)) = c0 from hg]
  refine OD.at 69 (fun t k => zsI X53 (bd 20) #[vR va, vI 1, vI 0, vI 0, vI 2, vR b51, vI c0, .unset, .unset] rfl (ziL X53 (bd 21) rfl (zcS X53 (bd 22) 128 rfl (zkN X53 (bd 23) (flt (own_mle (by have : (128 : Int32).toInt = 128 := rfl; omega))).1 (zgO X53 (bd 43) 58 (ziN X53 (bd 32) rfl (ziL X53 (bd 33) rfl (zkN X53 (bd 34) (tlt (by decide : (0 : Int32) < (2 : Int32))).2.1 (zaN X53 (bd 44) rfl rfl (ziN X53 (bd 45) rfl (zic X53 (bd 46) rfl #[vR va, vI 1, vI 0, vI 1, vI 2, vR b51, vI c0, .unset, .unset] rfl k))))))))))) ?_
  refine OD.cS X53 (bd 47) hZ hown hml Wd348 Wd308 Wd17 Wd309 pd13 (rmGC hw va (0 : Int32) h51 n0 (X00.ext E51) SS ka (4 : Int32) F f52 ⟨by decide, by decide⟩ ⟨by decide, by decide⟩) e53 rfl (fun v54 T54 L54 X54 hQ54 => ?_)
  obtain ⟨rfl, rfl, e54⟩ := hQ54
  try rw [List.append_nil] at X54
  rw [show (own_gc F (0 : Int32)) = c0 from hg]
  refine OD.at 142 (fun t k => zsI X54 (bd 48) #[vR va, vI 1, vI 0, vI 1, vI 2, vR b51, vI c0, .unset, .unset] rfl (ziL X54 (bd 49) rfl (zcS X54 (bd 50) 128 rfl (zkY X54 (bd 51) 95 (flt (own_mle (by have : (128 : Int32).toInt = 128 := rfl; omega))).2.1 (ziL X54 (bd 52) rfl (zcS X54 (bd 53) 2048 rfl (zkY X54 (bd 54) 140 (flt (own_mle (by have : (2048 : Int32).toInt = 2048 := rfl; omega))).2.1 (ziL X54 (bd 77) rfl k)))))))) ?_
  refine OD.cS X54 (bd 78) hZ hown hml Wd349 Wd350 Wd120 Wd351 pd14 (rm_isSurrogate hw c0 h51) e54 rfl (fun v55 T55 L55 X55 hQ55 => ?_)
  obtain ⟨rfl, rfl, e55⟩ := hQ55
  try rw [List.append_nil] at X55
  refine OD.at 153 (fun t k => zjN X55 (bd 79) (feq (own_sgT (by omega) (by omega))).1 (zcI X55 (bd 114) (-1) rfl (zsI X55 (bd 115) #[vR va, vI 1, vI 0, vI 1, vI 2, vR b51, vI c0, vI (-1), .unset] rfl (ziL X55 (bd 116) rfl k)))) ?_
  refine OD.cS X55 (bd 117) hZ hown hml Wd352 Wd320 Wd120 Wd321 pd14 (rm_isHighSurrogate hw c0 h51) e55 rfl (fun v56 T56 L56 X56 hQ56 => ?_)
  obtain ⟨rfl, rfl, e56⟩ := hQ56
  try rw [List.append_nil] at X56
  refine OD.at 167 (fun t k => zjN X56 (bd 118) (feq hh).1 (ziN X56 (bd 130) rfl (ziL X56 (bd 131) rfl (zkN X56 (bd 132) (tlt (by decide : (1 : Int32) < (2 : Int32))).2.1 (zaN X56 (bd 133) rfl rfl (ziN X56 (bd 134) rfl k)))))) ?_
  refine OD.cS X56 (bd 135) hZ hown hml Wd348 Wd308 Wd17 Wd309 pd13 (rmGC hw va (1 : Int32) h51 n0 (X00.ext E51) SS ka (4 : Int32) F f52 ⟨by decide, by decide⟩ ⟨by decide, by decide⟩) e56 rfl (fun v57 T57 L57 X57 hQ57 => ?_)
  obtain ⟨rfl, rfl, e57⟩ := hQ57
  try rw [List.append_nil] at X57
  rw [show (own_gc F (1 : Int32)) = c1 from hg1]
  refine OD.at 173 (fun t k => XS.dup X57.here hx rfl (bd 136).2 rfl rfl (zsI X57 (bd 137) #[vR va, vI 1, vI 0, vI 1, vI 2, vR b51, vI c0, vI (-1), vI c1] rfl k)) ?_
  refine OD.cS X57 (bd 138) hZ hown hml Wd353 Wd325 Wd120 Wd326 pd14 (rm_isLowSurrogate hw c1 h51) e57 rfl (fun v58 T58 L58 X58 hQ58 => ?_)
  obtain ⟨rfl, rfl, e58⟩ := hQ58
  try rw [List.append_nil] at X58
  refine OD.at 183 (fun t k => zjN X58 (bd 139) (feq hl).1 (ziL X58 (bd 140) rfl (ziL X58 (bd 141) rfl k))) ?_
  refine OD.cS X58 (bd 142) hZ hown hml Wd354 Wd329 Wd120 Wd330 pd15 (rm_toCodePoint hw c0 c1 h51) e58 rfl (fun v59 T59 L59 X59 hQ59 => ?_)
  obtain ⟨rfl, rfl, e59⟩ := hQ59
  try rw [List.append_nil] at X59
  refine OD.at 234 (fun t k => zsI X59 (bd 143) #[vR va, vI 1, vI 0, vI 1, vI 2, vR b51, vI c0, vI ((own_toCodePoint c0 c1)), vI c1] rfl (ziL X59 (bd 119) rfl (zjY X59 (bd 120) 218 (flt (own_nneg (by omega))).2.1 (zaL X59 (bd 144) rfl rfl (ziN X59 (bd 145) rfl (zic X59 (bd 146) rfl #[vR va, vI 1, vI 1, vI 1, vI 2, vR b51, vI c0, vI ((own_toCodePoint c0 c1)), vI c1] rfl (zcS X59 (bd 147) 240 rfl (ziL X59 (bd 148) rfl (zcB X59 (bd 149) 18 rfl (zishr X59 (bd 150) (zior X59 (bd 151) (zi2b X59 (bd 152) k)))))))))))) ?_
  obtain ⟨cl61, Ar61, q61, S61, M61, H61, G61⟩ := id V51
  obtain ⟨T61, h61, X61, e61, W61, st61⟩ := stB X59 hx hZ e59 Ar61 (j := (0 : Int32)) (inb_of S61 ⟨by decide, by decide⟩) (g := (mkF m 234 #[vR va, vI 1, vI 1, vI 1, vI 2, vR b51, vI c0, vI ((own_toCodePoint c0 c1)), vI c1] [(.int ((240 : Int32) ||| ((own_toCodePoint c0 c1) >>> ((18 : Int32) &&& 31))).toInt8.toInt32), (.int 0), (.ref b51)])) rfl rfl (bd 153).2
  have V61 : Arv Z h61 b51 k51 .byte (6 : Int32) (own_rg (6 : Int32).toNatClampNeg (fun x => .int ((own_up own_z (0 : Int32) ((240 : Int32) ||| ((own_toCodePoint c0 c1) >>> ((18 : Int32) &&& 31))).toInt8.toInt32.toInt8.toInt32) x))) (.int 0) := own_put (fun x => .int ((own_up own_z (0 : Int32) ((240 : Int32) ||| ((own_toCodePoint c0 c1) >>> ((18 : Int32) &&& 31))).toInt8.toInt32.toInt8.toInt32) x)) Ar61 q61 S61 M61 H61 G61 (fits_nar_byte _) W61 ⟨by decide, by decide⟩ (congrArg Value.int (own_up_at _ _ _)) (fun x q => congrArg Value.int (own_up_ne _ _ q))
  have N61 := Fr.snoc X61 N0 (nT Z0 (nE g51))
  refine OD.go (B := (T61.setTop (mkF m 235 #[vR va, vI 1, vI 1, vI 1, vI 2, vR b51, vI c0, vI ((own_toCodePoint c0 c1)), vI c1] []))) st61 ?_
  refine OD.at 254 (fun t k => zaL X61 (bd 154) rfl rfl (ziN X61 (bd 155) rfl (zic X61 (bd 156) rfl #[vR va, vI 1, vI 2, vI 1, vI 2, vR b51, vI c0, vI ((own_toCodePoint c0 c1)), vI c1] rfl (zcS X61 (bd 157) 128 rfl (ziL X61 (bd 158) rfl (zcB X61 (bd 159) 12 rfl (zishr X61 (bd 160) (zcB X61 (bd 161) 63 rfl (ziand X61 (bd 162) (zior X61 (bd 163) (zi2b X61 (bd 164) k))))))))))) ?_
  obtain ⟨cl63, Ar63, q63, S63, M63, H63, G63⟩ := id V61
  obtain ⟨T63, h63, X63, e63, W63, st63⟩ := stB X61 hx hZ e61 Ar63 (j := (1 : Int32)) (inb_of S63 ⟨by decide, by decide⟩) (g := (mkF m 254 #[vR va, vI 1, vI 2, vI 1, vI 2, vR b51, vI c0, vI ((own_toCodePoint c0 c1)), vI c1] [(.int ((128 : Int32) ||| (((own_toCodePoint c0 c1) >>> ((12 : Int32) &&& 31)) &&& (63 : Int32))).toInt8.toInt32), (.int 1), (.ref b51)])) rfl rfl (bd 165).2
  have V63 : Arv Z h63 b51 k51 .byte (6 : Int32) (own_rg (6 : Int32).toNatClampNeg (fun x => .int ((own_up (own_up own_z (0 : Int32) ((240 : Int32) ||| ((own_toCodePoint c0 c1) >>> ((18 : Int32) &&& 31))).toInt8.toInt32.toInt8.toInt32) (1 : Int32) ((128 : Int32) ||| (((own_toCodePoint c0 c1) >>> ((12 : Int32) &&& 31)) &&& (63 : Int32))).toInt8.toInt32.toInt8.toInt32) x))) (.int 0) := own_put (fun x => .int ((own_up (own_up own_z (0 : Int32) ((240 : Int32) ||| ((own_toCodePoint c0 c1) >>> ((18 : Int32) &&& 31))).toInt8.toInt32.toInt8.toInt32) (1 : Int32) ((128 : Int32) ||| (((own_toCodePoint c0 c1) >>> ((12 : Int32) &&& 31)) &&& (63 : Int32))).toInt8.toInt32.toInt8.toInt32) x)) Ar63 q63 S63 M63 H63 G63 (fits_nar_byte _) W63 ⟨by decide, by decide⟩ (congrArg Value.int (own_up_at _ _ _)) (fun x q => congrArg Value.int (own_up_ne _ _ q))
  have N63 := Fr.snoc X63 N61 (nT Z0 (nE g51))
  refine OD.go (B := (T63.setTop (mkF m 255 #[vR va, vI 1, vI 2, vI 1, vI 2, vR b51, vI c0, vI ((own_toCodePoint c0 c1)), vI c1] []))) st63 ?_
  refine OD.at 274 (fun t k => zaL X63 (bd 166) rfl rfl (ziN X63 (bd 167) rfl (zic X63 (bd 168) rfl #[vR va, vI 1, vI 3, vI 1, vI 2, vR b51, vI c0, vI ((own_toCodePoint c0 c1)), vI c1] rfl (zcS X63 (bd 169) 128 rfl (ziL X63 (bd 170) rfl (zcB X63 (bd 171) 6 rfl (zishr X63 (bd 172) (zcB X63 (bd 173) 63 rfl (ziand X63 (bd 174) (zior X63 (bd 175) (zi2b X63 (bd 176) k))))))))))) ?_
  obtain ⟨cl65, Ar65, q65, S65, M65, H65, G65⟩ := id V63
  obtain ⟨T65, h65, X65, e65, W65, st65⟩ := stB X63 hx hZ e63 Ar65 (j := (2 : Int32)) (inb_of S65 ⟨by decide, by decide⟩) (g := (mkF m 274 #[vR va, vI 1, vI 3, vI 1, vI 2, vR b51, vI c0, vI ((own_toCodePoint c0 c1)), vI c1] [(.int ((128 : Int32) ||| (((own_toCodePoint c0 c1) >>> ((6 : Int32) &&& 31)) &&& (63 : Int32))).toInt8.toInt32), (.int 2), (.ref b51)])) rfl rfl (bd 177).2
  have V65 : Arv Z h65 b51 k51 .byte (6 : Int32) (own_rg (6 : Int32).toNatClampNeg (fun x => .int ((own_up (own_up (own_up own_z (0 : Int32) ((240 : Int32) ||| ((own_toCodePoint c0 c1) >>> ((18 : Int32) &&& 31))).toInt8.toInt32.toInt8.toInt32) (1 : Int32) ((128 : Int32) ||| (((own_toCodePoint c0 c1) >>> ((12 : Int32) &&& 31)) &&& (63 : Int32))).toInt8.toInt32.toInt8.toInt32) (2 : Int32) ((128 : Int32) ||| (((own_toCodePoint c0 c1) >>> ((6 : Int32) &&& 31)) &&& (63 : Int32))).toInt8.toInt32.toInt8.toInt32) x))) (.int 0) := own_put (fun x => .int ((own_up (own_up (own_up own_z (0 : Int32) ((240 : Int32) ||| ((own_toCodePoint c0 c1) >>> ((18 : Int32) &&& 31))).toInt8.toInt32.toInt8.toInt32) (1 : Int32) ((128 : Int32) ||| (((own_toCodePoint c0 c1) >>> ((12 : Int32) &&& 31)) &&& (63 : Int32))).toInt8.toInt32.toInt8.toInt32) (2 : Int32) ((128 : Int32) ||| (((own_toCodePoint c0 c1) >>> ((6 : Int32) &&& 31)) &&& (63 : Int32))).toInt8.toInt32.toInt8.toInt32) x)) Ar65 q65 S65 M65 H65 G65 (fits_nar_byte _) W65 ⟨by decide, by decide⟩ (congrArg Value.int (own_up_at _ _ _)) (fun x q => congrArg Value.int (own_up_ne _ _ q))
  have N65 := Fr.snoc X65 N63 (nT Z0 (nE g51))
  refine OD.go (B := (T65.setTop (mkF m 275 #[vR va, vI 1, vI 3, vI 1, vI 2, vR b51, vI c0, vI ((own_toCodePoint c0 c1)), vI c1] []))) st65 ?_
  refine OD.at 291 (fun t k => zaL X65 (bd 178) rfl rfl (ziN X65 (bd 179) rfl (zic X65 (bd 180) rfl #[vR va, vI 1, vI 4, vI 1, vI 2, vR b51, vI c0, vI ((own_toCodePoint c0 c1)), vI c1] rfl (zcS X65 (bd 181) 128 rfl (ziL X65 (bd 182) rfl (zcB X65 (bd 183) 63 rfl (ziand X65 (bd 184) (zior X65 (bd 185) (zi2b X65 (bd 186) k))))))))) ?_
  obtain ⟨cl67, Ar67, q67, S67, M67, H67, G67⟩ := id V65
  obtain ⟨T67, h67, X67, e67, W67, st67⟩ := stB X65 hx hZ e65 Ar67 (j := (3 : Int32)) (inb_of S67 ⟨by decide, by decide⟩) (g := (mkF m 291 #[vR va, vI 1, vI 4, vI 1, vI 2, vR b51, vI c0, vI ((own_toCodePoint c0 c1)), vI c1] [(.int ((128 : Int32) ||| ((own_toCodePoint c0 c1) &&& (63 : Int32))).toInt8.toInt32), (.int 3), (.ref b51)])) rfl rfl (bd 187).2
  have V67 : Arv Z h67 b51 k51 .byte (6 : Int32) (own_rg (6 : Int32).toNatClampNeg (fun x => .int ((own_up (own_up (own_up (own_up own_z (0 : Int32) ((240 : Int32) ||| ((own_toCodePoint c0 c1) >>> ((18 : Int32) &&& 31))).toInt8.toInt32.toInt8.toInt32) (1 : Int32) ((128 : Int32) ||| (((own_toCodePoint c0 c1) >>> ((12 : Int32) &&& 31)) &&& (63 : Int32))).toInt8.toInt32.toInt8.toInt32) (2 : Int32) ((128 : Int32) ||| (((own_toCodePoint c0 c1) >>> ((6 : Int32) &&& 31)) &&& (63 : Int32))).toInt8.toInt32.toInt8.toInt32) (3 : Int32) ((128 : Int32) ||| ((own_toCodePoint c0 c1) &&& (63 : Int32))).toInt8.toInt32.toInt8.toInt32) x))) (.int 0) := own_put (fun x => .int ((own_up (own_up (own_up (own_up own_z (0 : Int32) ((240 : Int32) ||| ((own_toCodePoint c0 c1) >>> ((18 : Int32) &&& 31))).toInt8.toInt32.toInt8.toInt32) (1 : Int32) ((128 : Int32) ||| (((own_toCodePoint c0 c1) >>> ((12 : Int32) &&& 31)) &&& (63 : Int32))).toInt8.toInt32.toInt8.toInt32) (2 : Int32) ((128 : Int32) ||| (((own_toCodePoint c0 c1) >>> ((6 : Int32) &&& 31)) &&& (63 : Int32))).toInt8.toInt32.toInt8.toInt32) (3 : Int32) ((128 : Int32) ||| ((own_toCodePoint c0 c1) &&& (63 : Int32))).toInt8.toInt32.toInt8.toInt32) x)) Ar67 q67 S67 M67 H67 G67 (fits_nar_byte _) W67 ⟨by decide, by decide⟩ (congrArg Value.int (own_up_at _ _ _)) (fun x q => congrArg Value.int (own_up_ne _ _ q))
  have N67 := Fr.snoc X67 N65 (nT Z0 (nE g51))
  refine OD.go (B := (T67.setTop (mkF m 292 #[vR va, vI 1, vI 4, vI 1, vI 2, vR b51, vI c0, vI ((own_toCodePoint c0 c1)), vI c1] []))) st67 ?_
  refine OD.at 368 (fun t k => zic X67 (bd 188) rfl #[vR va, vI 1, vI 4, vI 2, vI 2, vR b51, vI c0, vI ((own_toCodePoint c0 c1)), vI c1] rfl (zgO X67 (bd 129) 352 (zgO X67 (bd 76) 58 (ziN X67 (bd 32) rfl (ziL X67 (bd 33) rfl (zkY X67 (bd 34) 355 (flt (by decide : ¬ (2 : Int32) < (2 : Int32))).2.1 (ziN X67 (bd 35) rfl (zaL X67 (bd 36) rfl rfl (zal X67 (bd 37) hZ e67 V67 (zkY X67 (bd 38) 365 (feq (by decide : ¬ (4 : Int32) = (6 : Int32))).2 (zaL X67 (bd 39) rfl rfl (ziN X67 (bd 40) rfl k)))))))))))) ?_
  refine OD.cS X67 (bd 41) hZ hown hml Wd355 Wd197 Wd198 Wd199 pd28 (rmCO hw b51 (4 : Int32) h67 n0 (nT (nT (nT (nT (nT Z0 E51.1) (Keep.of_wr W61).1) (Keep.of_wr W63).1) (Keep.of_wr W65).1) (Keep.of_wr W67).1) k51 (6 : Int32) (own_up (own_up (own_up (own_up own_z (0 : Int32) ((240 : Int32) ||| ((own_toCodePoint c0 c1) >>> ((18 : Int32) &&& 31))).toInt8.toInt32.toInt8.toInt32) (1 : Int32) ((128 : Int32) ||| (((own_toCodePoint c0 c1) >>> ((12 : Int32) &&& 31)) &&& (63 : Int32))).toInt8.toInt32.toInt8.toInt32) (2 : Int32) ((128 : Int32) ||| (((own_toCodePoint c0 c1) >>> ((6 : Int32) &&& 31)) &&& (63 : Int32))).toInt8.toInt32.toInt8.toInt32) (3 : Int32) ((128 : Int32) ||| ((own_toCodePoint c0 c1) &&& (63 : Int32))).toInt8.toInt32.toInt8.toInt32) V67 (by decide) (by decide) (by decide)) e67 rfl (fun v68 T68 L68 X68 hQ68 => ?_)
  obtain ⟨b68, k68', rfl, Nq68, K68, ob68, Q68, A68⟩ := hQ68
  have N68 := Fr.app N67 Nq68
  have gbb68 : n0 ≤ b68 := nT (nT (nT (nT (nT (nT Z0 E51.1) (Keep.of_wr W61).1) (Keep.of_wr W63).1) (Keep.of_wr W65).1) (Keep.of_wr W67).1) ob68
  have Yf : Byo (4 : Int32) (own_cut (own_up (own_up (own_up (own_up own_z (0 : Int32) ((240 : Int32) ||| ((own_toCodePoint c0 c1) >>> ((18 : Int32) &&& 31))).toInt8.toInt32.toInt8.toInt32) (1 : Int32) ((128 : Int32) ||| (((own_toCodePoint c0 c1) >>> ((12 : Int32) &&& 31)) &&& (63 : Int32))).toInt8.toInt32.toInt8.toInt32) (2 : Int32) ((128 : Int32) ||| (((own_toCodePoint c0 c1) >>> ((6 : Int32) &&& 31)) &&& (63 : Int32))).toInt8.toInt32.toInt8.toInt32) (3 : Int32) ((128 : Int32) ||| ((own_toCodePoint c0 c1) &&& (63 : Int32))).toInt8.toInt32.toInt8.toInt32) (own_min (6 : Int32) (4 : Int32))) (own_u8s (own_toCodePoint c0 c1)) := by unfold own_u8s; exact own_byo4 (by rw [own_cutE (by decide) (by decide)]; simp [own_up, own_bb]) (by rw [own_cutE (by decide) (by decide)]; simp [own_up, own_bb]) (by rw [own_cutE (by decide) (by decide)]; simp [own_up, own_bb]) (by rw [own_cutE (by decide) (by decide)]; simp [own_up, own_bb])
  exact OD.rA X68 (bd 42) hlk hrt rfl rfl rfl ⟨_, _, _, _, rfl, N68, by exact (((((((Keep.refl h0 []).ext E51).wr W61 (Or.inr (nT Nat.le.refl (nE g51)))).wr W63 (Or.inr (nT Nat.le.refl (nE g51)))).wr W65 (Or.inr (nT Nat.le.refl (nE g51)))).wr W67 (Or.inr (nT Nat.le.refl (nE g51)))).trans K68 all0), (nT (nT (nT (nT (nT (nT Nat.le.refl E51.1) (Keep.of_wr W61).1) (Keep.of_wr W63).1) (Keep.of_wr W65).1) (Keep.of_wr W67).1) ob68), by exact A68, Yf⟩
def Q_rmE8_0 (Z : State) (h0 : Heap) (n0 : Nat) (c0 : Int32) : QT := fun v h L => ∃ (b : Addr) (k : ClassId) (z : Int32) (G : Int32 → Int32), v = some (.ref b) ∧ Fr n0 L ∧ Keep h0 h [] ∧ h0.size ≤ b ∧ Arv Z h b k .byte z (own_rg z.toNatClampNeg (fun x => .int (G x))) (.int 0) ∧ Byo z G (own_u8 c0)
theorem rmE8_0 (va : Addr) (h0 : Heap) (n0 : Nat) (X00 : Old Z n0 h0) (SS : STs Z zc fm u8 hxa kh) (Z0 : n0 ≤ h0.size) (ka : ClassId) (F : Int32 → Int32) (Aa : Arv Z h0 va ka .byte (1 : Int32) (own_rg (1 : Int32).toNatClampNeg (fun x => .int (F x))) (.int 0)) (Ea : Exa Z h0 va "[B") (c0 : Int32) (hg : (F (0 : Int32)) = c0.toInt8.toInt32) (u0 : 0 ≤ c0.toInt) (w0 : c0.toInt ≤ 255) :
    MF l hw ⟨zZ0, zZ35, "(B[BZ)[B"⟩ kQ57 9 (some (.array .byte)) (rO 3 2 86 82) #[(.int 0), (.ref va), (.int 1)] h0 (Q_rmE8_0 Z h0 n0 c0) := by
  refine MF.of (pF pn3) (ef24 · (0 : Int32) va (1 : Int32)) dP29 ?_
  intro p e s m below meth c s₁ bd hlk hml hown hnm hrt hZ X0 e0
  have hx := (bd 0).1
  have N0 := Fr.nil n0
  by_cases hF : (F (0 : Int32)) < (0 : Int32)
  · skip
    refine OD.at 15 (fun t k => ziN X0 (bd 0) rfl (zcI X0 (bd 1) 1 rfl (zkY X0 (bd 2) 11 (feq (by decide : ¬ (0 : Int32) = (1 : Int32))).2 (zaN X0 (bd 3) rfl rfl (zcI X0 (bd 4) 0 rfl (zaN X0 (bd 5) rfl rfl (zal X0 (bd 6) hZ e0 Aa k))))))) ?_
    refine OD.cS X0 (bd 7) hZ hown hml Wd141 Wd142 Wd143 Wd144 pd29 (rmHN1 hw va h0 ka F Aa hF) e0 rfl (fun v51 T51 L51 X51 hQ51 => ?_)
    obtain ⟨rfl, rfl, e51⟩ := hQ51
    try rw [List.append_nil] at X51
    refine OD.at 33 (fun t k => zjY X51 (bd 8) 29 (feq (by decide : ¬ (1 : Int32) = (0 : Int32))).2 (zcI X51 (bd 9) 0 rfl (zsN X51 (bd 10) #[vI 0, vR va, vI 1, vI 0, .unset, .unset, .unset, .unset, .unset] rfl (zaN X51 (bd 11) rfl rfl (zal X51 (bd 12) hZ e51 Aa k))))) ?_
    refine OD.cS X51 (bd 13) hZ hown hml Wd290 Wd291 Wd17 Wd292 pd21 (rmNBF hw (1 : Int32) h0 n0 Z0 (2 : Int32) rfl (by decide) (by decide)) e51 rfl (fun v52 T52 L52 X52 hQ52 => ?_)
    obtain ⟨b52, k52', rfl, Nq52, K52, ob52, Q52, A52⟩ := hQ52
    have N52 := Fr.app N0 Nq52
    have gbb52 : n0 ≤ b52 := nT Z0 ob52
    refine OD.at 43 (fun t k => zaS X52 (bd 14) rfl #[vI 0, vR va, vI 1, vI 0, vR b52, .unset, .unset, .unset, .unset] rfl (zaN X52 (bd 15) rfl rfl (zaS X52 (bd 16) rfl #[vI 0, vR va, vI 1, vI 0, vR b52, vR va, .unset, .unset, .unset] rfl (zaL X52 (bd 17) rfl rfl k)))) ?_
    have f53 := (Aa.keep K52 nin0)
    refine OD.at 60 (fun t k => zal X52 (bd 18) hZ rfl f53 (zsI X52 (bd 19) #[vI 0, vR va, vI 1, vI 0, vR b52, vR va, vI 1, .unset, .unset] rfl (zcI X52 (bd 20) 0 rfl (zsI X52 (bd 21) #[vI 0, vR va, vI 1, vI 0, vR b52, vR va, vI 1, vI 0, .unset] rfl (ziL X52 (bd 22) rfl (ziL X52 (bd 23) rfl (zkN X52 (bd 24) (tlt (by decide : (0 : Int32) < (1 : Int32))).2.1 (zaL X52 (bd 25) rfl rfl (ziL X52 (bd 26) rfl k))))))))) ?_
    obtain ⟨cl54, Ar54, hi54, ha54⟩ := own_at f53 (j := (0 : Int32)) (v := (.int (F (0 : Int32)))) ⟨by decide, by decide⟩ (own_rg_at ⟨by decide, by decide⟩ _ _)
    refine OD.at 85 (fun t k => X52.baloadBytes hx (j := (0 : Int32)) (v := (.int (F (0 : Int32)))) (by exact Ar54.1) (State.isArrayOf_alike hZ.alike Ar54.2.1) Ar54.2.2 hi54 ha54 (g := (mkF m 60 #[vI 0, vR va, vI 1, vI 0, vR b52, vR va, vI 1, vI 0, .unset] [(.int 0), (.ref va)])) rfl rfl (bd 27).2 _ (zsI X52 (bd 28) #[vI 0, vR va, vI 1, vI 0, vR b52, vR va, vI 1, vI 0, vI ((F (0 : Int32)))] rfl (ziL X52 (bd 29) rfl (zjN X52 (bd 30) (tlt hF).2.1 (zaL X52 (bd 31) rfl rfl (ziN X52 (bd 32) rfl (zic X52 (bd 33) rfl #[vI 0, vR va, vI 1, vI 1, vR b52, vR va, vI 1, vI 0, vI ((F (0 : Int32)))] rfl (zcS X52 (bd 34) 192 rfl (ziL X52 (bd 35) rfl (zcS X52 (bd 36) 255 rfl (ziand X52 (bd 37) (zcB X52 (bd 38) 6 rfl k)))))))))))) ?_
    refine OD.at 88 (fun t k => zishr X52 (bd 39) (zior X52 (bd 40) (zi2b X52 (bd 41) k))) ?_
    obtain ⟨cl56, Ar56, q56, S56, M56, H56, G56⟩ := id A52
    obtain ⟨T56, h56, X56, e56, W56, st56⟩ := stB X52 hx hZ rfl Ar56 (j := (0 : Int32)) (inb_of S56 ⟨by decide, by decide⟩) (g := (mkF m 88 #[vI 0, vR va, vI 1, vI 1, vR b52, vR va, vI 1, vI 0, vI ((F (0 : Int32)))] [(.int ((192 : Int32) ||| (((F (0 : Int32)) &&& (255 : Int32)) >>> ((6 : Int32) &&& 31))).toInt8.toInt32), (.int 0), (.ref b52)])) rfl rfl (bd 42).2
    have V56 : Arv Z h56 b52 k52' .byte (2 : Int32) (own_rg (2 : Int32).toNatClampNeg (fun x => .int ((own_up own_z (0 : Int32) ((192 : Int32) ||| (((F (0 : Int32)) &&& (255 : Int32)) >>> ((6 : Int32) &&& 31))).toInt8.toInt32.toInt8.toInt32) x))) (.int 0) := own_put (fun x => .int ((own_up own_z (0 : Int32) ((192 : Int32) ||| (((F (0 : Int32)) &&& (255 : Int32)) >>> ((6 : Int32) &&& 31))).toInt8.toInt32.toInt8.toInt32) x)) Ar56 q56 S56 M56 H56 G56 (fits_nar_byte _) W56 ⟨by decide, by decide⟩ (congrArg Value.int (own_up_at _ _ _)) (fun x q => congrArg Value.int (own_up_ne _ _ q))
    have N56 := Fr.snoc X56 N52 gbb52
    refine OD.go (B := (T56.setTop (mkF m 89 #[vI 0, vR va, vI 1, vI 1, vR b52, vR va, vI 1, vI 0, vI ((F (0 : Int32)))] []))) st56 ?_
    refine OD.at 105 (fun t k => zaL X56 (bd 43) rfl rfl (ziN X56 (bd 44) rfl (zic X56 (bd 45) rfl #[vI 0, vR va, vI 1, vI 2, vR b52, vR va, vI 1, vI 0, vI ((F (0 : Int32)))] rfl (zcS X56 (bd 46) 128 rfl (ziL X56 (bd 47) rfl (zcB X56 (bd 48) 63 rfl (ziand X56 (bd 49) (zior X56 (bd 50) (zi2b X56 (bd 51) k))))))))) ?_
    obtain ⟨cl58, Ar58, q58, S58, M58, H58, G58⟩ := id V56
    obtain ⟨T58, h58, X58, e58, W58, st58⟩ := stB X56 hx hZ e56 Ar58 (j := (1 : Int32)) (inb_of S58 ⟨by decide, by decide⟩) (g := (mkF m 105 #[vI 0, vR va, vI 1, vI 2, vR b52, vR va, vI 1, vI 0, vI ((F (0 : Int32)))] [(.int ((128 : Int32) ||| ((F (0 : Int32)) &&& (63 : Int32))).toInt8.toInt32), (.int 1), (.ref b52)])) rfl rfl (bd 52).2
    have V58 : Arv Z h58 b52 k52' .byte (2 : Int32) (own_rg (2 : Int32).toNatClampNeg (fun x => .int ((own_up (own_up own_z (0 : Int32) ((192 : Int32) ||| (((F (0 : Int32)) &&& (255 : Int32)) >>> ((6 : Int32) &&& 31))).toInt8.toInt32.toInt8.toInt32) (1 : Int32) ((128 : Int32) ||| ((F (0 : Int32)) &&& (63 : Int32))).toInt8.toInt32.toInt8.toInt32) x))) (.int 0) := own_put (fun x => .int ((own_up (own_up own_z (0 : Int32) ((192 : Int32) ||| (((F (0 : Int32)) &&& (255 : Int32)) >>> ((6 : Int32) &&& 31))).toInt8.toInt32.toInt8.toInt32) (1 : Int32) ((128 : Int32) ||| ((F (0 : Int32)) &&& (63 : Int32))).toInt8.toInt32.toInt8.toInt32) x)) Ar58 q58 S58 M58 H58 G58 (fits_nar_byte _) W58 ⟨by decide, by decide⟩ (congrArg Value.int (own_up_at _ _ _)) (fun x q => congrArg Value.int (own_up_ne _ _ q))
    have N58 := Fr.snoc X58 N56 gbb52
    refine OD.go (B := (T58.setTop (mkF m 106 #[vI 0, vR va, vI 1, vI 2, vR b52, vR va, vI 1, vI 0, vI ((F (0 : Int32)))] []))) st58 ?_
    refine OD.at 133 (fun t k => zgO X58 (bd 53) 118 (zic X58 (bd 54) rfl #[vI 0, vR va, vI 1, vI 2, vR b52, vR va, vI 1, vI 1, vI ((F (0 : Int32)))] rfl (zgO X58 (bd 55) 49 (ziL X58 (bd 22) rfl (ziL X58 (bd 23) rfl (zkY X58 (bd 24) 124 (flt (by decide : ¬ (1 : Int32) < (1 : Int32))).2.1 (ziN X58 (bd 56) rfl (zaL X58 (bd 57) rfl rfl (zal X58 (bd 58) hZ e58 V58 (zkN X58 (bd 59) (teq (by decide : (2 : Int32) = (2 : Int32))).2 (zaL X58 (bd 60) rfl rfl k))))))))))) ?_
    exact OD.rA X58 (bd 61) hlk hrt rfl rfl rfl ⟨_, _, _, _, rfl, N58, by rw [e58]; exact ((((Keep.refl h0 []).trans K52 all0).wr W56 (Or.inr (nT Nat.le.refl ob52))).wr W58 (Or.inr (nT Nat.le.refl ob52))), (nT Nat.le.refl ob52), by rw [e58]; exact V58, own_u8b hg u0 w0 hF⟩
  · skip
    refine OD.at 15 (fun t k => ziN X0 (bd 0) rfl (zcI X0 (bd 1) 1 rfl (zkY X0 (bd 2) 11 (feq (by decide : ¬ (0 : Int32) = (1 : Int32))).2 (zaN X0 (bd 3) rfl rfl (zcI X0 (bd 4) 0 rfl (zaN X0 (bd 5) rfl rfl (zal X0 (bd 6) hZ e0 Aa k))))))) ?_
    refine OD.cS X0 (bd 7) hZ hown hml Wd141 Wd142 Wd143 Wd144 pd29 (rmHN0 hw va h0 ka F Aa hF) e0 rfl (fun v59 T59 L59 X59 hQ59 => ?_)
    obtain ⟨rfl, rfl, e59⟩ := hQ59
    try rw [List.append_nil] at X59
    refine OD.at 22 (fun t k => zjN X59 (bd 8) (teq (by decide : (0 : Int32) = (0 : Int32))).2 (zaN X59 (bd 62) rfl rfl k)) ?_
    obtain ⟨cl60, Ar60, FC60, S60, mk60⟩ := own_fit Aa
    obtain ⟨T60, h60, X60, e60, E60, A60, Q60, st60⟩ := cloneA X59 hx hZ hown (Wd148 hw) (Wd149 hw) (Wd153 hw) (Wd151 hw) (Wd152 hw) (Wd154 hw) e59 Ar60 Ea FC60 (g := (mkF m 22 #[vI 0, vR va, vI 1, .unset, .unset, .unset, .unset, .unset, .unset] [(.ref va)])) rfl (by rw [hml]; rfl) rfl (bd 63).2 (by decide) (W := 0) (by show 2 * 0 + _ ≤ _; exact Nat.le_of_eq rfl) (by decide) (cap := 1) (by rw [S60]; decide) (nl rfl) (nl rfl)
    obtain ⟨b60, g60⟩ : ∃ z, z = h0.size := ⟨_, rfl⟩
    rw [← g60] at A60 Q60 st60
    have V60 := mk60 A60
    refine OD.go (B := (T60.setTop (mkF m 25 #[vI 0, vR va, vI 1, .unset, .unset, .unset, .unset, .unset, .unset] [(.ref b60)]))) st60 ?_
    obtain ⟨T61, X61, e61, st61⟩ := castY X60 hx hZ hown (Wd155 hw) e60 (Ins.self Q60) (g := (mkF m 25 #[vI 0, vR va, vI 1, .unset, .unset, .unset, .unset, .unset, .unset] [(.ref b60)])) rfl rfl (bd 64).2
    refine OD.go (B := (T61.setTop (mkF m 28 #[vI 0, vR va, vI 1, .unset, .unset, .unset, .unset, .unset, .unset] [(.ref b60)]))) st61 ?_
    exact OD.rA X61 (bd 65) hlk hrt rfl rfl rfl ⟨_, _, _, _, rfl, N0, by rw [e61]; exact ((Keep.refl h0 []).ext E60), (nT Nat.le.refl (nE g60)), by rw [e61]; exact V60, own_u8a hg u0 w0 hF⟩
def Q_rmE8_1 (Z : State) (h0 : Heap) (n0 : Nat) (c0 : Int32) : QT := fun v h L => ∃ (b : Addr) (k : ClassId) (z : Int32) (G : Int32 → Int32), v = some (.ref b) ∧ Fr n0 L ∧ Keep h0 h [] ∧ h0.size ≤ b ∧ Arv Z h b k .byte z (own_rg z.toNatClampNeg (fun x => .int (G x))) (.int 0) ∧ Byo z G (own_u8 c0)
theorem rmE8_1 (va : Addr) (h0 : Heap) (n0 : Nat) (X00 : Old Z n0 h0) (SS : STs Z zc fm u8 hxa kh) (Z0 : n0 ≤ h0.size) (ka : ClassId) (F : Int32 → Int32) (Aa : Arv Z h0 va ka .byte (2 : Int32) (own_rg (2 : Int32).toNatClampNeg (fun x => .int (F x))) (.int 0)) (c0 : Int32) (hg : own_gc F (0 : Int32) = c0) (u0 : 0 ≤ c0.toInt) (w0 : c0.toInt ≤ 65535) :
    MF l hw ⟨zZ0, zZ35, "(B[BZ)[B"⟩ kQ57 9 (some (.array .byte)) (rO 3 2 86 82) #[(.int 1), (.ref va), (.int 1)] h0 (Q_rmE8_1 Z h0 n0 c0) := by
  refine MF.of (pF pn3) (ef24 · (1 : Int32) va (1 : Int32)) dP29 ?_
  intro p e s m below meth c s₁ bd hlk hml hown hnm hrt hZ X0 e0
  have N0 := Fr.nil n0
  refine OD.at 7 (fun t k => ziN X0 (bd 0) rfl (zcI X0 (bd 1) 1 rfl (zkN X0 (bd 2) (teq (by decide : (1 : Int32) = (1 : Int32))).2 (zaN X0 (bd 66) rfl rfl (ziN X0 (bd 67) rfl k))))) ?_
  refine OD.cS X0 (bd 68) hZ hown hml Wd345 Wd346 Wd3 Wd347 pd30 (rmE16_1 hw va h0 n0 X00 SS Z0 ka F Aa c0 hg u0 w0) e0 rfl (fun v51 T51 L51 X51 hQ51 => ?_)
  obtain ⟨b51, k51', z51, G51, rfl, Nq51, K51, ob51, A51, Y51⟩ := hQ51
  have N51 := Fr.app N0 Nq51
  have gbb51 : n0 ≤ b51 := nT Z0 ob51
  exact OD.rA X51 (bd 69) hlk hrt rfl rfl rfl ⟨_, _, _, _, rfl, N51, by exact ((Keep.refl h0 []).trans K51 all0), (nT Nat.le.refl ob51), by exact A51, Y51⟩
def Q_rmE8_2 (Z : State) (h0 : Heap) (n0 : Nat) (c0 : Int32) (c1 : Int32) : QT := fun v h L => ∃ (b : Addr) (k : ClassId) (z : Int32) (G : Int32 → Int32), v = some (.ref b) ∧ Fr n0 L ∧ Keep h0 h [] ∧ h0.size ≤ b ∧ Arv Z h b k .byte z (own_rg z.toNatClampNeg (fun x => .int (G x))) (.int 0) ∧ Byo z G (own_u8s (own_toCodePoint c0 c1))
theorem rmE8_2 (va : Addr) (h0 : Heap) (n0 : Nat) (X00 : Old Z n0 h0) (SS : STs Z zc fm u8 hxa kh) (Z0 : n0 ≤ h0.size) (ka : ClassId) (F : Int32 → Int32) (Aa : Arv Z h0 va ka .byte (4 : Int32) (own_rg (4 : Int32).toNatClampNeg (fun x => .int (F x))) (.int 0)) (c0 c1 : Int32) (hg : own_gc F (0 : Int32) = c0) (hg1 : own_gc F (1 : Int32) = c1) (hh : ¬ own_isHighSurrogate c0 = (0 : Int32)) (hl : ¬ own_isLowSurrogate c1 = (0 : Int32)) :
    MF l hw ⟨zZ0, zZ35, "(B[BZ)[B"⟩ kQ57 9 (some (.array .byte)) (rO 3 2 86 82) #[(.int 1), (.ref va), (.int 1)] h0 (Q_rmE8_2 Z h0 n0 c0 c1) := by
  refine MF.of (pF pn3) (ef24 · (1 : Int32) va (1 : Int32)) dP29 ?_
  intro p e s m below meth c s₁ bd hlk hml hown hnm hrt hZ X0 e0
  have N0 := Fr.nil n0
  refine OD.at 7 (fun t k => ziN X0 (bd 0) rfl (zcI X0 (bd 1) 1 rfl (zkN X0 (bd 2) (teq (by decide : (1 : Int32) = (1 : Int32))).2 (zaN X0 (bd 66) rfl rfl (ziN X0 (bd 67) rfl k))))) ?_
  refine OD.cS X0 (bd 68) hZ hown hml Wd345 Wd346 Wd3 Wd347 pd30 (rmE16_2 hw va h0 n0 X00 SS Z0 ka F Aa c0 c1 hg hg1 hh hl) e0 rfl (fun v51 T51 L51 X51 hQ51 => ?_)
  obtain ⟨b51, k51', z51, G51, rfl, Nq51, K51, ob51, A51, Y51⟩ := hQ51
  have N51 := Fr.app N0 Nq51
  have gbb51 : n0 ≤ b51 := nT Z0 ob51
  exact OD.rA X51 (bd 69) hlk hrt rfl rfl rfl ⟨_, _, _, _, rfl, N51, by exact ((Keep.refl h0 []).trans K51 all0), (nT Nat.le.refl ob51), by exact A51, Y51⟩
def Q_rmEN_0 (Z : State) (h0 : Heap) (n0 : Nat) (c0 : Int32) : QT := fun v h L => ∃ (b : Addr) (k : ClassId) (z : Int32) (G : Int32 → Int32), v = some (.ref b) ∧ Fr n0 L ∧ Keep h0 h [] ∧ h0.size ≤ b ∧ Arv Z h b k .byte z (own_rg z.toNatClampNeg (fun x => .int (G x))) (.int 0) ∧ Byo z G (own_u8 c0)
theorem rmEN_0 (ux : Addr) (va : Addr) (h0 : Heap) (n0 : Nat) (X00 : Old Z n0 h0) (SS : STs Z zc fm u8 hxa kh) (Z0 : n0 ≤ h0.size) (ka : ClassId) (F : Int32 → Int32) (Aa : Arv Z h0 va ka .byte (1 : Int32) (own_rg (1 : Int32).toNatClampNeg (fun x => .int (F x))) (.int 0)) (Ea : Exa Z h0 va "[B") (c0 : Int32) (hg : (F (0 : Int32)) = c0.toInt8.toInt32) (u0 : 0 ≤ c0.toInt) (w0 : c0.toInt ≤ 255) (hu : ux = u8) :
    MF l hw ⟨zZ0, "encode", zZ36⟩ kQ58 3 (some (.array .byte)) (rO 4 2 86 106) #[(.ref ux), (.int 0), (.ref va)] h0 (Q_rmEN_0 Z h0 n0 c0) := by
  refine MF.of (pF pn3) (ef25 · ux (0 : Int32) va) dP28 ?_
  intro p e s m below meth c s₁ bd hlk hml hown hnm hrt hZ X0 e0
  have hx := (bd 0).1
  have N0 := Fr.nil n0
  refine OD.at 1 (fun t k => zaN X0 (bd 0) rfl rfl k) ?_
  have f51 := (SS.2.2.2.2.2.2.2.2.1.ext X00.2)
  refine OD.gS X0 (bd 1) hZ hown hw Wd136 Via.refl e0 f51 (fun T52 X52 e52 => ?_)
  refine OD.at 10 (fun t k => RoadKit.acmp X52 hx rfl (x := (.ref ux)) (y := (.ref u8)) rfl rfl (pc0 := 4) (pc' := 7) (same := true) rfl (bd 2).2 rfl (by simp [hu]) (by decide) (by decide) (ziN X52 (bd 3) rfl (zaN X52 (bd 4) rfl rfl (zcI X52 (bd 5) 1 rfl k)))) ?_
  refine OD.cS X52 (bd 6) hZ hown hml Wd138 Wd139 Wd3 Wd140 pd31 (rmE8_0 hw va h0 n0 X00 SS Z0 ka F Aa Ea c0 hg u0 w0) e52 rfl (fun v53 T53 L53 X53 hQ53 => ?_)
  obtain ⟨b53, k53', z53, G53, rfl, Nq53, K53, ob53, A53, Y53⟩ := hQ53
  have N53 := Fr.app N0 Nq53
  have gbb53 : n0 ≤ b53 := nT Z0 ob53
  exact OD.rA X53 (bd 7) hlk hrt rfl rfl rfl ⟨_, _, _, _, rfl, N53, by exact ((Keep.refl h0 []).trans K53 all0), (nT Nat.le.refl ob53), by exact A53, Y53⟩
def Q_rmEN_1 (Z : State) (h0 : Heap) (n0 : Nat) (c0 : Int32) : QT := fun v h L => ∃ (b : Addr) (k : ClassId) (z : Int32) (G : Int32 → Int32), v = some (.ref b) ∧ Fr n0 L ∧ Keep h0 h [] ∧ h0.size ≤ b ∧ Arv Z h b k .byte z (own_rg z.toNatClampNeg (fun x => .int (G x))) (.int 0) ∧ Byo z G (own_u8 c0)
theorem rmEN_1 (ux : Addr) (va : Addr) (h0 : Heap) (n0 : Nat) (X00 : Old Z n0 h0) (SS : STs Z zc fm u8 hxa kh) (Z0 : n0 ≤ h0.size) (ka : ClassId) (F : Int32 → Int32) (Aa : Arv Z h0 va ka .byte (2 : Int32) (own_rg (2 : Int32).toNatClampNeg (fun x => .int (F x))) (.int 0)) (c0 : Int32) (hg : own_gc F (0 : Int32) = c0) (u0 : 0 ≤ c0.toInt) (w0 : c0.toInt ≤ 65535) (hu : ux = u8) :
    MF l hw ⟨zZ0, "encode", zZ36⟩ kQ58 3 (some (.array .byte)) (rO 4 2 86 106) #[(.ref ux), (.int 1), (.ref va)] h0 (Q_rmEN_1 Z h0 n0 c0) := by
  refine MF.of (pF pn3) (ef25 · ux (1 : Int32) va) dP28 ?_
  intro p e s m below meth c s₁ bd hlk hml hown hnm hrt hZ X0 e0
  have hx := (bd 0).1
  have N0 := Fr.nil n0
  refine OD.at 1 (fun t k => zaN X0 (bd 0) rfl rfl k) ?_
  have f51 := (SS.2.2.2.2.2.2.2.2.1.ext X00.2)
  refine OD.gS X0 (bd 1) hZ hown hw Wd136 Via.refl e0 f51 (fun T52 X52 e52 => ?_)
  refine OD.at 10 (fun t k => RoadKit.acmp X52 hx rfl (x := (.ref ux)) (y := (.ref u8)) rfl rfl (pc0 := 4) (pc' := 7) (same := true) rfl (bd 2).2 rfl (by simp [hu]) (by decide) (by decide) (ziN X52 (bd 3) rfl (zaN X52 (bd 4) rfl rfl (zcI X52 (bd 5) 1 rfl k)))) ?_
  refine OD.cS X52 (bd 6) hZ hown hml Wd138 Wd139 Wd3 Wd140 pd31 (rmE8_1 hw va h0 n0 X00 SS Z0 ka F Aa c0 hg u0 w0) e52 rfl (fun v53 T53 L53 X53 hQ53 => ?_)
  obtain ⟨b53, k53', z53, G53, rfl, Nq53, K53, ob53, A53, Y53⟩ := hQ53
  have N53 := Fr.app N0 Nq53
  have gbb53 : n0 ≤ b53 := nT Z0 ob53
  exact OD.rA X53 (bd 7) hlk hrt rfl rfl rfl ⟨_, _, _, _, rfl, N53, by exact ((Keep.refl h0 []).trans K53 all0), (nT Nat.le.refl ob53), by exact A53, Y53⟩
def Q_rmEN_2 (Z : State) (h0 : Heap) (n0 : Nat) (c0 : Int32) (c1 : Int32) : QT := fun v h L => ∃ (b : Addr) (k : ClassId) (z : Int32) (G : Int32 → Int32), v = some (.ref b) ∧ Fr n0 L ∧ Keep h0 h [] ∧ h0.size ≤ b ∧ Arv Z h b k .byte z (own_rg z.toNatClampNeg (fun x => .int (G x))) (.int 0) ∧ Byo z G (own_u8s (own_toCodePoint c0 c1))
theorem rmEN_2 (ux : Addr) (va : Addr) (h0 : Heap) (n0 : Nat) (X00 : Old Z n0 h0) (SS : STs Z zc fm u8 hxa kh) (Z0 : n0 ≤ h0.size) (ka : ClassId) (F : Int32 → Int32) (Aa : Arv Z h0 va ka .byte (4 : Int32) (own_rg (4 : Int32).toNatClampNeg (fun x => .int (F x))) (.int 0)) (c0 c1 : Int32) (hg : own_gc F (0 : Int32) = c0) (hg1 : own_gc F (1 : Int32) = c1) (hh : ¬ own_isHighSurrogate c0 = (0 : Int32)) (hl : ¬ own_isLowSurrogate c1 = (0 : Int32)) (hu : ux = u8) :
    MF l hw ⟨zZ0, "encode", zZ36⟩ kQ58 3 (some (.array .byte)) (rO 4 2 86 106) #[(.ref ux), (.int 1), (.ref va)] h0 (Q_rmEN_2 Z h0 n0 c0 c1) := by
  refine MF.of (pF pn3) (ef25 · ux (1 : Int32) va) dP28 ?_
  intro p e s m below meth c s₁ bd hlk hml hown hnm hrt hZ X0 e0
  have hx := (bd 0).1
  have N0 := Fr.nil n0
  refine OD.at 1 (fun t k => zaN X0 (bd 0) rfl rfl k) ?_
  have f51 := (SS.2.2.2.2.2.2.2.2.1.ext X00.2)
  refine OD.gS X0 (bd 1) hZ hown hw Wd136 Via.refl e0 f51 (fun T52 X52 e52 => ?_)
  refine OD.at 10 (fun t k => RoadKit.acmp X52 hx rfl (x := (.ref ux)) (y := (.ref u8)) rfl rfl (pc0 := 4) (pc' := 7) (same := true) rfl (bd 2).2 rfl (by simp [hu]) (by decide) (by decide) (ziN X52 (bd 3) rfl (zaN X52 (bd 4) rfl rfl (zcI X52 (bd 5) 1 rfl k)))) ?_
  refine OD.cS X52 (bd 6) hZ hown hml Wd138 Wd139 Wd3 Wd140 pd31 (rmE8_2 hw va h0 n0 X00 SS Z0 ka F Aa c0 c1 hg hg1 hh hl) e52 rfl (fun v53 T53 L53 X53 hQ53 => ?_)
  obtain ⟨b53, k53', z53, G53, rfl, Nq53, K53, ob53, A53, Y53⟩ := hQ53
  have N53 := Fr.app N0 Nq53
  have gbb53 : n0 ≤ b53 := nT Z0 ob53
  exact OD.rA X53 (bd 7) hlk hrt rfl rfl rfl ⟨_, _, _, _, rfl, N53, by exact ((Keep.refl h0 []).trans K53 all0), (nT Nat.le.refl ob53), by exact A53, Y53⟩
def Q_rmGB1 (Z : State) (h0 : Heap) (n0 : Nat) (c0 : Int32) : QT := fun v h L => ∃ (b : Addr) (k : ClassId) (z : Int32) (G : Int32 → Int32), v = some (.ref b) ∧ Fr n0 L ∧ Keep h0 h [] ∧ h0.size ≤ b ∧ Arv Z h b k .byte z (own_rg z.toNatClampNeg (fun x => .int (G x))) (.int 0) ∧ Byo z G (own_u8 c0)
theorem rmGB1 (a1 : Addr) (ux : Addr) (h0 : Heap) (n0 : Nat) (X00 : Old Z n0 h0) (SS : STs Z zc fm u8 hxa kh) (Z0 : n0 ≤ h0.size) (t1 : Addr) (c0 : Int32) (HS : Strg Z h0 a1 t1 ([c0] : List Int32)) (u0 : 0 ≤ c0.toInt) (w0 : c0.toInt ≤ 65535) (hu : ux = u8) :
    MF l hw ⟨zZ0, "getBytes", zZ28⟩ kQ59 2 (some (.array .byte)) (rO 5 2 86 124) #[(.ref a1), (.ref ux)] h0 (Q_rmGB1 Z h0 n0 c0) := by
  refine MF.of (pF pn3) (ef21 · a1 ux) dP27 ?_
  intro p e s m below meth c s₁ bd hlk hml hown hnm hrt hZ X0 e0
  have hx := (bd 0).1
  have N0 := Fr.nil n0
  obtain ⟨E1, Et, V1, kt, z, F, A1, hcd⟩ := HS
  rcases hcd with ⟨C1, hz, hR⟩ | ⟨C1, hz, hR⟩
  · skip
    obtain rfl : z = (1 : Int32) := Int32.toInt_inj.mp (by rw [hz]; rfl)
    have Et := Et (by simp)
    obtain ⟨hg, -, w0⟩ := hR 0 (by simp)
    have hg : (F (0 : Int32)) = c0.toInt8.toInt32 := hg
    have w0 : c0.toInt ≤ 255 := w0
    refine OD.at 14 (fun t k => zaN X0 (bd 0) rfl rfl (XS.ifnonnullYes X0.here hx rfl (pc0 := 1) (pc' := 12) rfl (bd 1).2 rfl (by decide) (by decide) (zaN X0 (bd 2) rfl rfl (zaN X0 (bd 3) rfl rfl k)))) ?_
    refine OD.cV X0 (bd 4) hZ hown hml Wd42 Wd43 (nfs hZ (Wd45 hw)) Wd45 Wd44 Wd3 Wd46 pd6 (rmSC0 hw a1 h0 n0 X00 SS C1 E1) e0 E1 rfl (fun v51 T51 L51 X51 hQ51 => ?_)
    obtain ⟨rfl, rfl, e51⟩ := hQ51
    try rw [List.append_nil] at X51
    refine OD.at 18 (fun t k => zaN X51 (bd 5) rfl rfl k) ?_
    refine OD.gF X51 (bd 6) hZ hown hw Wd28 Via.refl e51 V1 (fun T52 X52 e52 => ?_)
    refine OD.cS X52 (bd 7) hZ hown hml Wd133 Wd134 Wd3 Wd135 pd32 (rmEN_0 hw ux t1 h0 n0 X00 SS Z0 kt F A1 Et c0 hg u0 w0 hu) e52 rfl (fun v53 T53 L53 X53 hQ53 => ?_)
    obtain ⟨b53, k53', z53, G53, rfl, Nq53, K53, ob53, A53, Y53⟩ := hQ53
    have N53 := Fr.app N0 Nq53
    have gbb53 : n0 ≤ b53 := nT Z0 ob53
    exact OD.rA X53 (bd 8) hlk hrt rfl rfl rfl ⟨_, _, _, _, rfl, N53, by exact ((Keep.refl h0 []).trans K53 all0), (nT Nat.le.refl ob53), by exact A53, Y53⟩
  · skip
    obtain rfl : z = (2 : Int32) := Int32.toInt_inj.mp (by rw [hz]; rfl)
    have Et := Et (by simp)
    have hg : own_gc F (0 : Int32) = c0 := hR 0 (by simp)
    refine OD.at 14 (fun t k => zaN X0 (bd 0) rfl rfl (XS.ifnonnullYes X0.here hx rfl (pc0 := 1) (pc' := 12) rfl (bd 1).2 rfl (by decide) (by decide) (zaN X0 (bd 2) rfl rfl (zaN X0 (bd 3) rfl rfl k)))) ?_
    refine OD.cV X0 (bd 4) hZ hown hml Wd42 Wd43 (nfs hZ (Wd45 hw)) Wd45 Wd44 Wd3 Wd46 pd6 (rmSC1 hw a1 h0 n0 X00 SS C1 E1) e0 E1 rfl (fun v54 T54 L54 X54 hQ54 => ?_)
    obtain ⟨rfl, rfl, e54⟩ := hQ54
    try rw [List.append_nil] at X54
    refine OD.at 18 (fun t k => zaN X54 (bd 5) rfl rfl k) ?_
    refine OD.gF X54 (bd 6) hZ hown hw Wd28 Via.refl e54 V1 (fun T55 X55 e55 => ?_)
    refine OD.cS X55 (bd 7) hZ hown hml Wd133 Wd134 Wd3 Wd135 pd32 (rmEN_1 hw ux t1 h0 n0 X00 SS Z0 kt F A1 c0 hg u0 w0 hu) e55 rfl (fun v56 T56 L56 X56 hQ56 => ?_)
    obtain ⟨b56, k56', z56, G56, rfl, Nq56, K56, ob56, A56, Y56⟩ := hQ56
    have N56 := Fr.app N0 Nq56
    have gbb56 : n0 ≤ b56 := nT Z0 ob56
    exact OD.rA X56 (bd 8) hlk hrt rfl rfl rfl ⟨_, _, _, _, rfl, N56, by exact ((Keep.refl h0 []).trans K56 all0), (nT Nat.le.refl ob56), by exact A56, Y56⟩
def Q_rmGB2 (Z : State) (h0 : Heap) (n0 : Nat) (c0 : Int32) (c1 : Int32) : QT := fun v h L => ∃ (b : Addr) (k : ClassId) (z : Int32) (G : Int32 → Int32), v = some (.ref b) ∧ Fr n0 L ∧ Keep h0 h [] ∧ h0.size ≤ b ∧ Arv Z h b k .byte z (own_rg z.toNatClampNeg (fun x => .int (G x))) (.int 0) ∧ Byo z G (own_u8s (own_toCodePoint c0 c1))
theorem rmGB2 (a1 : Addr) (ux : Addr) (h0 : Heap) (n0 : Nat) (X00 : Old Z n0 h0) (SS : STs Z zc fm u8 hxa kh) (Z0 : n0 ≤ h0.size) (t1 : Addr) (c0 c1 : Int32) (HS : Strg Z h0 a1 t1 ([c0, c1] : List Int32)) (hh : ¬ own_isHighSurrogate c0 = (0 : Int32)) (hl : ¬ own_isLowSurrogate c1 = (0 : Int32)) (hu : ux = u8) :
    MF l hw ⟨zZ0, "getBytes", zZ28⟩ kQ59 2 (some (.array .byte)) (rO 5 2 86 124) #[(.ref a1), (.ref ux)] h0 (Q_rmGB2 Z h0 n0 c0 c1) := by
  refine MF.of (pF pn3) (ef21 · a1 ux) dP27 ?_
  intro p e s m below meth c s₁ bd hlk hml hown hnm hrt hZ X0 e0
  have hx := (bd 0).1
  have N0 := Fr.nil n0
  obtain ⟨E1, Et, V1, kt, z, F, A1, hcd⟩ := HS
  rcases hcd with ⟨C1, hz, hR⟩ | ⟨C1, hz, hR⟩
  · skip
    obtain rfl : z = (2 : Int32) := Int32.toInt_inj.mp (by rw [hz]; rfl)
    have Et := Et (by simp)
    have q := (hR 0 (by simp)).2.2
    have q : c0.toInt ≤ 255 := q
    exact absurd (own_hs0 q) hh
  · skip
    obtain rfl : z = (4 : Int32) := Int32.toInt_inj.mp (by rw [hz]; rfl)
    have Et := Et (by simp)
    have hg : own_gc F (0 : Int32) = c0 := hR 0 (by simp)
    have hg1 : own_gc F (1 : Int32) = c1 := hR 1 (by simp)
    refine OD.at 14 (fun t k => zaN X0 (bd 0) rfl rfl (XS.ifnonnullYes X0.here hx rfl (pc0 := 1) (pc' := 12) rfl (bd 1).2 rfl (by decide) (by decide) (zaN X0 (bd 2) rfl rfl (zaN X0 (bd 3) rfl rfl k)))) ?_
    refine OD.cV X0 (bd 4) hZ hown hml Wd42 Wd43 (nfs hZ (Wd45 hw)) Wd45 Wd44 Wd3 Wd46 pd6 (rmSC1 hw a1 h0 n0 X00 SS C1 E1) e0 E1 rfl (fun v51 T51 L51 X51 hQ51 => ?_)
    obtain ⟨rfl, rfl, e51⟩ := hQ51
    try rw [List.append_nil] at X51
    refine OD.at 18 (fun t k => zaN X51 (bd 5) rfl rfl k) ?_
    refine OD.gF X51 (bd 6) hZ hown hw Wd28 Via.refl e51 V1 (fun T52 X52 e52 => ?_)
    refine OD.cS X52 (bd 7) hZ hown hml Wd133 Wd134 Wd3 Wd135 pd32 (rmEN_2 hw ux t1 h0 n0 X00 SS Z0 kt F A1 c0 c1 hg hg1 hh hl hu) e52 rfl (fun v53 T53 L53 X53 hQ53 => ?_)
    obtain ⟨b53, k53', z53, G53, rfl, Nq53, K53, ob53, A53, Y53⟩ := hQ53
    have N53 := Fr.app N0 Nq53
    have gbb53 : n0 ≤ b53 := nT Z0 ob53
    exact OD.rA X53 (bd 8) hlk hrt rfl rfl rfl ⟨_, _, _, _, rfl, N53, by exact ((Keep.refl h0 []).trans K53 all0), (nT Nat.le.refl ob53), by exact A53, Y53⟩
theorem rmBI0 (a1 : Addr) (h0 : Heap) (n0 : Nat) (X00 : Old Z n0 h0) (SS : STs Z zc fm u8 hxa kh) (C1 : Fld Z h0 a1 zZ2 "coder" "B" (.int 0)) (E1 : Exa Z h0 a1 zZ3) :
    MF l hw ⟨zZ2, "isLatin1", "()Z"⟩ kQ60 1 (some .boolean) (rO 0 0 0 0) #[(.ref a1)] h0 (Pu (some (.int 1)) h0) := by
  refine MF.of (pF pn8) (ef6 · a1) dP35 ?_
  intro p e s m below meth c s₁ bd hlk hml hown hnm hrt hZ X0 e0
  have f51 := (SS.1.ext X00.2)
  refine OD.gS X0 (bd 0) hZ hown hw Wd57 Via.refl e0 f51 (fun T52 X52 e52 => ?_)
  refine OD.at 7 (fun t k => zjN X52 (bd 1) (feq SS.2.1).1 (zaN X52 (bd 2) rfl rfl k)) ?_
  refine OD.gF X52 (bd 3) hZ hown hw Wd60 Via.refl e52 C1 (fun T53 X53 e53 => ?_)
  refine OD.at 18 (fun t k => zjN X53 (bd 4) (teq (by decide : (0 : Int32) = (0 : Int32))).2 (zcI X53 (bd 5) 1 rfl (zgO X53 (bd 6) 18 k))) ?_
  exact OD.rZ X53 (bd 7) hlk hrt rfl ⟨rfl, rfl, e53⟩
theorem rmBI1 (a1 : Addr) (h0 : Heap) (n0 : Nat) (X00 : Old Z n0 h0) (SS : STs Z zc fm u8 hxa kh) (C1 : Fld Z h0 a1 zZ2 "coder" "B" (.int 1)) (E1 : Exa Z h0 a1 zZ3) :
    MF l hw ⟨zZ2, "isLatin1", "()Z"⟩ kQ60 1 (some .boolean) (rO 0 0 0 0) #[(.ref a1)] h0 (Pu (some (.int 0)) h0) := by
  refine MF.of (pF pn8) (ef6 · a1) dP35 ?_
  intro p e s m below meth c s₁ bd hlk hml hown hnm hrt hZ X0 e0
  have f51 := (SS.1.ext X00.2)
  refine OD.gS X0 (bd 0) hZ hown hw Wd57 Via.refl e0 f51 (fun T52 X52 e52 => ?_)
  refine OD.at 7 (fun t k => zjN X52 (bd 1) (feq SS.2.1).1 (zaN X52 (bd 2) rfl rfl k)) ?_
  refine OD.gF X52 (bd 3) hZ hown hw Wd60 Via.refl e52 C1 (fun T53 X53 e53 => ?_)
  refine OD.at 18 (fun t k => zjY X53 (bd 4) 17 (feq (by decide : ¬ (1 : Int32) = (0 : Int32))).2 (zcI X53 (bd 8) 0 rfl k)) ?_
  exact OD.rZ X53 (bd 7) hlk hrt rfl ⟨rfl, rfl, e53⟩
theorem rmNL (x0 : Int32) (x1 : Int32) (x2 : Int32) (h0 : Heap) (hq : (0 : Int32) < (x0 + (own_max x1 x2)) ∧ ¬ (2147483639 : Int32) < (x0 + (own_max x1 x2))) :
    MF l hw ⟨zZ30, "newLength", "(III)I"⟩ kQ61 4 (some .int) (rO 1 0 0 17) #[(.int x0), (.int x1), (.int x2)] h0 (Pu (some (.int (x0 + (own_max x1 x2)))) h0) := by
  refine MF.of (pF pn9) (ef26 · x0 x1 x2) dP38 ?_
  intro p e s m below meth c s₁ bd hlk hml hown hnm hrt hZ X0 e0
  have hx := (bd 0).1
  refine OD.at 3 (fun t k => ziN X0 (bd 0) rfl (ziN X0 (bd 1) rfl (ziN X0 (bd 2) rfl k))) ?_
  refine OD.cS X0 (bd 3) hZ hown hml Wd193 Wd105 Wd106 Wd107 pd8 (rm_max hw x1 x2 h0) e0 rfl (fun v51 T51 L51 X51 hQ51 => ?_)
  obtain ⟨rfl, rfl, e51⟩ := hQ51
  refine OD.go (B := (T51.setTop (mkF m 20 #[vI x0, vI x1, vI x2, vI ((x0 + (own_max x1 x2)))] [(.int (x0 + (own_max x1 x2)))]))) (fun t k => ziadd X51 (bd 4) (zsN X51 (bd 5) #[vI x0, vI x1, vI x2, vI ((x0 + (own_max x1 x2)))] rfl (zcI X51 (bd 6) 0 rfl (ziN X51 (bd 7) rfl (zkN X51 (bd 8) (tlt hq.1).2.1 (ziN X51 (bd 9) rfl (X51.ldcInt hx hown (mv hZ (Wd194 hw)) (g := (mkF m 14 #[vI x0, vI x1, vI x2, vI ((x0 + (own_max x1 x2)))] [(.int (x0 + (own_max x1 x2)))])) rfl (bd 10).2 _ (zkN X51 (bd 11) (flt hq.2).2.2.1 (ziN X51 (bd 12) rfl k))))))))) ?_
  exact OD.rI X51 (bd 13) hlk hrt rfl ⟨rfl, rfl, e51⟩
theorem rmNC0 (a1 : Addr) (x1 : Int32) (h0 : Heap) (n0 : Nat) (X00 : Old Z n0 h0) (SS : STs Z zc fm u8 hxa kh) (va : Addr) (ka : ClassId) (z : Int32) (F : Int32 → Int32) (Aa : Arv Z h0 va ka .byte z (own_rg z.toNatClampNeg (fun x => .int (F x))) (.int 0)) (V1 : Fld Z h0 a1 zZ2 "value" "[B" (.ref va)) (C1 : Fld Z h0 a1 zZ2 "coder" "B" (.int 0)) (E1 : Exa Z h0 a1 zZ3) (r : Int32) (hr : r.toInt = 2 * z.toInt + 2) (hz : z.toInt ≤ 80) (hx1 : 0 ≤ x1.toInt) (hx2 : x1.toInt ≤ z.toInt + 1) :
    MF l hw ⟨zZ2, zZ26, "(I)I"⟩ kQ62 6 (some .int) (rO 2 0 0 36) #[(.ref a1), (.int x1)] h0 (Pu (some (.int r)) h0) := by
  refine MF.of (pF pn8) (ef27 · a1 x1) dP37 ?_
  intro p e s m below meth c s₁ bd hlk hml hown hnm hrt hZ X0 e0
  have hx := (bd 0).1
  have e2 : (2 : Int32).toInt = 2 := rfl
  have e4 : (4 : Int32).toInt = 4 := rfl
  have hz0 := own_zpos Aa
  have s0 : (x1 <<< ((0 : Int32) &&& 31)).toInt = 1 * x1.toInt := by rw [own_sl0]; omega
  have d0 := own_sub (x := (x1 <<< ((0 : Int32) &&& 31))) (k := z) (by omega) (by omega)
  have p0 := own_add (x := z) (k := (2 : Int32)) (by omega) (by omega)
  have e1 := own_maxR (a := ((x1 <<< ((0 : Int32) &&& 31)) - z)) (b := (z + (2 : Int32))) (by omega)
  have e3 := own_add (x := z) (k := z + (2 : Int32)) (by omega) (by omega)
  refine OD.at 1 (fun t k => zaN X0 (bd 0) rfl rfl k) ?_
  refine OD.gF X0 (bd 1) hZ hown hw Wd58 Via.refl e0 V1 (fun T51 X51 e51 => ?_)
  refine OD.at 8 (fun t k => zal X51 (bd 2) hZ e51 Aa (zsN X51 (bd 3) #[vR a1, vI x1, vI z, .unset, .unset, .unset] rfl (ziN X51 (bd 4) rfl (zaN X51 (bd 5) rfl rfl k)))) ?_
  refine OD.gF X51 (bd 6) hZ hown hw Wd60 Via.refl e51 C1 (fun T52 X52 e52 => ?_)
  refine OD.at 24 (fun t k => zishl X52 (bd 7) (zsN X52 (bd 8) #[vR a1, vI x1, vI z, vI ((x1 <<< ((0 : Int32) &&& 31))), .unset, .unset] rfl (ziN X52 (bd 9) rfl (ziN X52 (bd 10) rfl (zisub X52 (bd 11) (zsI X52 (bd 12) #[vR a1, vI x1, vI z, vI ((x1 <<< ((0 : Int32) &&& 31))), vI (((x1 <<< ((0 : Int32) &&& 31)) - z)), .unset] rfl (ziN X52 (bd 13) rfl (ziL X52 (bd 14) rfl (ziN X52 (bd 15) rfl (zcI X52 (bd 16) 2 rfl (zaN X52 (bd 17) rfl rfl k))))))))))) ?_
  refine OD.gF X52 (bd 18) hZ hown hw Wd60 Via.refl e52 C1 (fun T53 X53 e53 => ?_)
  refine OD.go (B := (T53.setTop (mkF m 29 #[vR a1, vI x1, vI z, vI ((x1 <<< ((0 : Int32) &&& 31))), vI (((x1 <<< ((0 : Int32) &&& 31)) - z)), .unset] [(.int (z + (2 : Int32))), (.int ((x1 <<< ((0 : Int32) &&& 31)) - z)), (.int z)]))) (fun t k => zishl X53 (bd 19) (ziadd X53 (bd 20) k)) ?_
  refine OD.cS X53 (bd 21) hZ hown hml Wd189 Wd190 Wd191 Wd192 pd5 (rmNL hw z ((x1 <<< ((0 : Int32) &&& 31)) - z) (z + (2 : Int32)) h0 (by rw [e1]; exact ⟨own_mlt (by have : (0 : Int32).toInt = 0 := rfl; omega), own_mle (by have : (2147483639 : Int32).toInt = 2147483639 := rfl; omega)⟩)) e53 rfl (fun v54 T54 L54 X54 hQ54 => ?_)
  obtain ⟨rfl, rfl, e54⟩ := hQ54
  rw [e1]
  refine OD.go (B := (T54.setTop (mkF m 54 #[vR a1, vI x1, vI z, vI ((x1 <<< ((0 : Int32) &&& 31))), vI (((x1 <<< ((0 : Int32) &&& 31)) - z)), vI ((z + (z + (2 : Int32))))] [(.ref a1), (.int (z + (z + (2 : Int32))))]))) (fun t k => zsI X54 (bd 22) #[vR a1, vI x1, vI z, vI ((x1 <<< ((0 : Int32) &&& 31))), vI (((x1 <<< ((0 : Int32) &&& 31)) - z)), vI ((z + (z + (2 : Int32))))] rfl (ziL X54 (bd 23) rfl (X54.ldcInt hx hown (mv hZ (Wd195 hw)) (g := (mkF m 36 #[vR a1, vI x1, vI z, vI ((x1 <<< ((0 : Int32) &&& 31))), vI (((x1 <<< ((0 : Int32) &&& 31)) - z)), vI ((z + (z + (2 : Int32))))] [(.int (z + (z + (2 : Int32))))])) rfl (bd 24).2 _ (zkY X54 (bd 25) 51 (feq (own_ne (by have : (2147483647 : Int32).toInt = 2147483647 := rfl; omega))).2 (ziL X54 (bd 26) rfl (zaN X54 (bd 27) rfl rfl k)))))) ?_
  refine OD.gF X54 (bd 28) hZ hown hw Wd60 Via.refl e54 C1 (fun T55 X55 e55 => ?_)
  refine OD.at 58 (fun t k => zishr X55 (bd 29) k) ?_
  have fin : ((z + (z + (2 : Int32))) >>> ((0 : Int32) &&& 31)) = r := Int32.toInt_inj.mp (by rw [own_sr0]; omega)
  rw [fin]
  exact OD.rI X55 (bd 30) hlk hrt rfl ⟨rfl, rfl, e55⟩
theorem rmNC1 (a1 : Addr) (x1 : Int32) (h0 : Heap) (n0 : Nat) (X00 : Old Z n0 h0) (SS : STs Z zc fm u8 hxa kh) (va : Addr) (ka : ClassId) (z : Int32) (F : Int32 → Int32) (Aa : Arv Z h0 va ka .byte z (own_rg z.toNatClampNeg (fun x => .int (F x))) (.int 0)) (V1 : Fld Z h0 a1 zZ2 "value" "[B" (.ref va)) (C1 : Fld Z h0 a1 zZ2 "coder" "B" (.int 1)) (E1 : Exa Z h0 a1 zZ3) (r : Int32) (hr : r.toInt = z.toInt + 2) (hz : z.toInt ≤ 80) (hx1 : 0 ≤ x1.toInt) (hx2 : 2 * x1.toInt ≤ z.toInt + 3) :
    MF l hw ⟨zZ2, zZ26, "(I)I"⟩ kQ62 6 (some .int) (rO 2 0 0 36) #[(.ref a1), (.int x1)] h0 (Pu (some (.int r)) h0) := by
  refine MF.of (pF pn8) (ef27 · a1 x1) dP37 ?_
  intro p e s m below meth c s₁ bd hlk hml hown hnm hrt hZ X0 e0
  have hx := (bd 0).1
  have e2 : (2 : Int32).toInt = 2 := rfl
  have e4 : (4 : Int32).toInt = 4 := rfl
  have hz0 := own_zpos Aa
  have s0 : (x1 <<< ((1 : Int32) &&& 31)).toInt = 2 * x1.toInt := own_sl1 hx1 (by omega)
  have d0 := own_sub (x := (x1 <<< ((1 : Int32) &&& 31))) (k := z) (by omega) (by omega)
  have p0 := own_add (x := z) (k := (4 : Int32)) (by omega) (by omega)
  have e1 := own_maxR (a := ((x1 <<< ((1 : Int32) &&& 31)) - z)) (b := (z + (4 : Int32))) (by omega)
  have e3 := own_add (x := z) (k := z + (4 : Int32)) (by omega) (by omega)
  refine OD.at 1 (fun t k => zaN X0 (bd 0) rfl rfl k) ?_
  refine OD.gF X0 (bd 1) hZ hown hw Wd58 Via.refl e0 V1 (fun T51 X51 e51 => ?_)
  refine OD.at 8 (fun t k => zal X51 (bd 2) hZ e51 Aa (zsN X51 (bd 3) #[vR a1, vI x1, vI z, .unset, .unset, .unset] rfl (ziN X51 (bd 4) rfl (zaN X51 (bd 5) rfl rfl k)))) ?_
  refine OD.gF X51 (bd 6) hZ hown hw Wd60 Via.refl e51 C1 (fun T52 X52 e52 => ?_)
  refine OD.at 24 (fun t k => zishl X52 (bd 7) (zsN X52 (bd 8) #[vR a1, vI x1, vI z, vI ((x1 <<< ((1 : Int32) &&& 31))), .unset, .unset] rfl (ziN X52 (bd 9) rfl (ziN X52 (bd 10) rfl (zisub X52 (bd 11) (zsI X52 (bd 12) #[vR a1, vI x1, vI z, vI ((x1 <<< ((1 : Int32) &&& 31))), vI (((x1 <<< ((1 : Int32) &&& 31)) - z)), .unset] rfl (ziN X52 (bd 13) rfl (ziL X52 (bd 14) rfl (ziN X52 (bd 15) rfl (zcI X52 (bd 16) 2 rfl (zaN X52 (bd 17) rfl rfl k))))))))))) ?_
  refine OD.gF X52 (bd 18) hZ hown hw Wd60 Via.refl e52 C1 (fun T53 X53 e53 => ?_)
  refine OD.go (B := (T53.setTop (mkF m 29 #[vR a1, vI x1, vI z, vI ((x1 <<< ((1 : Int32) &&& 31))), vI (((x1 <<< ((1 : Int32) &&& 31)) - z)), .unset] [(.int (z + (4 : Int32))), (.int ((x1 <<< ((1 : Int32) &&& 31)) - z)), (.int z)]))) (fun t k => zishl X53 (bd 19) (ziadd X53 (bd 20) k)) ?_
  refine OD.cS X53 (bd 21) hZ hown hml Wd189 Wd190 Wd191 Wd192 pd5 (rmNL hw z ((x1 <<< ((1 : Int32) &&& 31)) - z) (z + (4 : Int32)) h0 (by rw [e1]; exact ⟨own_mlt (by have : (0 : Int32).toInt = 0 := rfl; omega), own_mle (by have : (2147483639 : Int32).toInt = 2147483639 := rfl; omega)⟩)) e53 rfl (fun v54 T54 L54 X54 hQ54 => ?_)
  obtain ⟨rfl, rfl, e54⟩ := hQ54
  rw [e1]
  refine OD.go (B := (T54.setTop (mkF m 54 #[vR a1, vI x1, vI z, vI ((x1 <<< ((1 : Int32) &&& 31))), vI (((x1 <<< ((1 : Int32) &&& 31)) - z)), vI ((z + (z + (4 : Int32))))] [(.ref a1), (.int (z + (z + (4 : Int32))))]))) (fun t k => zsI X54 (bd 22) #[vR a1, vI x1, vI z, vI ((x1 <<< ((1 : Int32) &&& 31))), vI (((x1 <<< ((1 : Int32) &&& 31)) - z)), vI ((z + (z + (4 : Int32))))] rfl (ziL X54 (bd 23) rfl (X54.ldcInt hx hown (mv hZ (Wd195 hw)) (g := (mkF m 36 #[vR a1, vI x1, vI z, vI ((x1 <<< ((1 : Int32) &&& 31))), vI (((x1 <<< ((1 : Int32) &&& 31)) - z)), vI ((z + (z + (4 : Int32))))] [(.int (z + (z + (4 : Int32))))])) rfl (bd 24).2 _ (zkY X54 (bd 25) 51 (feq (own_ne (by have : (2147483647 : Int32).toInt = 2147483647 := rfl; omega))).2 (ziL X54 (bd 26) rfl (zaN X54 (bd 27) rfl rfl k)))))) ?_
  refine OD.gF X54 (bd 28) hZ hown hw Wd60 Via.refl e54 C1 (fun T55 X55 e55 => ?_)
  refine OD.at 58 (fun t k => zishr X55 (bd 29) k) ?_
  have fin : ((z + (z + (4 : Int32))) >>> ((1 : Int32) &&& 31)) = r := Int32.toInt_inj.mp (by rw [c_ishr _ 1 1 rfl]; omega)
  rw [fin]
  exact OD.rI X55 (bd 30) hlk hrt rfl ⟨rfl, rfl, e55⟩
def Q_rmEC0 (Z : State) (a1 : Addr) (h0 : Heap) (n0 : Nat) (t1 : Addr) (cs : List Int32) : QT := fun v h L => ∃ t' : Addr, v = none ∧ Fr n0 L ∧ Keep h0 h [a1] ∧ (t' = t1 ∨ h0.size ≤ t') ∧ n0 ≤ t' ∧ Bdr Z h a1 t' (0 : Int32) cs 1
theorem rmEC0 (a1 : Addr) (x1 : Int32) (h0 : Heap) (n0 : Nat) (X00 : Old Z n0 h0) (SS : STs Z zc fm u8 hxa kh) (Z0 : n0 ≤ h0.size) (t1 : Addr) (cs : List Int32) (HB : Bdr Z h0 a1 t1 (0 : Int32) cs 0) (hl : cs.length ≤ 17) (g1 : n0 ≤ a1) (gt : n0 ≤ t1) (hx1 : x1.toInt = cs.length + 1) :
    MF l hw ⟨zZ2, zZ15, "(I)V"⟩ kQ63 3 none (rO 3 1 80 58) #[(.ref a1), (.int x1)] h0 (Q_rmEC0 Z a1 h0 n0 t1 cs) := by
  refine MF.of (pF pn8) (ef13 · a1 x1) dP34 ?_
  intro p e s m below meth c s₁ bd hlk hml hown hnm hrt hZ X0 e0
  have hx := (bd 0).1
  have N0 := Fr.nil n0
  obtain ⟨Eo_, Eto_, V1o_, V2o_, V3o_, V4o_, kto_, zbo_, Fbo_, Ao_, hCo_⟩ := HB
  have hCo_ := hCo_.l
  have hz0 := own_zpos Ao_
  have sz : (zbo_ >>> ((0 : Int32) &&& 31)).toInt = zbo_.toInt / 1 := by rw [own_sr0]; omega
  have dz := own_sub (x := x1) (k := (zbo_ >>> ((0 : Int32) &&& 31))) (by omega) (by omega)
  refine OD.at 1 (fun t k => zaN X0 (bd 0) rfl rfl k) ?_
  refine OD.gF X0 (bd 1) hZ hown hw Wd58 Via.refl e0 V1o_ (fun T51 X51 e51 => ?_)
  refine OD.at 6 (fun t k => zal X51 (bd 2) hZ e51 Ao_ (zaN X51 (bd 3) rfl rfl k)) ?_
  refine OD.gF X51 (bd 4) hZ hown hw Wd60 Via.refl e51 V2o_ (fun T52 X52 e52 => ?_)
  refine OD.at 14 (fun t k => zishr X52 (bd 5) (zsN X52 (bd 6) #[vR a1, vI x1, vI ((zbo_ >>> ((0 : Int32) &&& 31)))] rfl (ziN X52 (bd 7) rfl (ziN X52 (bd 8) rfl (zisub X52 (bd 9) k))))) ?_
  by_cases c14_53 : (0 : Int32) < (x1 - (zbo_ >>> ((0 : Int32) &&& 31)))
  · refine OD.at 17 (fun t k => zjN X52 (bd 10) (tlt c14_53).2.2.2 k) ?_
    have cg := own_lt c14_53
    have e0' : (0 : Int32).toInt = 0 := rfl
    obtain ⟨r, hr⟩ := own_ex (n := 2 * zbo_.toInt + 2) (by omega) (by omega)
    have hs : (r <<< ((0 : Int32) &&& 31)).toInt = 2 * zbo_.toInt + 2 := by rw [own_sl0]; exact hr
    refine OD.at 19 (fun t k => zaN X52 (bd 11) rfl rfl (zaN X52 (bd 12) rfl rfl k)) ?_
    refine OD.gF X52 (bd 13) hZ hown hw Wd58 Via.refl e52 V1o_ (fun T54 X54 e54 => ?_)
    refine OD.at 24 (fun t k => zaN X54 (bd 14) rfl rfl (ziN X54 (bd 15) rfl k)) ?_
    obtain ⟨cq55, qa55, qb55⟩ := Eo_.cell
    obtain ⟨_, _, ⟨T55, L55, k55, n55⟩, -, X55, ⟨Lc55, hQ55, l55, y55, z55⟩, st55⟩ := X54.privateBack hx (y := ⟨zZ2, zZ26, "(I)I"⟩) hown (mvT hZ (Wd184 hw)) (mvT hZ (Wd185 hw)) (mvT hZ (own_selP2 (Wd172 hw) (Wd170 hw) (Wd186 hw) (Wd185 hw) rfl (by decide))) (Cond.privateMethod_at (mvP hZ (Wd186 hw) (args := #[]))) (mvT hZ (Wd188 hw)) (by decide) (backOf (W := 2) (rmNC0 hw a1 x1 h0 n0 X00 SS t1 kto_ zbo_ Fbo_ Ao_ V1o_ V2o_ Eo_ r hr (by omega) (by omega) (by omega)) hZ (Wd188 hw) (Wd54 hw) (by decide) (by decide)) (g := (mkF m 24 #[vR a1, vI x1, vI ((zbo_ >>> ((0 : Int32) &&& 31)))] [(.int x1), (.ref a1), (.ref t1), (.ref a1)])) rfl (by rw [hml]; rfl) (Steps.refl _) (a := a1) (by rw [e54]; exact qa55) qb55 (argsL := [(.int x1)]) (rest := [(.ref t1), (.ref a1)]) (lenOf pd20 rfl) rfl (by show 2 * 0 + _ ≤ _; exact Nat.le_of_eq rfl) (bd 16).2 (fun _ _ => ⟨rfl, e54, (nl rfl), (nl rfl)⟩)
    dsimp only [Pt.U, Pt.locs, Pt.cells, Pt.slots] at X55 l55 y55 z55 st55 hQ55
    subst l55 y55 z55
    obtain ⟨rfl, rfl, e55⟩ := hQ55
    try rw [List.append_nil] at X55
    refine OD.via (B := (T55.setTop (mkF m 27 #[vR a1, vI x1, vI ((zbo_ >>> ((0 : Int32) &&& 31)))] [(.int r), (.ref t1), (.ref a1)]))) st55 ?_
    refine OD.at 28 (fun t k => zaN X55 (bd 17) rfl rfl k) ?_
    refine OD.gF X55 (bd 18) hZ hown hw Wd60 Via.refl e55 V2o_ (fun T56 X56 e56 => ?_)
    refine OD.at 32 (fun t k => zishl X56 (bd 19) k) ?_
    refine OD.cS X56 (bd 20) hZ hown hml Wd196 Wd197 Wd198 Wd199 pd28 (rmCO hw t1 (r <<< ((0 : Int32) &&& 31)) h0 n0 Z0 kto_ zbo_ Fbo_ Ao_ (own_ne (by omega)) (by omega) (by omega)) e56 rfl (fun v57 T57 L57 X57 hQ57 => ?_)
    obtain ⟨b57, k57', rfl, Nq57, K57, ob57, Q57, A57⟩ := hQ57
    have N57 := Fr.app N0 Nq57
    have gbb57 : n0 ≤ b57 := nT Z0 ob57
    have f58 := (V1o_.keep K57 nin0)
    have f59 := (Eo_.keep K57)
    obtain ⟨T60, h60, X60, e60, W60, st60⟩ := putF X57 hx hZ hown (host := "") (Or.inl (Wd58 hw)) Via.refl rfl f58 f59 (Or.inl (Wd59 hw)) (Wd35 hw) (ty := (.array .byte)) (by decide) rfl rfl (g := (mkF m 35 #[vR a1, vI x1, vI ((zbo_ >>> ((0 : Int32) &&& 31)))] [(.ref b57), (.ref a1)])) rfl rfl (bd 21).2
    have Fx60 := f58.same W60
    have N60 := Fr.snoc X60 N57 g1
    refine OD.go (B := (T60.setTop (mkF m 38 #[vR a1, vI x1, vI ((zbo_ >>> ((0 : Int32) &&& 31)))] []))) st60 ?_
    have em : own_min zbo_ (r <<< ((0 : Int32) &&& 31)) = zbo_ := own_minL (by omega)
    exact OD.rV X60 (bd 22) hlk hrt ⟨_, rfl, N60, by rw [e60]; exact (((Keep.refl h0 [a1]).trans K57 all0).wr W60 (Or.inl (mG 0 rfl))), (Or.inr (nT Nat.le.refl ob57)), gbb57, by rw [e60]; exact (f59.wr W60), by rw [e60]; exact (Q57.wr W60), by rw [e60]; exact Fx60, by rw [e60]; exact ((V2o_.keep K57 nin0).other W60 (Or.inr (slot_ne (Or.inl (Wd61 hw)) (Or.inl (Wd59 hw)) (by decide) (t := .byte) (t' := (.array .byte)) (by decide) (by decide)))), by rw [e60]; exact ((V3o_.keep K57 nin0).other W60 (Or.inr (slot_ne (Or.inl (Wd168 hw)) (Or.inl (Wd59 hw)) (by decide) (t := .int) (t' := (.array .byte)) (by decide) (by decide)))), by rw [e60]; exact ((V4o_.keep K57 nin0).other W60 (Or.inr (slot_ne (Or.inl (Wd418 hw)) (Or.inl (Wd59 hw)) (by decide) (t := .boolean) (t' := (.array .byte)) (by decide) (by decide)))), _, _, _, by rw [e60]; exact (A57.other W60 (Ne.symm (nN Eo_.lt ob57))), Or.inl ⟨rfl, by omega, by omega, (by rw [em]; exact hCo_.2.2.cut (by omega) (by omega))⟩⟩
  · refine OD.at 38 (fun t k => zjY X52 (bd 10) 38 (flt c14_53).2.2.2 k) ?_
    have cg := own_le c14_53
    have e0' : (0 : Int32).toInt = 0 := rfl
    exact OD.rV X52 (bd 22) hlk hrt ⟨_, rfl, N0, by rw [e52]; exact (Keep.refl h0 [a1]), (Or.inl rfl), gt, by rw [e52]; exact Eo_, by rw [e52]; exact Eto_, by rw [e52]; exact V1o_, by rw [e52]; exact V2o_, by rw [e52]; exact V3o_, by rw [e52]; exact V4o_, _, _, _, by rw [e52]; exact Ao_, Or.inl ⟨rfl, by omega, by omega, hCo_.2.2⟩⟩
def Q_rmEC1 (Z : State) (a1 : Addr) (h0 : Heap) (n0 : Nat) (t1 : Addr) (cs : List Int32) : QT := fun v h L => ∃ t' : Addr, v = none ∧ Fr n0 L ∧ Keep h0 h [a1] ∧ (t' = t1 ∨ h0.size ≤ t') ∧ n0 ≤ t' ∧ Bdr Z h a1 t' (1 : Int32) cs 1
theorem rmEC1 (a1 : Addr) (x1 : Int32) (h0 : Heap) (n0 : Nat) (X00 : Old Z n0 h0) (SS : STs Z zc fm u8 hxa kh) (Z0 : n0 ≤ h0.size) (t1 : Addr) (cs : List Int32) (HB : Bdr Z h0 a1 t1 (1 : Int32) cs 0) (hl : cs.length ≤ 17) (g1 : n0 ≤ a1) (gt : n0 ≤ t1) (hx1 : x1.toInt = cs.length + 1) :
    MF l hw ⟨zZ2, zZ15, "(I)V"⟩ kQ63 3 none (rO 3 1 80 58) #[(.ref a1), (.int x1)] h0 (Q_rmEC1 Z a1 h0 n0 t1 cs) := by
  refine MF.of (pF pn8) (ef13 · a1 x1) dP34 ?_
  intro p e s m below meth c s₁ bd hlk hml hown hnm hrt hZ X0 e0
  have hx := (bd 0).1
  have N0 := Fr.nil n0
  obtain ⟨Eo_, Eto_, V1o_, V2o_, V3o_, V4o_, kto_, zbo_, Fbo_, Ao_, hCo_⟩ := HB
  have hCo_ := hCo_.u
  have hz0 := own_zpos Ao_
  have sz : (zbo_ >>> ((1 : Int32) &&& 31)).toInt = zbo_.toInt / 2 := by rw [c_ishr _ 1 1 rfl]; rfl
  have dz := own_sub (x := x1) (k := (zbo_ >>> ((1 : Int32) &&& 31))) (by omega) (by omega)
  refine OD.at 1 (fun t k => zaN X0 (bd 0) rfl rfl k) ?_
  refine OD.gF X0 (bd 1) hZ hown hw Wd58 Via.refl e0 V1o_ (fun T51 X51 e51 => ?_)
  refine OD.at 6 (fun t k => zal X51 (bd 2) hZ e51 Ao_ (zaN X51 (bd 3) rfl rfl k)) ?_
  refine OD.gF X51 (bd 4) hZ hown hw Wd60 Via.refl e51 V2o_ (fun T52 X52 e52 => ?_)
  refine OD.at 14 (fun t k => zishr X52 (bd 5) (zsN X52 (bd 6) #[vR a1, vI x1, vI ((zbo_ >>> ((1 : Int32) &&& 31)))] rfl (ziN X52 (bd 7) rfl (ziN X52 (bd 8) rfl (zisub X52 (bd 9) k))))) ?_
  by_cases c14_53 : (0 : Int32) < (x1 - (zbo_ >>> ((1 : Int32) &&& 31)))
  · refine OD.at 17 (fun t k => zjN X52 (bd 10) (tlt c14_53).2.2.2 k) ?_
    have cg := own_lt c14_53
    have e0' : (0 : Int32).toInt = 0 := rfl
    obtain ⟨r, hr⟩ := own_ex (n := zbo_.toInt + 2) (by omega) (by omega)
    have hs : (r <<< ((1 : Int32) &&& 31)).toInt = 2 * zbo_.toInt + 4 := by rw [own_sl1 (by omega) (by omega)]; omega
    refine OD.at 19 (fun t k => zaN X52 (bd 11) rfl rfl (zaN X52 (bd 12) rfl rfl k)) ?_
    refine OD.gF X52 (bd 13) hZ hown hw Wd58 Via.refl e52 V1o_ (fun T54 X54 e54 => ?_)
    refine OD.at 24 (fun t k => zaN X54 (bd 14) rfl rfl (ziN X54 (bd 15) rfl k)) ?_
    obtain ⟨cq55, qa55, qb55⟩ := Eo_.cell
    obtain ⟨_, _, ⟨T55, L55, k55, n55⟩, -, X55, ⟨Lc55, hQ55, l55, y55, z55⟩, st55⟩ := X54.privateBack hx (y := ⟨zZ2, zZ26, "(I)I"⟩) hown (mvT hZ (Wd184 hw)) (mvT hZ (Wd185 hw)) (mvT hZ (own_selP2 (Wd172 hw) (Wd170 hw) (Wd186 hw) (Wd185 hw) rfl (by decide))) (Cond.privateMethod_at (mvP hZ (Wd186 hw) (args := #[]))) (mvT hZ (Wd188 hw)) (by decide) (backOf (W := 2) (rmNC1 hw a1 x1 h0 n0 X00 SS t1 kto_ zbo_ Fbo_ Ao_ V1o_ V2o_ Eo_ r hr (by omega) (by omega) (by omega)) hZ (Wd188 hw) (Wd54 hw) (by decide) (by decide)) (g := (mkF m 24 #[vR a1, vI x1, vI ((zbo_ >>> ((1 : Int32) &&& 31)))] [(.int x1), (.ref a1), (.ref t1), (.ref a1)])) rfl (by rw [hml]; rfl) (Steps.refl _) (a := a1) (by rw [e54]; exact qa55) qb55 (argsL := [(.int x1)]) (rest := [(.ref t1), (.ref a1)]) (lenOf pd20 rfl) rfl (by show 2 * 0 + _ ≤ _; exact Nat.le_of_eq rfl) (bd 16).2 (fun _ _ => ⟨rfl, e54, (nl rfl), (nl rfl)⟩)
    dsimp only [Pt.U, Pt.locs, Pt.cells, Pt.slots] at X55 l55 y55 z55 st55 hQ55
    subst l55 y55 z55
    obtain ⟨rfl, rfl, e55⟩ := hQ55
    try rw [List.append_nil] at X55
    refine OD.via (B := (T55.setTop (mkF m 27 #[vR a1, vI x1, vI ((zbo_ >>> ((1 : Int32) &&& 31)))] [(.int r), (.ref t1), (.ref a1)]))) st55 ?_
    refine OD.at 28 (fun t k => zaN X55 (bd 17) rfl rfl k) ?_
    refine OD.gF X55 (bd 18) hZ hown hw Wd60 Via.refl e55 V2o_ (fun T56 X56 e56 => ?_)
    refine OD.at 32 (fun t k => zishl X56 (bd 19) k) ?_
    refine OD.cS X56 (bd 20) hZ hown hml Wd196 Wd197 Wd198 Wd199 pd28 (rmCO hw t1 (r <<< ((1 : Int32) &&& 31)) h0 n0 Z0 kto_ zbo_ Fbo_ Ao_ (own_ne (by omega)) (by omega) (by omega)) e56 rfl (fun v57 T57 L57 X57 hQ57 => ?_)
    obtain ⟨b57, k57', rfl, Nq57, K57, ob57, Q57, A57⟩ := hQ57
    have N57 := Fr.app N0 Nq57
    have gbb57 : n0 ≤ b57 := nT Z0 ob57
    have f58 := (V1o_.keep K57 nin0)
    have f59 := (Eo_.keep K57)
    obtain ⟨T60, h60, X60, e60, W60, st60⟩ := putF X57 hx hZ hown (host := "") (Or.inl (Wd58 hw)) Via.refl rfl f58 f59 (Or.inl (Wd59 hw)) (Wd35 hw) (ty := (.array .byte)) (by decide) rfl rfl (g := (mkF m 35 #[vR a1, vI x1, vI ((zbo_ >>> ((1 : Int32) &&& 31)))] [(.ref b57), (.ref a1)])) rfl rfl (bd 21).2
    have Fx60 := f58.same W60
    have N60 := Fr.snoc X60 N57 g1
    refine OD.go (B := (T60.setTop (mkF m 38 #[vR a1, vI x1, vI ((zbo_ >>> ((1 : Int32) &&& 31)))] []))) st60 ?_
    have em : own_min zbo_ (r <<< ((1 : Int32) &&& 31)) = zbo_ := own_minL (by omega)
    exact OD.rV X60 (bd 22) hlk hrt ⟨_, rfl, N60, by rw [e60]; exact (((Keep.refl h0 [a1]).trans K57 all0).wr W60 (Or.inl (mG 0 rfl))), (Or.inr (nT Nat.le.refl ob57)), gbb57, by rw [e60]; exact (f59.wr W60), by rw [e60]; exact (Q57.wr W60), by rw [e60]; exact Fx60, by rw [e60]; exact ((V2o_.keep K57 nin0).other W60 (Or.inr (slot_ne (Or.inl (Wd61 hw)) (Or.inl (Wd59 hw)) (by decide) (t := .byte) (t' := (.array .byte)) (by decide) (by decide)))), by rw [e60]; exact ((V3o_.keep K57 nin0).other W60 (Or.inr (slot_ne (Or.inl (Wd168 hw)) (Or.inl (Wd59 hw)) (by decide) (t := .int) (t' := (.array .byte)) (by decide) (by decide)))), by rw [e60]; exact ((V4o_.keep K57 nin0).other W60 (Or.inr (slot_ne (Or.inl (Wd418 hw)) (Or.inl (Wd59 hw)) (by decide) (t := .boolean) (t' := (.array .byte)) (by decide) (by decide)))), _, _, _, by rw [e60]; exact (A57.other W60 (Ne.symm (nN Eo_.lt ob57))), Or.inr ⟨rfl, by omega, by omega, (by rw [em]; exact hCo_.2.2.cut (by omega) (by omega))⟩⟩
  · refine OD.at 38 (fun t k => zjY X52 (bd 10) 38 (flt c14_53).2.2.2 k) ?_
    have cg := own_le c14_53
    have e0' : (0 : Int32).toInt = 0 := rfl
    exact OD.rV X52 (bd 22) hlk hrt ⟨_, rfl, N0, by rw [e52]; exact (Keep.refl h0 [a1]), (Or.inl rfl), gt, by rw [e52]; exact Eo_, by rw [e52]; exact Eto_, by rw [e52]; exact V1o_, by rw [e52]; exact V2o_, by rw [e52]; exact V3o_, by rw [e52]; exact V4o_, _, _, _, by rw [e52]; exact Ao_, Or.inr ⟨rfl, by omega, by omega, hCo_.2.2⟩⟩
def Q_rmPSB (Z : State) (va : Addr) (x1 : Int32) (x2 : Int32) (h0 : Heap) (n0 : Nat) (ka : ClassId) (z : Int32) (F : Int32 → Int32) : QT := fun v h L => v = none ∧ Fr n0 L ∧ Keep h0 h [va] ∧ Arv Z h va ka .byte z (own_rg z.toNatClampNeg (fun x => .int ((own_pc F x1 x2) x))) (.int 0)
theorem rmPSB (va : Addr) (x1 : Int32) (x2 : Int32) (h0 : Heap) (n0 : Nat) (X00 : Old Z n0 h0) (SS : STs Z zc fm u8 hxa kh) (Z0 : n0 ≤ h0.size) (ka : ClassId) (z : Int32) (F : Int32 → Int32) (Aa : Arv Z h0 va ka .byte z (own_rg z.toNatClampNeg (fun x => .int (F x))) (.int 0)) (hb0 : ¬ (x1 <<< ((1 : Int32) &&& 31)) < 0 ∧ (x1 <<< ((1 : Int32) &&& 31)) < z) (hb1 : ¬ ((x1 <<< ((1 : Int32) &&& 31)) + (1 : Int32)) < 0 ∧ ((x1 <<< ((1 : Int32) &&& 31)) + (1 : Int32)) < z) (gv : n0 ≤ va) (hq : ¬ x1 < (0 : Int32) ∧ x1 < (z >>> ((1 : Int32) &&& 31))) :
    MF l hw ⟨zZ1, "putCharSB", "([BII)V"⟩ kQ64 3 none (rO 3 0 0 52) #[(.ref va), (.int x1), (.int x2)] h0 (Q_rmPSB Z va x1 x2 h0 n0 ka z F) := by
  refine MF.of (pF pn4) (ef10 · va x1 x2) dP91 ?_
  intro p e s m below meth c s₁ bd hlk hml hown hnm hrt hZ X0 e0
  have N0 := Fr.nil n0
  refine OD.at 2 (fun t k => ziN X0 (bd 0) rfl (zaN X0 (bd 1) rfl rfl k)) ?_
  refine OD.cS X0 (bd 2) hZ hown hml Wd413 Wd414 Wd17 Wd415 pd12 (rmUCI hw x1 va h0 n0 X00 SS ka z F Aa hq) e0 rfl (fun v51 T51 L51 X51 hQ51 => ?_)
  obtain ⟨rfl, rfl, e51⟩ := hQ51
  try rw [List.append_nil] at X51
  refine OD.at 8 (fun t k => zaN X51 (bd 3) rfl rfl (ziN X51 (bd 4) rfl (ziN X51 (bd 5) rfl k))) ?_
  refine OD.cS X51 (bd 6) hZ hown hml Wd301 Wd302 Wd17 Wd303 pd22 (rmPC hw va x1 x2 h0 n0 X00 SS Z0 ka z F Aa hb0 hb1 gv) e51 rfl (fun v52 T52 L52 X52 hQ52 => ?_)
  obtain ⟨rfl, Nq52, K52, A52⟩ := hQ52
  have N52 := Fr.app N0 Nq52
  exact OD.rV X52 (bd 7) hlk hrt ⟨rfl, N52, by exact ((Keep.refl h0 [va]).trans K52 (allS (Or.inl (mG 0 rfl)) all0)), by exact A52⟩
def Q_rmUIN (Z : State) (vb : Addr) (h0 : Heap) (n0 : Nat) (kb : ClassId) (zd : Int32) (cs : List Int32) : QT := fun v h L => v = none ∧ Fr n0 L ∧ Keep h0 h [vb] ∧ ∃ G : Int32 → Int32, Arv Z h vb kb .byte zd (own_rg zd.toNatClampNeg (fun x => .int (G x))) (.int 0) ∧ RpU G cs
theorem rmUIN (va : Addr) (vb : Addr) (n : Int32) (h0 : Heap) (n0 : Nat) (X00 : Old Z n0 h0) (SS : STs Z zc fm u8 hxa kh) (Z0 : n0 ≤ h0.size) (ka kb : ClassId) (z zd : Int32) (F : Int32 → Int32) (Aa : Arv Z h0 va ka .byte z (own_rg z.toNatClampNeg (fun x => .int (F x))) (.int 0)) (Ab : Arv Z h0 vb kb .byte zd (own_rg zd.toNatClampNeg (fun x => .int (own_z x))) (.int 0)) (nab : va ≠ vb) (gv : n0 ≤ vb) (cs : List Int32) (hR : RpL F cs) (hl : cs.length ≤ 17) (h1 : (cs.length : Int) ≤ z.toInt) (h2 : 2 * (cs.length : Int) ≤ zd.toInt) (hn : n.toInt = cs.length) :
    MF l hw ⟨zZ1, "inflate", zZ27⟩ kQ65 6 none (rO 3 0 0 55) #[(.ref va), (.int 0), (.ref vb), (.int 0), (.int n)] h0 (Q_rmUIN Z vb h0 n0 kb zd cs) := by
  refine MF.of (pF pn4) (ef28 · va (0 : Int32) vb (0 : Int32) n) dP87 ?_
  intro p e s m below meth c s₁ bd hlk hml hown hnm hrt hZ X0 e0
  have hx := (bd 0).1
  have N0 := Fr.nil n0
  refine OD.at 4 (fun t k => ziN X0 (bd 0) rfl (ziL X0 (bd 1) rfl (zaN X0 (bd 2) rfl rfl k))) ?_
  refine OD.cS X0 (bd 3) hZ hown hml Wd401 Wd402 Wd17 Wd403 pd18 (rmUOC hw (0 : Int32) n vb h0 n0 X00 SS kb zd own_z Ab (own_uoc (by omega) (by omega))) e0 rfl (fun v51 T51 L51 X51 hQ51 => ?_)
  obtain ⟨rfl, rfl, e51⟩ := hQ51
  try rw [List.append_nil] at X51
  refine OD.at 10 (fun t k => zcI X51 (bd 4) 0 rfl (zsI X51 (bd 5) #[vR va, vI 0, vR vb, vI 0, vI n, vI 0] rfl k)) ?_
  have loop : ∀ (fu iv : Nat) (G : Int32 → Int32) (Tl : State) (hl' : Heap) (Ll : List Loc), iv + fu = cs.length → Stand p l e (rO 3 0 0 55) s m #[(.ref va), (.int 0), (.ref vb), (.int 0), (.int n)] below meth c Tl Ll 0 0 → Tl.heap = hl' → Fr n0 Ll → Keep h0 hl' [vb] → Arv Z hl' vb kb .byte zd (own_rg zd.toNatClampNeg (fun x => .int (G x))) (.int 0) → RpU G (cs.take iv) → OD p e s below (Q_rmUIN Z vb h0 n0 kb zd cs) (rO 3 0 0 55).cells (rO 3 0 0 55).slots (Tl.setTop (mkF m 10 #[vR va, vI ((Int32.ofNat iv)), vR vb, vI ((Int32.ofNat iv)), vI n, vI ((Int32.ofNat iv))] [])) := by
    intro fu
    induction fu with
    | zero =>
      intro iv G Tl hl' Ll hiv Xl el Nl Kl Al hU
      have Avl := Aa.keep Kl (ninS nab nin0)
      have Ol := X00.keep Kl (allS gv all0)
      have Zl := nT Z0 Kl.1
      have ei := own_on (i := iv) (by omega)
      have hk : ¬ (Int32.ofNat iv) < n := own_mle (by omega)
      have hU : RpU G cs := by rw [List.take_of_length_le (by omega)] at hU; exact hU
      refine OD.at 41 (fun t k => ziL Xl (bd 6) rfl (ziL Xl (bd 7) rfl (zkY Xl (bd 8) 41 (flt hk).2.1 k))) ?_
      exact OD.rV Xl (bd 9) hlk hrt ⟨rfl, Nl, by rw [el]; exact Kl, _, by rw [el]; exact Al, hU⟩
    | succ fu ih =>
      intro iv G Tl hl' Ll hiv Xl el Nl Kl Al hU
      have Avl := Aa.keep Kl (ninS nab nin0)
      have Ol := X00.keep Kl (allS gv all0)
      have Zl := nT Z0 Kl.1
      have ei := own_on (i := iv) (by omega)
      have hi : iv < cs.length := by omega
      have hbi := (hR iv hi).2
      have hk : (Int32.ofNat iv) < n := own_mlt (by omega)
      refine OD.at 27 (fun t k => ziL Xl (bd 6) rfl (ziL Xl (bd 7) rfl (zkN Xl (bd 8) (tlt hk).2.1 (zaN Xl (bd 10) rfl rfl (ziN Xl (bd 11) rfl (zic Xl (bd 12) rfl #[vR va, vI ((Int32.ofNat iv)), vR vb, vI (((Int32.ofNat iv) + (1 : Int32))), vI n, vI ((Int32.ofNat iv))] rfl (zaN Xl (bd 13) rfl rfl (ziN Xl (bd 14) rfl (zic Xl (bd 15) rfl #[vR va, vI (((Int32.ofNat iv) + (1 : Int32))), vR vb, vI (((Int32.ofNat iv) + (1 : Int32))), vI n, vI ((Int32.ofNat iv))] rfl k))))))))) ?_
      obtain ⟨cl52, Ar52, hi52, ha52⟩ := own_at Avl (j := (Int32.ofNat iv)) (v := (.int (F (Int32.ofNat iv)))) (own_in (by omega) (by omega)) (own_rg_at (own_in (by omega) (by omega)) _ _)
      refine OD.at 32 (fun t k => Xl.baloadBytes hx (j := (Int32.ofNat iv)) (v := (.int (F (Int32.ofNat iv)))) (by rw [el]; exact Ar52.1) (State.isArrayOf_alike hZ.alike Ar52.2.1) Ar52.2.2 hi52 ha52 (g := (mkF m 27 #[vR va, vI (((Int32.ofNat iv) + (1 : Int32))), vR vb, vI (((Int32.ofNat iv) + (1 : Int32))), vI n, vI ((Int32.ofNat iv))] [(.int (Int32.ofNat iv)), (.ref va), (.int (Int32.ofNat iv)), (.ref vb)])) rfl rfl (bd 16).2 _ (zcS Xl (bd 17) 255 rfl (ziand Xl (bd 18) k))) ?_
      rw [own_lat hR iv hi]
      refine OD.cS Xl (bd 19) hZ hown hml Wd301 Wd302 Wd17 Wd303 pd22 (rmPC hw vb (Int32.ofNat iv) (cs.getD iv 0) hl' n0 Ol SS Zl kb zd G Al (own_gb (by omega) (by omega) (by omega)).1 (own_gb (by omega) (by omega) (by omega)).2 gv) el rfl (fun v53 T53 L53 X53 hQ53 => ?_)
      obtain ⟨rfl, Nq53, K53, A53⟩ := hQ53
      have N53 := Fr.app Nl Nq53
      refine OD.at 10 (fun t k => zic X53 (bd 20) rfl #[vR va, vI (((Int32.ofNat iv) + (1 : Int32))), vR vb, vI (((Int32.ofNat iv) + (1 : Int32))), vI n, vI (((Int32.ofNat iv) + (1 : Int32)))] rfl (zgO X53 (bd 21) 10 k)) ?_
      rw [own_suc]
      exact ih _ _ _ _ _ (by omega) X53 rfl N53 (Kl.trans K53 (fun x hx => Or.inl hx)) A53 (hU.step hi (by omega) hbi.1 (by omega))
  exact loop _ 0 _ _ _ _ (Nat.zero_add _) X51 e51 N0 (Keep.refl h0 [vb]) Ab (RpU.nil _)
def Q_rmLIN (Z : State) (vb : Addr) (h0 : Heap) (n0 : Nat) (kb : ClassId) (zd : Int32) (cs : List Int32) : QT := fun v h L => v = none ∧ Fr n0 L ∧ Keep h0 h [vb] ∧ ∃ G : Int32 → Int32, Arv Z h vb kb .byte zd (own_rg zd.toNatClampNeg (fun x => .int (G x))) (.int 0) ∧ RpU G cs
theorem rmLIN (va : Addr) (vb : Addr) (n : Int32) (h0 : Heap) (n0 : Nat) (X00 : Old Z n0 h0) (SS : STs Z zc fm u8 hxa kh) (Z0 : n0 ≤ h0.size) (ka kb : ClassId) (z zd : Int32) (F : Int32 → Int32) (Aa : Arv Z h0 va ka .byte z (own_rg z.toNatClampNeg (fun x => .int (F x))) (.int 0)) (Ab : Arv Z h0 vb kb .byte zd (own_rg zd.toNatClampNeg (fun x => .int (own_z x))) (.int 0)) (nab : va ≠ vb) (gv : n0 ≤ vb) (cs : List Int32) (hR : RpL F cs) (hl : cs.length ≤ 17) (h1 : (cs.length : Int) ≤ z.toInt) (h2 : 2 * (cs.length : Int) ≤ zd.toInt) (hn : n.toInt = cs.length) :
    MF l hw ⟨zZ7, "inflate", zZ27⟩ kQ66 5 none (rO 4 0 0 76) #[(.ref va), (.int 0), (.ref vb), (.int 0), (.int n)] h0 (Q_rmLIN Z vb h0 n0 kb zd cs) := by
  refine MF.of (pF pn1) (ef29 · va (0 : Int32) vb (0 : Int32) n) dP86 ?_
  intro p e s m below meth c s₁ bd hlk hml hown hnm hrt hZ X0 e0
  have N0 := Fr.nil n0
  refine OD.at 6 (fun t k => zaN X0 (bd 0) rfl rfl (ziN X0 (bd 1) rfl (zaN X0 (bd 2) rfl rfl (ziN X0 (bd 3) rfl (ziL X0 (bd 4) rfl k))))) ?_
  refine OD.cS X0 (bd 5) hZ hown hml Wd398 Wd399 Wd17 Wd400 pd33 (rmUIN hw va vb n h0 n0 X00 SS Z0 ka kb z zd F Aa Ab nab gv cs hR hl h1 h2 hn) e0 rfl (fun v51 T51 L51 X51 hQ51 => ?_)
  obtain ⟨rfl, Nq51, K51, G51, A51, R51⟩ := hQ51
  have N51 := Fr.app N0 Nq51
  exact OD.rV X51 (bd 6) hlk hrt ⟨rfl, N51, by exact ((Keep.refl h0 [vb]).trans K51 (allS (Or.inl (mG 0 rfl)) all0)), _, by exact A51, R51⟩
def Q_rmINF (Z : State) (a1 : Addr) (h0 : Heap) (n0 : Nat) (cs : List Int32) : QT := fun v h L => ∃ t' : Addr, v = none ∧ Fr n0 L ∧ Keep h0 h [a1] ∧ h0.size ≤ t' ∧ Bdr Z h a1 t' (1 : Int32) cs 1
theorem rmINF (a1 : Addr) (h0 : Heap) (n0 : Nat) (X00 : Old Z n0 h0) (SS : STs Z zc fm u8 hxa kh) (Z0 : n0 ≤ h0.size) (t1 : Addr) (cs : List Int32) (HB : Bdr Z h0 a1 t1 (0 : Int32) cs 1) (hl : cs.length ≤ 17) (g1 : n0 ≤ a1) (gt : n0 ≤ t1) :
    MF l hw ⟨zZ2, "inflate", "()V"⟩ kQ67 2 none (rO 5 1 80 96) #[(.ref a1)] h0 (Q_rmINF Z a1 h0 n0 cs) := by
  refine MF.of (pF pn8) (ef30 · a1) dP85 ?_
  intro p e s m below meth c s₁ bd hlk hml hown hnm hrt hZ X0 e0
  have hx := (bd 0).1
  have N0 := Fr.nil n0
  obtain ⟨Eo_, Eto_, V1o_, V2o_, V3o_, V4o_, kto_, zbo_, Fbo_, Ao_, hCo_⟩ := HB
  have hCo_ := hCo_.l
  have hz0 := own_zpos Ao_
  have ez := own_sl1 (i := zbo_) hz0 (by omega)
  refine OD.at 1 (fun t k => zaN X0 (bd 0) rfl rfl k) ?_
  refine OD.cV X0 (bd 1) hZ hown hml Wd174 Wd175 (nfs hZ (Wd177 hw)) Wd177 Wd176 Wd54 Wd178 pd10 (rmBI0 hw a1 h0 n0 X00 SS V2o_ Eo_) e0 Eo_ rfl (fun v51 T51 L51 X51 hQ51 => ?_)
  obtain ⟨rfl, rfl, e51⟩ := hQ51
  try rw [List.append_nil] at X51
  refine OD.at 9 (fun t k => zjY X51 (bd 2) 8 (feq (by decide : ¬ (1 : Int32) = (0 : Int32))).2 (zaN X51 (bd 3) rfl rfl k)) ?_
  refine OD.gF X51 (bd 4) hZ hown hw Wd58 Via.refl e51 V1o_ (fun T52 X52 e52 => ?_)
  refine OD.at 13 (fun t k => zal X52 (bd 5) hZ e52 Ao_ k) ?_
  refine OD.cS X52 (bd 6) hZ hown hml Wd394 Wd291 Wd17 Wd292 pd21 (rmNBF hw zbo_ h0 n0 Z0 (zbo_ <<< ((1 : Int32) &&& 31)) rfl hz0 (by omega)) e52 rfl (fun v53 T53 L53 X53 hQ53 => ?_)
  obtain ⟨b53, k53', rfl, Nq53, K53, ob53, Q53, A53⟩ := hQ53
  have N53 := Fr.app N0 Nq53
  have gbb53 : n0 ≤ b53 := nT Z0 ob53
  refine OD.at 18 (fun t k => zaT X53 (bd 7) rfl #[vR a1, vR b53] rfl (zaN X53 (bd 8) rfl rfl k)) ?_
  have f54 := (V1o_.keep K53 nin0)
  refine OD.gF X53 (bd 9) hZ hown hw Wd58 Via.refl rfl f54 (fun T55 X55 e55 => ?_)
  refine OD.at 25 (fun t k => zcI X55 (bd 10) 0 rfl (zaN X55 (bd 11) rfl rfl (zcI X55 (bd 12) 0 rfl (zaN X55 (bd 13) rfl rfl k)))) ?_
  have f56 := (V3o_.keep K53 nin0)
  refine OD.gF X55 (bd 14) hZ hown hw Wd167 Via.refl e55 f56 (fun T57 X57 e57 => ?_)
  have f58 := (Ao_.keep K53 nin0)
  refine OD.cS X57 (bd 15) hZ hown hml Wd395 Wd396 Wd99 Wd397 pd33 (rmLIN hw t1 b53 (Int32.ofNat cs.length) T53.heap n0 (X00.keep K53 all0) SS (nT Z0 K53.1) kto_ k53' zbo_ (zbo_ <<< ((1 : Int32) &&& 31)) Fbo_ f58 A53 (nN Eto_.lt ob53) gbb53 cs hCo_.2.2 hl (by omega) (by omega) (own_on (by omega))) e57 rfl (fun v59 T59 L59 X59 hQ59 => ?_)
  obtain ⟨rfl, Nq59, K59, G59, A59, R59⟩ := hQ59
  have N59 := Fr.app N53 Nq59
  refine OD.at 33 (fun t k => zaN X59 (bd 16) rfl rfl (zaN X59 (bd 17) rfl rfl k)) ?_
  have f60 := (f54.keep K59 (ninS (nN Eo_.lt ob53) nin0))
  have f61 := ((Eo_.keep K53).keep K59)
  obtain ⟨T62, h62, X62, e62, W62, st62⟩ := putF X59 hx hZ hown (host := "") (Or.inl (Wd58 hw)) Via.refl rfl f60 f61 (Or.inl (Wd59 hw)) (Wd35 hw) (ty := (.array .byte)) (by decide) rfl rfl (g := (mkF m 33 #[vR a1, vR b53] [(.ref b53), (.ref a1)])) rfl rfl (bd 18).2
  have Fx62 := f60.same W62
  have N62 := Fr.snoc X62 N59 g1
  refine OD.go (B := (T62.setTop (mkF m 36 #[vR a1, vR b53] []))) st62 ?_
  refine OD.at 38 (fun t k => zaN X62 (bd 19) rfl rfl (zcI X62 (bd 20) 1 rfl k)) ?_
  have f63 := (((V2o_.keep K53 nin0).keep K59 (ninS (nN Eo_.lt ob53) nin0)).other W62 (Or.inr (slot_ne (Or.inl (Wd61 hw)) (Or.inl (Wd59 hw)) (by decide) (t := .byte) (t' := (.array .byte)) (by decide) (by decide))))
  have f64 := (f61.wr W62)
  obtain ⟨T65, h65, X65, e65, W65, st65⟩ := putFN X62 hx hZ hown (Wd60 hw) Via.refl e62 f63 f64 (Or.inl (Wd61 hw)) (Wd35 hw) (ty := .byte) (v' := (.int 1)) (by decide) rfl (by decide) (g := (mkF m 38 #[vR a1, vR b53] [(.int 1), (.ref a1)])) rfl rfl (bd 21).2
  have Fx65 := f63.same W65
  have N65 := Fr.snoc X65 N62 g1
  refine OD.go (B := (T65.setTop (mkF m 41 #[vR a1, vR b53] []))) st65 ?_
  exact OD.rV X65 (bd 22) hlk hrt ⟨_, rfl, N65, by rw [e65]; exact (((((Keep.refl h0 [a1]).trans K53 all0).trans K59 (allS (Or.inr (nT Nat.le.refl ob53)) all0)).wr W62 (Or.inl (mG 0 rfl))).wr W65 (Or.inl (mG 0 rfl))), (nT Nat.le.refl ob53), by rw [e65]; exact (f64.wr W65), by rw [e65]; exact (((Q53.keep K59).wr W62).wr W65), by rw [e65]; exact (Fx62.other W65 (Or.inr (slot_ne (Or.inl (Wd59 hw)) (Or.inl (Wd61 hw)) (by decide) (t := (.array .byte)) (t' := .byte) (by decide) (by decide)))), by rw [e65]; exact Fx65, by rw [e65]; exact (((f56.keep K59 (ninS (nN Eo_.lt ob53) nin0)).other W62 (Or.inr (slot_ne (Or.inl (Wd168 hw)) (Or.inl (Wd59 hw)) (by decide) (t := .int) (t' := (.array .byte)) (by decide) (by decide)))).other W65 (Or.inr (slot_ne (Or.inl (Wd168 hw)) (Or.inl (Wd61 hw)) (by decide) (t := .int) (t' := .byte) (by decide) (by decide)))), by rw [e65]; exact ((((V4o_.keep K53 nin0).keep K59 (ninS (nN Eo_.lt ob53) nin0)).other W62 (Or.inr (slot_ne (Or.inl (Wd418 hw)) (Or.inl (Wd59 hw)) (by decide) (t := .boolean) (t' := (.array .byte)) (by decide) (by decide)))).other W65 (Or.inr (slot_ne (Or.inl (Wd418 hw)) (Or.inl (Wd61 hw)) (by decide) (t := .boolean) (t' := .byte) (by decide) (by decide)))), _, _, _, by rw [e65]; exact ((A59.other W62 (Ne.symm (nN Eo_.lt ob53))).other W65 (Ne.symm (nN Eo_.lt ob53))), Or.inr ⟨rfl, by omega, by omega, R59⟩⟩
def Q_rmAAS0 (Z : State) (a1 : Addr) (x1 : Int32) (h0 : Heap) (n0 : Nat) (t1 : Addr) (cs : List Int32) : QT := fun v h L => ∃ t' : Addr, v = some (.ref a1) ∧ Fr n0 L ∧ Keep h0 h [a1, t1] ∧ (t' = t1 ∨ h0.size ≤ t') ∧ n0 ≤ t' ∧ Bdx Z h a1 t' (cs ++ [x1])
theorem rmAAS0 (a1 : Addr) (x1 : Int32) (h0 : Heap) (n0 : Nat) (X00 : Old Z n0 h0) (SS : STs Z zc fm u8 hxa kh) (Z0 : n0 ≤ h0.size) (t1 : Addr) (cs : List Int32) (HB : Bdr Z h0 a1 t1 (0 : Int32) cs 0) (hl : cs.length ≤ 17) (g1 : n0 ≤ a1) (gt : n0 ≤ t1) (u0 : 0 ≤ x1.toInt) (w0 : x1.toInt ≤ 65535) (hs : ¬ own_canEncodeC x1 = (0 : Int32)) :
    MF l hw ⟨zZ2, "append", zZ13⟩ kQ68 2 (some (.object zZ2)) (rO 6 1 80 113) #[(.ref a1), (.int x1)] h0 (Q_rmAAS0 Z a1 x1 h0 n0 t1 cs) := by
  refine MF.of (pF pn8) (ef9 · a1 x1) dP33 ?_
  intro p e s m below meth c s₁ bd hlk hml hown hnm hrt hZ X0 e0
  have hx := (bd 0).1
  have N0 := Fr.nil n0
  refine OD.at 2 (fun t k => zaN X0 (bd 0) rfl rfl (zaN X0 (bd 1) rfl rfl k)) ?_
  refine OD.gF X0 (bd 2) hZ hown hw Wd167 Via.refl e0 HB.2.2.2.2.1 (fun T51 X51 e51 => ?_)
  refine OD.at 7 (fun t k => zcI X51 (bd 3) 1 rfl (ziadd X51 (bd 4) k)) ?_
  obtain ⟨cq52, qa52, qb52⟩ := HB.1.cell
  obtain ⟨_, _, ⟨T52, L52, k52, n52⟩, -, X52, ⟨Lc52, hQ52, l52, y52, z52⟩, st52⟩ := X51.privateBack hx (y := ⟨zZ2, zZ15, "(I)V"⟩) hown (mvT hZ (Wd169 hw)) (mvT hZ (Wd170 hw)) (mvT hZ (own_selP2 (Wd172 hw) (Wd170 hw) (Wd171 hw) (Wd170 hw) rfl (by decide))) (Cond.privateMethod_at (mvP hZ (Wd171 hw) (args := #[]))) (mvT hZ (Wd173 hw)) (by decide) (backOf (W := 0) (rmEC0 hw a1 ((Int32.ofNat cs.length) + (1 : Int32)) h0 n0 X00 SS Z0 t1 cs HB hl g1 gt (by rw [own_cnt cs 0, own_on (by rw [List.length_append]; simp; omega), List.length_append]; simp)) hZ (Wd173 hw) (Wd54 hw) (by decide) (by decide)) (g := (mkF m 7 #[vR a1, vI x1] [(.int ((Int32.ofNat cs.length) + (1 : Int32))), (.ref a1)])) rfl (by rw [hml]; rfl) (Steps.refl _) (a := a1) (by rw [e51]; exact qa52) qb52 (argsL := [(.int ((Int32.ofNat cs.length) + (1 : Int32)))]) (rest := []) (lenOf pd34 rfl) rfl (by show 2 * 0 + _ ≤ _; exact Nat.le_of_eq rfl) (bd 5).2 (fun _ _ => ⟨rfl, e51, (nl rfl), (nl rfl)⟩)
  dsimp only [Pt.U, Pt.locs, Pt.cells, Pt.slots] at X52 l52 y52 z52 st52 hQ52
  subst l52 y52 z52
  obtain ⟨t52, rfl, Nq52, K52, ot52, gt52, B52⟩ := hQ52
  have N52 := Fr.app N0 Nq52
  obtain ⟨E52_, Et52_, V152_, V252_, V352_, V452_, kt52_, zb52_, Fb52_, A52_, hC52_⟩ := B52
  have hC52_ := hC52_.l
  refine OD.via (B := (T52.setTop (mkF m 10 #[vR a1, vI x1] []))) st52 ?_
  refine OD.at 11 (fun t k => zaN X52 (bd 6) rfl rfl k) ?_
  refine OD.cV X52 (bd 7) hZ hown hml Wd174 Wd175 (nfs hZ (Wd177 hw)) Wd177 Wd176 Wd54 Wd178 pd10 (rmBI0 hw a1 T52.heap n0 (X00.keep K52 (allS g1 all0)) SS V252_ E52_) rfl E52_ rfl (fun v53 T53 L53 X53 hQ53 => ?_)
  obtain ⟨rfl, rfl, e53⟩ := hQ53
  try rw [List.append_nil] at X53
  refine OD.at 18 (fun t k => zjN X53 (bd 8) (feq (by decide : ¬ (1 : Int32) = (0 : Int32))).1 (ziN X53 (bd 9) rfl k)) ?_
  refine OD.cS X53 (bd 10) hZ hown hml Wd179 Wd180 Wd99 Wd181 pd14 (rm_canEncodeC hw x1 T52.heap) e53 rfl (fun v54 T54 L54 X54 hQ54 => ?_)
  obtain ⟨rfl, rfl, e54⟩ := hQ54
  try rw [List.append_nil] at X54
  refine OD.at 25 (fun t k => zjN X54 (bd 11) (feq hs).1 (zaN X54 (bd 12) rfl rfl k)) ?_
  refine OD.gF X54 (bd 13) hZ hown hw Wd58 Via.refl e54 V152_ (fun T55 X55 e55 => ?_)
  refine OD.at 30 (fun t k => zaN X55 (bd 14) rfl rfl (XS.dup X55.here hx rfl (bd 15).2 rfl rfl k)) ?_
  refine OD.gF X55 (bd 16) hZ hown hw Wd167 Via.refl e55 V352_ (fun T56 X56 e56 => ?_)
  refine OD.at 36 (fun t k => XS.dupX1 X56.here hx rfl (bd 17).2 rfl rfl rfl (zcI X56 (bd 18) 1 rfl (ziadd X56 (bd 19) k))) ?_
  obtain ⟨T57, h57, X57, e57, W57, st57⟩ := putF X56 hx hZ hown (host := "") (Or.inl (Wd167 hw)) Via.refl e56 V352_ E52_ (Or.inl (Wd168 hw)) (Wd35 hw) (ty := .int) (by decide) rfl rfl (g := (mkF m 36 #[vR a1, vI x1] [(.int ((Int32.ofNat cs.length) + (1 : Int32))), (.ref a1), (.int (Int32.ofNat cs.length)), (.ref t52)])) rfl rfl (bd 20).2
  have Fx57 := V352_.same W57
  have N57 := Fr.snoc X57 N52 g1
  refine OD.go (B := (T57.setTop (mkF m 39 #[vR a1, vI x1] [(.int (Int32.ofNat cs.length)), (.ref t52)]))) st57 ?_
  refine OD.at 41 (fun t k => ziN X57 (bd 21) rfl (zi2b X57 (bd 22) k)) ?_
  have f58 := (A52_.other W57 (Exa.ne (Et52_.wr W57) (E52_.wr W57) (by decide)))
  obtain ⟨cl60, Ar60, q60, S60, M60, H60, G60⟩ := id f58
  obtain ⟨T60, h60, X60, e60, W60, st60⟩ := stB X57 hx hZ e57 Ar60 (j := (Int32.ofNat cs.length)) (inb_of S60 (own_in (by rw [own_on (by omega)]; omega) (by rw [own_on (by omega)]; have := hC52_; omega))) (g := (mkF m 41 #[vR a1, vI x1] [(.int x1.toInt8.toInt32), (.int (Int32.ofNat cs.length)), (.ref t52)])) rfl rfl (bd 23).2
  have V60 : Arv Z h60 t52 kt52_ .byte zb52_ (own_rg zb52_.toNatClampNeg (fun x => .int ((own_up Fb52_ (Int32.ofNat cs.length) x1.toInt8.toInt32.toInt8.toInt32) x))) (.int 0) := own_put (fun x => .int ((own_up Fb52_ (Int32.ofNat cs.length) x1.toInt8.toInt32.toInt8.toInt32) x)) Ar60 q60 S60 M60 H60 G60 (fits_nar_byte _) W60 (own_in (by rw [own_on (by omega)]; omega) (by rw [own_on (by omega)]; have := hC52_; omega)) (congrArg Value.int (own_up_at _ _ _)) (fun x q => congrArg Value.int (own_up_ne _ _ q))
  have N60 := Fr.snoc X60 N57 gt52
  refine OD.go (B := (T60.setTop (mkF m 42 #[vR a1, vI x1] []))) st60 ?_
  refine OD.at 76 (fun t k => zgO X60 (bd 24) 75 (zaN X60 (bd 25) rfl rfl k)) ?_
  exact OD.rA X60 (bd 26) hlk hrt rfl rfl rfl ⟨_, rfl, N60, by rw [e60]; exact ((((Keep.refl h0 [a1, t1]).trans K52 (allS (Or.inl (mG 0 rfl)) all0)).wr W57 (Or.inl (mG 0 rfl))).wr W60 (own_inws (own_or2 ot52 (Or.inl rfl) Nat.le.refl) (mG 1 rfl))), (own_or2 ot52 (Or.inl rfl) Nat.le.refl), gt52, _, Or.inl rfl, by rw [e60]; exact ((E52_.wr W57).wr W60), by rw [e60]; exact ((Et52_.wr W57).wr W60), by rw [e60]; exact ((V152_.other W57 (Or.inr (slot_ne (Or.inl (Wd59 hw)) (Or.inl (Wd168 hw)) (by decide) (t := (.array .byte)) (t' := .int) (by decide) (by decide)))).other W60 (Or.inl (Exa.ne ((E52_.wr W57).wr W60) ((Et52_.wr W57).wr W60) (by decide)))), by rw [e60]; exact ((V252_.other W57 (Or.inr (slot_ne (Or.inl (Wd61 hw)) (Or.inl (Wd168 hw)) (by decide) (t := .byte) (t' := .int) (by decide) (by decide)))).other W60 (Or.inl (Exa.ne ((E52_.wr W57).wr W60) ((Et52_.wr W57).wr W60) (by decide)))), by rw [e60, ← own_cnt cs x1]; exact (Fx57.other W60 (Or.inl (Exa.ne ((E52_.wr W57).wr W60) ((Et52_.wr W57).wr W60) (by decide)))), by rw [e60]; exact ((V452_.other W57 (Or.inr (slot_ne (Or.inl (Wd418 hw)) (Or.inl (Wd168 hw)) (by decide) (t := .boolean) (t' := .int) (by decide) (by decide)))).other W60 (Or.inl (Exa.ne ((E52_.wr W57).wr W60) ((Et52_.wr W57).wr W60) (by decide)))), _, _, _, by rw [e60]; exact V60, Or.inl ⟨rfl, by simp only [List.length_append, List.length_cons, List.length_nil]; omega, by omega, hC52_.2.2.app (by omega) u0 (own_ceC hs)⟩⟩
def Q_rmAAG0 (Z : State) (a1 : Addr) (x1 : Int32) (h0 : Heap) (n0 : Nat) (t1 : Addr) (cs : List Int32) : QT := fun v h L => ∃ t' : Addr, v = some (.ref a1) ∧ Fr n0 L ∧ Keep h0 h [a1, t1] ∧ (t' = t1 ∨ h0.size ≤ t') ∧ n0 ≤ t' ∧ Bdx Z h a1 t' (cs ++ [x1])
theorem rmAAG0 (a1 : Addr) (x1 : Int32) (h0 : Heap) (n0 : Nat) (X00 : Old Z n0 h0) (SS : STs Z zc fm u8 hxa kh) (Z0 : n0 ≤ h0.size) (t1 : Addr) (cs : List Int32) (HB : Bdr Z h0 a1 t1 (0 : Int32) cs 0) (hl : cs.length ≤ 17) (g1 : n0 ≤ a1) (gt : n0 ≤ t1) (u0 : 0 ≤ x1.toInt) (w0 : x1.toInt ≤ 65535) (hs : own_canEncodeC x1 = (0 : Int32)) :
    MF l hw ⟨zZ2, "append", zZ13⟩ kQ68 2 (some (.object zZ2)) (rO 6 2 160 113) #[(.ref a1), (.int x1)] h0 (Q_rmAAG0 Z a1 x1 h0 n0 t1 cs) := by
  refine MF.of (pF pn8) (ef9 · a1 x1) dP33 ?_
  intro p e s m below meth c s₁ bd hlk hml hown hnm hrt hZ X0 e0
  have hx := (bd 0).1
  have N0 := Fr.nil n0
  refine OD.at 2 (fun t k => zaN X0 (bd 0) rfl rfl (zaN X0 (bd 1) rfl rfl k)) ?_
  refine OD.gF X0 (bd 2) hZ hown hw Wd167 Via.refl e0 HB.2.2.2.2.1 (fun T51 X51 e51 => ?_)
  refine OD.at 7 (fun t k => zcI X51 (bd 3) 1 rfl (ziadd X51 (bd 4) k)) ?_
  obtain ⟨cq52, qa52, qb52⟩ := HB.1.cell
  obtain ⟨_, _, ⟨T52, L52, k52, n52⟩, -, X52, ⟨Lc52, hQ52, l52, y52, z52⟩, st52⟩ := X51.privateBack hx (y := ⟨zZ2, zZ15, "(I)V"⟩) hown (mvT hZ (Wd169 hw)) (mvT hZ (Wd170 hw)) (mvT hZ (own_selP2 (Wd172 hw) (Wd170 hw) (Wd171 hw) (Wd170 hw) rfl (by decide))) (Cond.privateMethod_at (mvP hZ (Wd171 hw) (args := #[]))) (mvT hZ (Wd173 hw)) (by decide) (backOf (W := 0) (rmEC0 hw a1 ((Int32.ofNat cs.length) + (1 : Int32)) h0 n0 X00 SS Z0 t1 cs HB hl g1 gt (by rw [own_cnt cs 0, own_on (by rw [List.length_append]; simp; omega), List.length_append]; simp)) hZ (Wd173 hw) (Wd54 hw) (by decide) (by decide)) (g := (mkF m 7 #[vR a1, vI x1] [(.int ((Int32.ofNat cs.length) + (1 : Int32))), (.ref a1)])) rfl (by rw [hml]; rfl) (Steps.refl _) (a := a1) (by rw [e51]; exact qa52) qb52 (argsL := [(.int ((Int32.ofNat cs.length) + (1 : Int32)))]) (rest := []) (lenOf pd34 rfl) rfl (by show 2 * 0 + _ ≤ _; exact Nat.le_of_eq rfl) (bd 5).2 (fun _ _ => ⟨rfl, e51, (nl rfl), (nl rfl)⟩)
  dsimp only [Pt.U, Pt.locs, Pt.cells, Pt.slots] at X52 l52 y52 z52 st52 hQ52
  subst l52 y52 z52
  obtain ⟨t52, rfl, Nq52, K52, ot52, gt52, B52⟩ := hQ52
  have N52 := Fr.app N0 Nq52
  obtain ⟨E52_, Et52_, V152_, V252_, V352_, V452_, kt52_, zb52_, Fb52_, A52_, hC52_⟩ := B52
  have hC52_ := hC52_.l
  refine OD.via (B := (T52.setTop (mkF m 10 #[vR a1, vI x1] []))) st52 ?_
  refine OD.at 11 (fun t k => zaN X52 (bd 6) rfl rfl k) ?_
  refine OD.cV X52 (bd 7) hZ hown hml Wd174 Wd175 (nfs hZ (Wd177 hw)) Wd177 Wd176 Wd54 Wd178 pd10 (rmBI0 hw a1 T52.heap n0 (X00.keep K52 (allS g1 all0)) SS V252_ E52_) rfl E52_ rfl (fun v53 T53 L53 X53 hQ53 => ?_)
  obtain ⟨rfl, rfl, e53⟩ := hQ53
  try rw [List.append_nil] at X53
  refine OD.at 18 (fun t k => zjN X53 (bd 8) (feq (by decide : ¬ (1 : Int32) = (0 : Int32))).1 (ziN X53 (bd 9) rfl k)) ?_
  refine OD.cS X53 (bd 10) hZ hown hml Wd179 Wd180 Wd99 Wd181 pd14 (rm_canEncodeC hw x1 T52.heap) e53 rfl (fun v54 T54 L54 X54 hQ54 => ?_)
  obtain ⟨rfl, rfl, e54⟩ := hQ54
  try rw [List.append_nil] at X54
  refine OD.at 46 (fun t k => zjY X54 (bd 11) 45 (teq hs).1 (zaN X54 (bd 27) rfl rfl k)) ?_
  refine OD.cV X54 (bd 28) hZ hown hml Wd174 Wd175 (nfs hZ (Wd177 hw)) Wd177 Wd176 Wd54 Wd178 pd10 (rmBI0 hw a1 T52.heap n0 (X00.keep K52 (allS g1 all0)) SS V252_ E52_) e54 E52_ rfl (fun v55 T55 L55 X55 hQ55 => ?_)
  obtain ⟨rfl, rfl, e55⟩ := hQ55
  try rw [List.append_nil] at X55
  refine OD.at 53 (fun t k => zjN X55 (bd 29) (feq (by decide : ¬ (1 : Int32) = (0 : Int32))).1 (zaN X55 (bd 30) rfl rfl k)) ?_
  have HBi : Bdr Z T52.heap a1 t52 (0 : Int32) cs 1 := ⟨E52_, Et52_, V152_, V252_, V352_, V452_, _, _, _, A52_, Or.inl ⟨rfl, hC52_⟩⟩
  obtain ⟨cq56, qa56, qb56⟩ := E52_.cell
  obtain ⟨_, _, ⟨T56, L56, k56, n56⟩, -, X56, ⟨Lc56, hQ56, l56, y56, z56⟩, st56⟩ := X55.privateBack hx (y := ⟨zZ2, "inflate", "()V"⟩) hown (mvT hZ (Wd389 hw)) (mvT hZ (Wd390 hw)) (mvT hZ (own_selP2 (Wd172 hw) (Wd170 hw) (Wd391 hw) (Wd390 hw) rfl (by decide))) (Cond.privateMethod_at (mvP hZ (Wd391 hw) (args := #[]))) (mvT hZ (Wd393 hw)) (by decide) (backOf (W := 0) (rmINF hw a1 T52.heap n0 (X00.keep K52 (allS g1 all0)) SS (nT Z0 K52.1) t52 cs HBi hl g1 gt52) hZ (Wd393 hw) (Wd54 hw) (by decide) (by decide)) (g := (mkF m 53 #[vR a1, vI x1] [(.ref a1)])) rfl (by rw [hml]; rfl) (Steps.refl _) (a := a1) (by rw [e55]; exact qa56) qb56 (argsL := []) (rest := []) (lenOf pd35 rfl) rfl (by show 2 * 0 + _ ≤ _; exact Nat.le_of_eq rfl) (bd 31).2 (fun _ _ => ⟨rfl, e55, (nl rfl), (nl rfl)⟩)
  dsimp only [Pt.U, Pt.locs, Pt.cells, Pt.slots] at X56 l56 y56 z56 st56 hQ56
  subst l56 y56 z56
  obtain ⟨t56, rfl, Nq56, K56, ob56, B56⟩ := hQ56
  have N56 := Fr.app N52 Nq56
  have gbt56 : n0 ≤ t56 := nT (nT Z0 K52.1) ob56
  obtain ⟨E56_, Et56_, V156_, V256_, V356_, V456_, kt56_, zb56_, Fb56_, A56_, hC56_⟩ := B56
  have hC56_ := hC56_.u
  refine OD.via (B := (T56.setTop (mkF m 56 #[vR a1, vI x1] []))) st56 ?_
  refine OD.at 57 (fun t k => zaN X56 (bd 32) rfl rfl k) ?_
  refine OD.gF X56 (bd 33) hZ hown hw Wd58 Via.refl rfl V156_ (fun T57 X57 e57 => ?_)
  refine OD.at 62 (fun t k => zaN X57 (bd 34) rfl rfl (XS.dup X57.here hx rfl (bd 35).2 rfl rfl k)) ?_
  refine OD.gF X57 (bd 36) hZ hown hw Wd167 Via.refl e57 V356_ (fun T58 X58 e58 => ?_)
  refine OD.at 68 (fun t k => XS.dupX1 X58.here hx rfl (bd 37).2 rfl rfl rfl (zcI X58 (bd 38) 1 rfl (ziadd X58 (bd 39) k))) ?_
  obtain ⟨T59, h59, X59, e59, W59, st59⟩ := putF X58 hx hZ hown (host := "") (Or.inl (Wd167 hw)) Via.refl e58 V356_ E56_ (Or.inl (Wd168 hw)) (Wd35 hw) (ty := .int) (by decide) rfl rfl (g := (mkF m 68 #[vR a1, vI x1] [(.int ((Int32.ofNat cs.length) + (1 : Int32))), (.ref a1), (.int (Int32.ofNat cs.length)), (.ref t56)])) rfl rfl (bd 40).2
  have Fx59 := V356_.same W59
  have N59 := Fr.snoc X59 N56 g1
  refine OD.go (B := (T59.setTop (mkF m 71 #[vR a1, vI x1] [(.int (Int32.ofNat cs.length)), (.ref t56)]))) st59 ?_
  refine OD.at 72 (fun t k => ziN X59 (bd 41) rfl k) ?_
  have f60 := (A56_.other W59 (Ne.symm (nN (nU HB.1.lt K52.1) ob56)))
  refine OD.cS X59 (bd 42) hZ hown hml Wd410 Wd411 Wd17 Wd412 pd22 (rmPSB hw t56 (Int32.ofNat cs.length) x1 h59 n0 (((X00.keep K52 (allS g1 all0)).keep K56 (allS g1 all0)).wr W59 g1) SS (nT (nT (nT Z0 K52.1) K56.1) (Keep.of_wr W59).1) kt56_ zb56_ Fb56_ f60 (own_gb (by rw [own_on (by omega)]; omega) (by rw [own_on (by omega)]; have := hC56_; omega) (by rw [own_on (by omega)]; omega)).1 (own_gb (by rw [own_on (by omega)]; omega) (by rw [own_on (by omega)]; have := hC56_; omega) (by rw [own_on (by omega)]; omega)).2 gbt56 (own_in1 (by rw [own_on (by omega)]; omega) (by rw [own_on (by omega)]; have := hC56_; omega))) e59 rfl (fun v61 T61 L61 X61 hQ61 => ?_)
  obtain ⟨rfl, Nq61, K61, A61⟩ := hQ61
  have N61 := Fr.app N59 Nq61
  refine OD.at 76 (fun t k => zaN X61 (bd 25) rfl rfl k) ?_
  exact OD.rA X61 (bd 26) hlk hrt rfl rfl rfl ⟨_, rfl, N61, by exact (((((Keep.refl h0 [a1, t1]).trans K52 (allS (Or.inl (mG 0 rfl)) all0)).trans K56 (allS (Or.inl (mG 0 rfl)) all0)).wr W59 (Or.inl (mG 0 rfl))).trans K61 (allS (Or.inr (nT (nT Nat.le.refl K52.1) ob56)) all0)), (Or.inr (nT (nT Nat.le.refl K52.1) ob56)), gbt56, _, Or.inr rfl, by exact ((E56_.wr W59).keep K61), by exact ((Et56_.wr W59).keep K61), by exact ((V156_.other W59 (Or.inr (slot_ne (Or.inl (Wd59 hw)) (Or.inl (Wd168 hw)) (by decide) (t := (.array .byte)) (t' := .int) (by decide) (by decide)))).keep K61 (ninS (nN (nU HB.1.lt K52.1) ob56) nin0)), by exact ((V256_.other W59 (Or.inr (slot_ne (Or.inl (Wd61 hw)) (Or.inl (Wd168 hw)) (by decide) (t := .byte) (t' := .int) (by decide) (by decide)))).keep K61 (ninS (nN (nU HB.1.lt K52.1) ob56) nin0)), by rw [← own_cnt cs x1]; exact (Fx59.keep K61 (ninS (nN (nU HB.1.lt K52.1) ob56) nin0)), by exact ((V456_.other W59 (Or.inr (slot_ne (Or.inl (Wd418 hw)) (Or.inl (Wd168 hw)) (by decide) (t := .boolean) (t' := .int) (by decide) (by decide)))).keep K61 (ninS (nN (nU HB.1.lt K52.1) ob56) nin0)), _, _, _, by exact A61, Or.inr ⟨rfl, by simp only [List.length_append, List.length_cons, List.length_nil]; omega, by omega, hC56_.2.2.app (by omega) u0 w0⟩⟩
def Q_rmAAA1 (Z : State) (a1 : Addr) (x1 : Int32) (h0 : Heap) (n0 : Nat) (t1 : Addr) (cs : List Int32) : QT := fun v h L => ∃ t' : Addr, v = some (.ref a1) ∧ Fr n0 L ∧ Keep h0 h [a1, t1] ∧ (t' = t1 ∨ h0.size ≤ t') ∧ n0 ≤ t' ∧ Bdx Z h a1 t' (cs ++ [x1])
theorem rmAAA1 (a1 : Addr) (x1 : Int32) (h0 : Heap) (n0 : Nat) (X00 : Old Z n0 h0) (SS : STs Z zc fm u8 hxa kh) (Z0 : n0 ≤ h0.size) (t1 : Addr) (cs : List Int32) (HB : Bdr Z h0 a1 t1 (1 : Int32) cs 0) (hl : cs.length ≤ 17) (g1 : n0 ≤ a1) (gt : n0 ≤ t1) (u0 : 0 ≤ x1.toInt) (w0 : x1.toInt ≤ 65535) :
    MF l hw ⟨zZ2, "append", zZ13⟩ kQ68 2 (some (.object zZ2)) (rO 6 1 80 113) #[(.ref a1), (.int x1)] h0 (Q_rmAAA1 Z a1 x1 h0 n0 t1 cs) := by
  refine MF.of (pF pn8) (ef9 · a1 x1) dP33 ?_
  intro p e s m below meth c s₁ bd hlk hml hown hnm hrt hZ X0 e0
  have hx := (bd 0).1
  have N0 := Fr.nil n0
  refine OD.at 2 (fun t k => zaN X0 (bd 0) rfl rfl (zaN X0 (bd 1) rfl rfl k)) ?_
  refine OD.gF X0 (bd 2) hZ hown hw Wd167 Via.refl e0 HB.2.2.2.2.1 (fun T51 X51 e51 => ?_)
  refine OD.at 7 (fun t k => zcI X51 (bd 3) 1 rfl (ziadd X51 (bd 4) k)) ?_
  obtain ⟨cq52, qa52, qb52⟩ := HB.1.cell
  obtain ⟨_, _, ⟨T52, L52, k52, n52⟩, -, X52, ⟨Lc52, hQ52, l52, y52, z52⟩, st52⟩ := X51.privateBack hx (y := ⟨zZ2, zZ15, "(I)V"⟩) hown (mvT hZ (Wd169 hw)) (mvT hZ (Wd170 hw)) (mvT hZ (own_selP2 (Wd172 hw) (Wd170 hw) (Wd171 hw) (Wd170 hw) rfl (by decide))) (Cond.privateMethod_at (mvP hZ (Wd171 hw) (args := #[]))) (mvT hZ (Wd173 hw)) (by decide) (backOf (W := 0) (rmEC1 hw a1 ((Int32.ofNat cs.length) + (1 : Int32)) h0 n0 X00 SS Z0 t1 cs HB hl g1 gt (by rw [own_cnt cs 0, own_on (by rw [List.length_append]; simp; omega), List.length_append]; simp)) hZ (Wd173 hw) (Wd54 hw) (by decide) (by decide)) (g := (mkF m 7 #[vR a1, vI x1] [(.int ((Int32.ofNat cs.length) + (1 : Int32))), (.ref a1)])) rfl (by rw [hml]; rfl) (Steps.refl _) (a := a1) (by rw [e51]; exact qa52) qb52 (argsL := [(.int ((Int32.ofNat cs.length) + (1 : Int32)))]) (rest := []) (lenOf pd34 rfl) rfl (by show 2 * 0 + _ ≤ _; exact Nat.le_of_eq rfl) (bd 5).2 (fun _ _ => ⟨rfl, e51, (nl rfl), (nl rfl)⟩)
  dsimp only [Pt.U, Pt.locs, Pt.cells, Pt.slots] at X52 l52 y52 z52 st52 hQ52
  subst l52 y52 z52
  obtain ⟨t52, rfl, Nq52, K52, ot52, gt52, B52⟩ := hQ52
  have N52 := Fr.app N0 Nq52
  obtain ⟨E52_, Et52_, V152_, V252_, V352_, V452_, kt52_, zb52_, Fb52_, A52_, hC52_⟩ := B52
  have hC52_ := hC52_.u
  refine OD.via (B := (T52.setTop (mkF m 10 #[vR a1, vI x1] []))) st52 ?_
  refine OD.at 11 (fun t k => zaN X52 (bd 6) rfl rfl k) ?_
  refine OD.cV X52 (bd 7) hZ hown hml Wd174 Wd175 (nfs hZ (Wd177 hw)) Wd177 Wd176 Wd54 Wd178 pd10 (rmBI1 hw a1 T52.heap n0 (X00.keep K52 (allS g1 all0)) SS V252_ E52_) rfl E52_ rfl (fun v53 T53 L53 X53 hQ53 => ?_)
  obtain ⟨rfl, rfl, e53⟩ := hQ53
  try rw [List.append_nil] at X53
  refine OD.at 46 (fun t k => zjY X53 (bd 8) 45 (teq (by decide : (0 : Int32) = (0 : Int32))).1 (zaN X53 (bd 27) rfl rfl k)) ?_
  refine OD.cV X53 (bd 28) hZ hown hml Wd174 Wd175 (nfs hZ (Wd177 hw)) Wd177 Wd176 Wd54 Wd178 pd10 (rmBI1 hw a1 T52.heap n0 (X00.keep K52 (allS g1 all0)) SS V252_ E52_) e53 E52_ rfl (fun v54 T54 L54 X54 hQ54 => ?_)
  obtain ⟨rfl, rfl, e54⟩ := hQ54
  try rw [List.append_nil] at X54
  refine OD.at 57 (fun t k => zjY X54 (bd 29) 56 (teq (by decide : (0 : Int32) = (0 : Int32))).1 (zaN X54 (bd 32) rfl rfl k)) ?_
  refine OD.gF X54 (bd 33) hZ hown hw Wd58 Via.refl e54 V152_ (fun T55 X55 e55 => ?_)
  refine OD.at 62 (fun t k => zaN X55 (bd 34) rfl rfl (XS.dup X55.here hx rfl (bd 35).2 rfl rfl k)) ?_
  refine OD.gF X55 (bd 36) hZ hown hw Wd167 Via.refl e55 V352_ (fun T56 X56 e56 => ?_)
  refine OD.at 68 (fun t k => XS.dupX1 X56.here hx rfl (bd 37).2 rfl rfl rfl (zcI X56 (bd 38) 1 rfl (ziadd X56 (bd 39) k))) ?_
  obtain ⟨T57, h57, X57, e57, W57, st57⟩ := putF X56 hx hZ hown (host := "") (Or.inl (Wd167 hw)) Via.refl e56 V352_ E52_ (Or.inl (Wd168 hw)) (Wd35 hw) (ty := .int) (by decide) rfl rfl (g := (mkF m 68 #[vR a1, vI x1] [(.int ((Int32.ofNat cs.length) + (1 : Int32))), (.ref a1), (.int (Int32.ofNat cs.length)), (.ref t52)])) rfl rfl (bd 40).2
  have Fx57 := V352_.same W57
  have N57 := Fr.snoc X57 N52 g1
  refine OD.go (B := (T57.setTop (mkF m 71 #[vR a1, vI x1] [(.int (Int32.ofNat cs.length)), (.ref t52)]))) st57 ?_
  refine OD.at 72 (fun t k => ziN X57 (bd 41) rfl k) ?_
  have f58 := (A52_.other W57 (Exa.ne (Et52_.wr W57) (E52_.wr W57) (by decide)))
  refine OD.cS X57 (bd 42) hZ hown hml Wd410 Wd411 Wd17 Wd412 pd22 (rmPSB hw t52 (Int32.ofNat cs.length) x1 h57 n0 ((X00.keep K52 (allS g1 all0)).wr W57 g1) SS (nT (nT Z0 K52.1) (Keep.of_wr W57).1) kt52_ zb52_ Fb52_ f58 (own_gb (by rw [own_on (by omega)]; omega) (by rw [own_on (by omega)]; have := hC52_; omega) (by rw [own_on (by omega)]; omega)).1 (own_gb (by rw [own_on (by omega)]; omega) (by rw [own_on (by omega)]; have := hC52_; omega) (by rw [own_on (by omega)]; omega)).2 gt52 (own_in1 (by rw [own_on (by omega)]; omega) (by rw [own_on (by omega)]; have := hC52_; omega))) e57 rfl (fun v59 T59 L59 X59 hQ59 => ?_)
  obtain ⟨rfl, Nq59, K59, A59⟩ := hQ59
  have N59 := Fr.app N57 Nq59
  refine OD.at 76 (fun t k => zaN X59 (bd 25) rfl rfl k) ?_
  exact OD.rA X59 (bd 26) hlk hrt rfl rfl rfl ⟨_, rfl, N59, by exact ((((Keep.refl h0 [a1, t1]).trans K52 (allS (Or.inl (mG 0 rfl)) all0)).wr W57 (Or.inl (mG 0 rfl))).trans K59 (allS (own_inws (own_or2 ot52 (Or.inl rfl) Nat.le.refl) (mG 1 rfl)) all0)), (own_or2 ot52 (Or.inl rfl) Nat.le.refl), gt52, _, Or.inr rfl, by exact ((E52_.wr W57).keep K59), by exact ((Et52_.wr W57).keep K59), by exact ((V152_.other W57 (Or.inr (slot_ne (Or.inl (Wd59 hw)) (Or.inl (Wd168 hw)) (by decide) (t := (.array .byte)) (t' := .int) (by decide) (by decide)))).keep K59 (ninS (Exa.ne ((E52_.wr W57).keep K59) ((Et52_.wr W57).keep K59) (by decide)) nin0)), by exact ((V252_.other W57 (Or.inr (slot_ne (Or.inl (Wd61 hw)) (Or.inl (Wd168 hw)) (by decide) (t := .byte) (t' := .int) (by decide) (by decide)))).keep K59 (ninS (Exa.ne ((E52_.wr W57).keep K59) ((Et52_.wr W57).keep K59) (by decide)) nin0)), by rw [← own_cnt cs x1]; exact (Fx57.keep K59 (ninS (Exa.ne ((E52_.wr W57).keep K59) ((Et52_.wr W57).keep K59) (by decide)) nin0)), by exact ((V452_.other W57 (Or.inr (slot_ne (Or.inl (Wd418 hw)) (Or.inl (Wd168 hw)) (by decide) (t := .boolean) (t' := .int) (by decide) (by decide)))).keep K59 (ninS (Exa.ne ((E52_.wr W57).keep K59) ((Et52_.wr W57).keep K59) (by decide)) nin0)), _, _, _, by exact A59, Or.inr ⟨rfl, by simp only [List.length_append, List.length_cons, List.length_nil]; omega, by omega, hC52_.2.2.app (by omega) u0 w0⟩⟩
def Q_rmSAs (Z : State) (a1 : Addr) (x1 : Int32) (h0 : Heap) (n0 : Nat) (t1 : Addr) (cs : List Int32) : QT := fun v h L => ∃ t' : Addr, v = some (.ref a1) ∧ Fr n0 L ∧ Keep h0 h [a1, t1] ∧ (t' = t1 ∨ h0.size ≤ t') ∧ n0 ≤ t' ∧ Bdx Z h a1 t' (cs ++ [x1])
theorem rmSAs (a1 : Addr) (x1 : Int32) (h0 : Heap) (n0 : Nat) (X00 : Old Z n0 h0) (SS : STs Z zc fm u8 hxa kh) (Z0 : n0 ≤ h0.size) (t1 : Addr) (cs : List Int32) (HX : Bdx Z h0 a1 t1 cs) (hl : cs.length ≤ 17) (g1 : n0 ≤ a1) (gt : n0 ≤ t1) (u0 : 0 ≤ x1.toInt) (w0 : x1.toInt ≤ 255) :
    MF l hw ⟨zZ3, "append", zZ19⟩ kQ69 2 (some (.object zZ3)) (rO 7 1 80 130) #[(.ref a1), (.int x1)] h0 (Q_rmSAs Z a1 x1 h0 n0 t1 cs) := by
  refine MF.of (pF pn10) (ef9 · a1 x1) dP32 ?_
  intro p e s m below meth c s₁ bd hlk hml hown hnm hrt hZ X0 e0
  have hx := (bd 0).1
  have N0 := Fr.nil n0
  obtain ⟨cd, hcd, HB⟩ := id HX
  rcases hcd with rfl | rfl
  · skip
    have hs := own_ceS w0
    have w0 : x1.toInt ≤ 65535 := by omega
    refine OD.at 2 (fun t k => zaN X0 (bd 0) rfl rfl (ziN X0 (bd 1) rfl k)) ?_
    refine OD.cU X0 (bd 2) hZ hown hml Wd162 (own_same (Wd172 hw) (Wd170 hw) (Wd163 hw) rfl (by decide)) Wd163 Wd164 Wd54 Wd166 pd36 (rmAAS0 hw a1 x1 h0 n0 X00 SS Z0 t1 cs HB hl g1 gt u0 w0 hs) e0 HX.e1 rfl (fun v51 T51 L51 X51 hQ51 => ?_)
    obtain ⟨t51, rfl, Nq51, K51, ot51, gt51, B51⟩ := hQ51
    have N51 := Fr.app N0 Nq51
    refine OD.at 7 (fun t k => XS.pop X51.here hx rfl (bd 3).2 rfl rfl (zaN X51 (bd 4) rfl rfl k)) ?_
    exact OD.rA X51 (bd 5) hlk hrt rfl rfl rfl ⟨_, rfl, N51, by exact ((Keep.refl h0 [a1, t1]).trans K51 (allS (Or.inl (mG 0 rfl)) (allS (Or.inl (mG 1 rfl)) all0))), (own_or2 ot51 (Or.inl rfl) Nat.le.refl), gt51, by exact B51⟩
  · skip
    have w0 : x1.toInt ≤ 65535 := by omega
    refine OD.at 2 (fun t k => zaN X0 (bd 0) rfl rfl (ziN X0 (bd 1) rfl k)) ?_
    refine OD.cU X0 (bd 2) hZ hown hml Wd162 (own_same (Wd172 hw) (Wd170 hw) (Wd163 hw) rfl (by decide)) Wd163 Wd164 Wd54 Wd166 pd36 (rmAAA1 hw a1 x1 h0 n0 X00 SS Z0 t1 cs HB hl g1 gt u0 w0) e0 HX.e1 rfl (fun v52 T52 L52 X52 hQ52 => ?_)
    obtain ⟨t52, rfl, Nq52, K52, ot52, gt52, B52⟩ := hQ52
    have N52 := Fr.app N0 Nq52
    refine OD.at 7 (fun t k => XS.pop X52.here hx rfl (bd 3).2 rfl rfl (zaN X52 (bd 4) rfl rfl k)) ?_
    exact OD.rA X52 (bd 5) hlk hrt rfl rfl rfl ⟨_, rfl, N52, by exact ((Keep.refl h0 [a1, t1]).trans K52 (allS (Or.inl (mG 0 rfl)) (allS (Or.inl (mG 1 rfl)) all0))), (own_or2 ot52 (Or.inl rfl) Nat.le.refl), gt52, by exact B52⟩
def Q_rmSAg (Z : State) (a1 : Addr) (x1 : Int32) (h0 : Heap) (n0 : Nat) (t1 : Addr) (cs : List Int32) : QT := fun v h L => ∃ t' : Addr, v = some (.ref a1) ∧ Fr n0 L ∧ Keep h0 h [a1, t1] ∧ (t' = t1 ∨ h0.size ≤ t') ∧ n0 ≤ t' ∧ Bdx Z h a1 t' (cs ++ [x1])
theorem rmSAg (a1 : Addr) (x1 : Int32) (h0 : Heap) (n0 : Nat) (X00 : Old Z n0 h0) (SS : STs Z zc fm u8 hxa kh) (Z0 : n0 ≤ h0.size) (t1 : Addr) (cs : List Int32) (HX : Bdx Z h0 a1 t1 cs) (hl : cs.length ≤ 17) (g1 : n0 ≤ a1) (gt : n0 ≤ t1) (u0 : 0 ≤ x1.toInt) (w0 : x1.toInt ≤ 65535) :
    MF l hw ⟨zZ3, "append", zZ19⟩ kQ69 2 (some (.object zZ3)) (rO 7 2 160 130) #[(.ref a1), (.int x1)] h0 (Q_rmSAg Z a1 x1 h0 n0 t1 cs) := by
  refine MF.of (pF pn10) (ef9 · a1 x1) dP32 ?_
  intro p e s m below meth c s₁ bd hlk hml hown hnm hrt hZ X0 e0
  have hx := (bd 0).1
  have N0 := Fr.nil n0
  obtain ⟨cd, hcd, HB⟩ := id HX
  rcases hcd with rfl | rfl
  · by_cases hs : own_canEncodeC x1 = (0 : Int32)
    · skip
      refine OD.at 2 (fun t k => zaN X0 (bd 0) rfl rfl (ziN X0 (bd 1) rfl k)) ?_
      refine OD.cU X0 (bd 2) hZ hown hml Wd162 (own_same (Wd172 hw) (Wd170 hw) (Wd163 hw) rfl (by decide)) Wd163 Wd164 Wd54 Wd166 pd36 (rmAAG0 hw a1 x1 h0 n0 X00 SS Z0 t1 cs HB hl g1 gt u0 w0 hs) e0 HX.e1 rfl (fun v51 T51 L51 X51 hQ51 => ?_)
      obtain ⟨t51, rfl, Nq51, K51, ot51, gt51, B51⟩ := hQ51
      have N51 := Fr.app N0 Nq51
      refine OD.at 7 (fun t k => XS.pop X51.here hx rfl (bd 3).2 rfl rfl (zaN X51 (bd 4) rfl rfl k)) ?_
      exact OD.rA X51 (bd 5) hlk hrt rfl rfl rfl ⟨_, rfl, N51, by exact ((Keep.refl h0 [a1, t1]).trans K51 (allS (Or.inl (mG 0 rfl)) (allS (Or.inl (mG 1 rfl)) all0))), (own_or2 ot51 (Or.inl rfl) Nat.le.refl), gt51, by exact B51⟩
    · skip
      refine OD.at 2 (fun t k => zaN X0 (bd 0) rfl rfl (ziN X0 (bd 1) rfl k)) ?_
      refine OD.cU X0 (bd 2) hZ hown hml Wd162 (own_same (Wd172 hw) (Wd170 hw) (Wd163 hw) rfl (by decide)) Wd163 Wd164 Wd54 Wd166 pd36 (rmAAS0 hw a1 x1 h0 n0 X00 SS Z0 t1 cs HB hl g1 gt u0 w0 hs) e0 HX.e1 rfl (fun v52 T52 L52 X52 hQ52 => ?_)
      obtain ⟨t52, rfl, Nq52, K52, ot52, gt52, B52⟩ := hQ52
      have N52 := Fr.app N0 Nq52
      refine OD.at 7 (fun t k => XS.pop X52.here hx rfl (bd 3).2 rfl rfl (zaN X52 (bd 4) rfl rfl k)) ?_
      exact OD.rA X52 (bd 5) hlk hrt rfl rfl rfl ⟨_, rfl, N52, by exact ((Keep.refl h0 [a1, t1]).trans K52 (allS (Or.inl (mG 0 rfl)) (allS (Or.inl (mG 1 rfl)) all0))), (own_or2 ot52 (Or.inl rfl) Nat.le.refl), gt52, by exact B52⟩
  · skip
    refine OD.at 2 (fun t k => zaN X0 (bd 0) rfl rfl (ziN X0 (bd 1) rfl k)) ?_
    refine OD.cU X0 (bd 2) hZ hown hml Wd162 (own_same (Wd172 hw) (Wd170 hw) (Wd163 hw) rfl (by decide)) Wd163 Wd164 Wd54 Wd166 pd36 (rmAAA1 hw a1 x1 h0 n0 X00 SS Z0 t1 cs HB hl g1 gt u0 w0) e0 HX.e1 rfl (fun v53 T53 L53 X53 hQ53 => ?_)
    obtain ⟨t53, rfl, Nq53, K53, ot53, gt53, B53⟩ := hQ53
    have N53 := Fr.app N0 Nq53
    refine OD.at 7 (fun t k => XS.pop X53.here hx rfl (bd 3).2 rfl rfl (zaN X53 (bd 4) rfl rfl k)) ?_
    exact OD.rA X53 (bd 5) hlk hrt rfl rfl rfl ⟨_, rfl, N53, by exact ((Keep.refl h0 [a1, t1]).trans K53 (allS (Or.inl (mG 0 rfl)) (allS (Or.inl (mG 1 rfl)) all0))), (own_or2 ot53 (Or.inl rfl) Nat.le.refl), gt53, by exact B53⟩
def Q_rmBRG (Z : State) (a1 : Addr) (x1 : Int32) (h0 : Heap) (n0 : Nat) (t1 : Addr) (cs : List Int32) : QT := fun v h L => ∃ t' : Addr, v = some (.ref a1) ∧ Fr n0 L ∧ Keep h0 h [a1, t1] ∧ (t' = t1 ∨ h0.size ≤ t') ∧ n0 ≤ t' ∧ Bdx Z h a1 t' (cs ++ [x1])
theorem rmBRG (a1 : Addr) (x1 : Int32) (h0 : Heap) (n0 : Nat) (X00 : Old Z n0 h0) (SS : STs Z zc fm u8 hxa kh) (Z0 : n0 ≤ h0.size) (t1 : Addr) (cs : List Int32) (HX : Bdx Z h0 a1 t1 cs) (hl : cs.length ≤ 17) (g1 : n0 ≤ a1) (gt : n0 ≤ t1) (u0 : 0 ≤ x1.toInt) (w0 : x1.toInt ≤ 65535) :
    MF l hw ⟨zZ3, "append", zZ13⟩ kQ70 2 (some (.object zZ2)) (rO 8 2 160 147) #[(.ref a1), (.int x1)] h0 (Q_rmBRG Z a1 x1 h0 n0 t1 cs) := by
  refine MF.of (pF pn10) (ef9 · a1 x1) dP60 ?_
  intro p e s m below meth c s₁ bd hlk hml hown hnm hrt hZ X0 e0
  have N0 := Fr.nil n0
  refine OD.at 2 (fun t k => zaN X0 (bd 0) rfl rfl (ziN X0 (bd 1) rfl k)) ?_
  refine OD.cV X0 (bd 2) hZ hown hml Wd287 Wd158 (nfs hZ (Wd160 hw)) Wd160 Wd159 Wd36 Wd161 pd37 (rmSAg hw a1 x1 h0 n0 X00 SS Z0 t1 cs HX hl g1 gt u0 w0) e0 HX.e1 rfl (fun v51 T51 L51 X51 hQ51 => ?_)
  obtain ⟨t51, rfl, Nq51, K51, ot51, gt51, B51⟩ := hQ51
  have N51 := Fr.app N0 Nq51
  exact OD.rA X51 (bd 3) hlk hrt rfl rfl rfl ⟨_, rfl, N51, by exact ((Keep.refl h0 [a1, t1]).trans K51 (allS (Or.inl (mG 0 rfl)) (allS (Or.inl (mG 1 rfl)) all0))), (own_or2 ot51 (Or.inl rfl) Nat.le.refl), gt51, by exact B51⟩
def Q_rmACP (Z : State) (a1 : Addr) (x1 : Int32) (h0 : Heap) (n0 : Nat) (t1 : Addr) (cs : List Int32) : QT := fun v h L => ∃ t' : Addr, v = some (.ref a1) ∧ Fr n0 L ∧ Keep h0 h [a1, t1] ∧ (t' = t1 ∨ h0.size ≤ t') ∧ n0 ≤ t' ∧ Bdx Z h a1 t' (cs ++ [x1])
theorem rmACP (a1 : Addr) (x1 : Int32) (h0 : Heap) (n0 : Nat) (X00 : Old Z n0 h0) (SS : STs Z zc fm u8 hxa kh) (Z0 : n0 ≤ h0.size) (t1 : Addr) (cs : List Int32) (HX : Bdx Z h0 a1 t1 cs) (hl : cs.length ≤ 17) (g1 : n0 ≤ a1) (gt : n0 ≤ t1) (u0 : 0 ≤ x1.toInt) (w0 : x1.toInt ≤ 65535) (hbp : ¬ own_isBmpCodePoint x1 = (0 : Int32)) :
    MF l hw ⟨zZ2, zZ16, zZ59⟩ kQ71 2 (some (.object zZ2)) (rO 9 2 160 164) #[(.ref a1), (.int x1)] h0 (Q_rmACP Z a1 x1 h0 n0 t1 cs) := by
  refine MF.of (pF pn8) (ef9 · a1 x1) dP59 ?_
  intro p e s m below meth c s₁ bd hlk hml hown hnm hrt hZ X0 e0
  have N0 := Fr.nil n0
  refine OD.at 1 (fun t k => ziN X0 (bd 0) rfl k) ?_
  refine OD.cS X0 (bd 1) hZ hown hml Wd282 Wd123 Wd120 Wd124 pd7 (rm_isBmpCodePoint hw x1 h0) e0 rfl (fun v51 T51 L51 X51 hQ51 => ?_)
  obtain ⟨rfl, rfl, e51⟩ := hQ51
  try rw [List.append_nil] at X51
  refine OD.at 10 (fun t k => zjN X51 (bd 2) (feq hbp).1 (zaN X51 (bd 3) rfl rfl (ziN X51 (bd 4) rfl (zi2c X51 (bd 5) k)))) ?_
  rw [own_i2cid u0 w0]
  refine OD.cV X51 (bd 6) hZ hown hml Wd283 Wd165 (nfo hZ (Wd172 hw) (Wd170 hw) rfl) Wd284 Wd285 Wd36 Wd286 pd36 (rmBRG hw a1 x1 h0 n0 X00 SS Z0 t1 cs HX hl g1 gt u0 w0) e51 HX.e1 rfl (fun v52 T52 L52 X52 hQ52 => ?_)
  obtain ⟨t52, rfl, Nq52, K52, ot52, gt52, B52⟩ := hQ52
  have N52 := Fr.app N0 Nq52
  exact OD.rA X52 (bd 7) hlk hrt rfl rfl rfl ⟨_, rfl, N52, by exact ((Keep.refl h0 [a1, t1]).trans K52 (allS (Or.inl (mG 0 rfl)) (allS (Or.inl (mG 1 rfl)) all0))), (own_or2 ot52 (Or.inl rfl) Nat.le.refl), gt52, by exact B52⟩
def Q_rmSCQ (Z : State) (a1 : Addr) (x1 : Int32) (h0 : Heap) (n0 : Nat) (t1 : Addr) (cs : List Int32) : QT := fun v h L => ∃ t' : Addr, v = some (.ref a1) ∧ Fr n0 L ∧ Keep h0 h [a1, t1] ∧ (t' = t1 ∨ h0.size ≤ t') ∧ n0 ≤ t' ∧ Bdx Z h a1 t' (cs ++ [x1])
theorem rmSCQ (a1 : Addr) (x1 : Int32) (h0 : Heap) (n0 : Nat) (X00 : Old Z n0 h0) (SS : STs Z zc fm u8 hxa kh) (Z0 : n0 ≤ h0.size) (t1 : Addr) (cs : List Int32) (HX : Bdx Z h0 a1 t1 cs) (hl : cs.length ≤ 17) (g1 : n0 ≤ a1) (gt : n0 ≤ t1) (u0 : 0 ≤ x1.toInt) (w0 : x1.toInt ≤ 65535) (hbp : ¬ own_isBmpCodePoint x1 = (0 : Int32)) :
    MF l hw ⟨zZ3, zZ16, zZ31⟩ kQ72 2 (some (.object zZ3)) (rO 10 2 160 181) #[(.ref a1), (.int x1)] h0 (Q_rmSCQ Z a1 x1 h0 n0 t1 cs) := by
  refine MF.of (pF pn10) (ef9 · a1 x1) dP58 ?_
  intro p e s m below meth c s₁ bd hlk hml hown hnm hrt hZ X0 e0
  have hx := (bd 0).1
  have N0 := Fr.nil n0
  refine OD.at 2 (fun t k => zaN X0 (bd 0) rfl rfl (ziN X0 (bd 1) rfl k)) ?_
  refine OD.cU X0 (bd 2) hZ hown hml Wd278 (own_same (Wd172 hw) (Wd170 hw) (Wd279 hw) rfl (by decide)) Wd279 Wd164 Wd54 Wd281 pd38 (rmACP hw a1 x1 h0 n0 X00 SS Z0 t1 cs HX hl g1 gt u0 w0 hbp) e0 HX.e1 rfl (fun v51 T51 L51 X51 hQ51 => ?_)
  obtain ⟨t51, rfl, Nq51, K51, ot51, gt51, B51⟩ := hQ51
  have N51 := Fr.app N0 Nq51
  refine OD.at 7 (fun t k => XS.pop X51.here hx rfl (bd 3).2 rfl rfl (zaN X51 (bd 4) rfl rfl k)) ?_
  exact OD.rA X51 (bd 5) hlk hrt rfl rfl rfl ⟨_, rfl, N51, by exact ((Keep.refl h0 [a1, t1]).trans K51 (allS (Or.inl (mG 0 rfl)) (allS (Or.inl (mG 1 rfl)) all0))), (own_or2 ot51 (Or.inl rfl) Nat.le.refl), gt51, by exact B51⟩
def Q_rmAIN (Z : State) (a1 : Addr) (h0 : Heap) (n0 : Nat) : QT := fun v h L => v = none ∧ Fr n0 L ∧ Keep h0 h [a1] ∧ ∃ t : Addr, h0.size ≤ t ∧ Bdx Z h a1 t []
theorem rmAIN (a1 : Addr) (x1 : Int32) (h0 : Heap) (n0 : Nat) (X00 : Old Z n0 h0) (SS : STs Z zc fm u8 hxa kh) (Z0 : n0 ≤ h0.size) (E1 : Exa Z h0 a1 zZ3) (F0 : Fld Z h0 a1 zZ2 "value" "[B" .null) (F1 : Fld Z h0 a1 zZ2 "coder" "B" (.int 0)) (F2 : Fld Z h0 a1 zZ2 "count" "I" (.int 0)) (F3 : Fld Z h0 a1 zZ2 zZ33 "Z" (.int 0)) (g1 : n0 ≤ a1) (h1 : 0 ≤ x1.toInt) (h2 : x1.toInt ≤ 40) :
    MF l hw ⟨zZ2, "<init>", "(I)V"⟩ kQ73 2 none (rO 2 1 40 32) #[(.ref a1), (.int x1)] h0 (Q_rmAIN Z a1 h0 n0) := by
  refine MF.of (pF pn8) (ef9 · a1 x1) dP11 ?_
  intro p e s m below meth c s₁ bd hlk hml hown hnm hrt hZ X0 e0
  have hx := (bd 0).1
  have N0 := Fr.nil n0
  refine OD.at 1 (fun t k => zaN X0 (bd 0) rfl rfl k) ?_
  obtain ⟨T51, X51, e51, st51⟩ := initO X0 hx hZ hown (Wd56 hw) (Wd12 hw) (Wd13 hw) e0 (g := (mkF m 1 #[vR a1, vI x1] [(.ref a1)])) rfl (by rw [hml]; rfl) rfl (bd 1).2 (by decide) (W := 0) (by show 2 * 0 + _ ≤ _; exact Nat.le_of_eq rfl) (by decide)
  refine OD.go (B := (T51.setTop (mkF m 4 #[vR a1, vI x1] []))) st51 ?_
  have f52 := (SS.1.ext X00.2)
  refine OD.gS X51 (bd 2) hZ hown hw Wd57 Via.refl e51 f52 (fun T53 X53 e53 => ?_)
  refine OD.at 12 (fun t k => zjN X53 (bd 3) (feq SS.2.1).1 (zaN X53 (bd 4) rfl rfl (ziN X53 (bd 5) rfl k))) ?_
  obtain ⟨T54, h54, k54, X54, e54, E54, A54, Q54, st54⟩ := newPE X53 hx hZ (aty := .byte) (Wd19 hw) e53 (g := (mkF m 12 #[vR a1, vI x1] [(.int x1), (.ref a1)])) rfl (bd 6).2 rfl (own_nneg h1) (cap := 40) (by have := own_clamp h1; omega) (by decide) (nl rfl) (nl rfl) (ad := "[B") (by decide)
  obtain ⟨b54, g54⟩ : ∃ z, z = h0.size := ⟨_, rfl⟩
  rw [← g54] at A54 Q54 st54
  have V54 : Arv Z h54 b54 k54 .byte x1 (own_rg x1.toNatClampNeg (fun x => .int (own_z x))) (.int 0) := own_fill (Arv.new A54 (own_nneg h1))
  refine OD.go (B := (T54.setTop (mkF m 14 #[vR a1, vI x1] [(.ref b54), (.ref a1)]))) st54 ?_
  have f55 := (F0.ext E54)
  have f56 := (E1.ext E54)
  obtain ⟨T57, h57, X57, e57, W57, st57⟩ := putF X54 hx hZ hown (host := "") (Or.inl (Wd58 hw)) Via.refl e54 f55 f56 (Or.inl (Wd59 hw)) (Wd35 hw) (ty := (.array .byte)) (by decide) rfl rfl (g := (mkF m 14 #[vR a1, vI x1] [(.ref b54), (.ref a1)])) rfl rfl (bd 7).2
  have Fx57 := f55.same W57
  have N57 := Fr.snoc X57 N0 g1
  refine OD.go (B := (T57.setTop (mkF m 17 #[vR a1, vI x1] []))) st57 ?_
  refine OD.at 19 (fun t k => zaN X57 (bd 8) rfl rfl (zcI X57 (bd 9) 0 rfl k)) ?_
  have f58 := ((F1.ext E54).other W57 (Or.inr (slot_ne (Or.inl (Wd61 hw)) (Or.inl (Wd59 hw)) (by decide) (t := .byte) (t' := (.array .byte)) (by decide) (by decide))))
  have f59 := (f56.wr W57)
  obtain ⟨T60, h60, X60, e60, W60, st60⟩ := putFN X57 hx hZ hown (Wd60 hw) Via.refl e57 f58 f59 (Or.inl (Wd61 hw)) (Wd35 hw) (ty := .byte) (v' := (.int 0)) (by decide) rfl (by decide) (g := (mkF m 19 #[vR a1, vI x1] [(.int 0), (.ref a1)])) rfl rfl (bd 10).2
  have Fx60 := f58.same W60
  have N60 := Fr.snoc X60 N57 g1
  refine OD.go (B := (T60.setTop (mkF m 22 #[vR a1, vI x1] []))) st60 ?_
  refine OD.at 38 (fun t k => zgO X60 (bd 11) 38 k) ?_
  have hz1 := own_clamp h1
  exact OD.rV X60 (bd 12) hlk hrt ⟨rfl, N60, by rw [e60]; exact ((((Keep.refl h0 [a1]).ext E54).wr W57 (Or.inl (mG 0 rfl))).wr W60 (Or.inl (mG 0 rfl))), _, (nT Nat.le.refl (nE g54)), _, Or.inl rfl, by rw [e60]; exact (f59.wr W60), by rw [e60]; exact ((Q54.wr W57).wr W60), by rw [e60]; exact (Fx57.other W60 (Or.inr (slot_ne (Or.inl (Wd59 hw)) (Or.inl (Wd61 hw)) (by decide) (t := (.array .byte)) (t' := .byte) (by decide) (by decide)))), by rw [e60]; exact Fx60, by rw [e60]; exact (((F2.ext E54).other W57 (Or.inr (slot_ne (Or.inl (Wd168 hw)) (Or.inl (Wd59 hw)) (by decide) (t := .int) (t' := (.array .byte)) (by decide) (by decide)))).other W60 (Or.inr (slot_ne (Or.inl (Wd168 hw)) (Or.inl (Wd61 hw)) (by decide) (t := .int) (t' := .byte) (by decide) (by decide)))), by rw [e60]; exact (((F3.ext E54).other W57 (Or.inr (slot_ne (Or.inl (Wd418 hw)) (Or.inl (Wd59 hw)) (by decide) (t := .boolean) (t' := (.array .byte)) (by decide) (by decide)))).other W60 (Or.inr (slot_ne (Or.inl (Wd418 hw)) (Or.inl (Wd61 hw)) (by decide) (t := .boolean) (t' := .byte) (by decide) (by decide)))), _, _, _, by rw [e60]; exact ((V54.other W57 (Ne.symm (nN E1.lt (nE g54)))).other W60 (Ne.symm (nN E1.lt (nE g54)))), Or.inl ⟨rfl, by show (0 : Int) + 0 ≤ _; omega, h2, RpL.nil _⟩⟩
def Q_rmSIN (Z : State) (a1 : Addr) (h0 : Heap) (n0 : Nat) : QT := fun v h L => v = none ∧ Fr n0 L ∧ Keep h0 h [a1] ∧ ∃ t : Addr, h0.size ≤ t ∧ Bdx Z h a1 t []
theorem rmSIN (a1 : Addr) (x1 : Int32) (h0 : Heap) (n0 : Nat) (X00 : Old Z n0 h0) (SS : STs Z zc fm u8 hxa kh) (Z0 : n0 ≤ h0.size) (E1 : Exa Z h0 a1 zZ3) (F0 : Fld Z h0 a1 zZ2 "value" "[B" .null) (F1 : Fld Z h0 a1 zZ2 "coder" "B" (.int 0)) (F2 : Fld Z h0 a1 zZ2 "count" "I" (.int 0)) (F3 : Fld Z h0 a1 zZ2 zZ33 "Z" (.int 0)) (g1 : n0 ≤ a1) (h1 : 0 ≤ x1.toInt) (h2 : x1.toInt ≤ 40) :
    MF l hw ⟨zZ3, "<init>", "(I)V"⟩ kQ74 2 none (rO 3 1 40 49) #[(.ref a1), (.int x1)] h0 (Q_rmSIN Z a1 h0 n0) := by
  refine MF.of (pF pn10) (ef9 · a1 x1) dP10 ?_
  intro p e s m below meth c s₁ bd hlk hml hown hnm hrt hZ X0 e0
  have N0 := Fr.nil n0
  refine OD.at 2 (fun t k => zaN X0 (bd 0) rfl rfl (ziN X0 (bd 1) rfl k)) ?_
  refine OD.cI X0 (bd 2) hZ hown hml Wd50 Wd51 Wd54 Wd55 pd34 (rmAIN hw a1 x1 h0 n0 X00 SS Z0 E1 F0 F1 F2 F3 g1 h1 h2) e0 rfl (fun v51 T51 L51 X51 hQ51 => ?_)
  obtain ⟨rfl, Nq51, K51, t51, ob51, B51⟩ := hQ51
  have N51 := Fr.app N0 Nq51
  have gbt51 : n0 ≤ t51 := nT Z0 ob51
  exact OD.rV X51 (bd 3) hlk hrt ⟨rfl, N51, by exact ((Keep.refl h0 [a1]).trans K51 (allS (Or.inl (mG 0 rfl)) all0)), _, (nT Nat.le.refl ob51), by exact B51⟩
theorem rm_ckl (x0 : Int32) (x1 : Int32) (h0 : Heap) (hq : ¬ x1 < x0) :
    MF l hw ⟨zZ8, "checkLength", "(II)V"⟩ kQ75 2 none (rO 0 0 0 0) #[(.int x0), (.int x1)] h0 (Pu none h0) := by
  refine MF.of (pF pn6) (ef2 · x0 x1) dP49 ?_
  intro p e s m below meth c s₁ bd hlk hml hown hnm hrt hZ X0 e0
  refine OD.at 37 (fun t k => ziN X0 (bd 0) rfl (ziN X0 (bd 1) rfl (zkY X0 (bd 2) 37 (flt hq).2.1 k))) ?_
  exact OD.rV X0 (bd 3) hlk hrt ⟨rfl, rfl, e0⟩
theorem rmGV (a1 : Addr) (h0 : Heap) (va : Addr) (E1 : Exa Z h0 a1 zZ3) (F1 : Fld Z h0 a1 zZ2 "value" "[B" (.ref va)) :
    MF l hw ⟨zZ2, "getValue", "()[B"⟩ kQ76 1 (some (.array .byte)) (rO 0 0 0 0) #[(.ref a1)] h0 (Pu (some (.ref va)) h0) := by
  refine MF.of (pF pn8) (ef6 · a1) dP44 ?_
  intro p e s m below meth c s₁ bd hlk hml hown hnm hrt hZ X0 e0
  refine OD.at 1 (fun t k => zaN X0 (bd 0) rfl rfl k) ?_
  refine OD.gF X0 (bd 1) hZ hown hw Wd58 Via.refl e0 F1 (fun T51 X51 e51 => ?_)
  exact OD.rA X51 (bd 2) hlk hrt rfl rfl rfl ⟨rfl, rfl, e51⟩
theorem rmAL (a1 : Addr) (h0 : Heap) (nc : Int32) (E1 : Exa Z h0 a1 zZ3) (F1 : Fld Z h0 a1 zZ2 "count" "I" (.int nc)) :
    MF l hw ⟨zZ2, "length", "()I"⟩ kQ77 1 (some .int) (rO 0 0 0 0) #[(.ref a1)] h0 (Pu (some (.int nc)) h0) := by
  refine MF.of (pF pn8) (ef6 · a1) dP46 ?_
  intro p e s m below meth c s₁ bd hlk hml hown hnm hrt hZ X0 e0
  refine OD.at 1 (fun t k => zaN X0 (bd 0) rfl rfl k) ?_
  refine OD.gF X0 (bd 1) hZ hown hw Wd167 Via.refl e0 F1 (fun T51 X51 e51 => ?_)
  exact OD.rI X51 (bd 2) hlk hrt rfl ⟨rfl, rfl, e51⟩
theorem rmBL (a1 : Addr) (h0 : Heap) (nc : Int32) (E1 : Exa Z h0 a1 zZ3) (F1 : Fld Z h0 a1 zZ2 "count" "I" (.int nc)) :
    MF l hw ⟨zZ3, "length", "()I"⟩ kQ78 1 (some .int) (rO 1 0 0 16) #[(.ref a1)] h0 (Pu (some (.int nc)) h0) := by
  refine MF.of (pF pn10) (ef6 · a1) dP45 ?_
  intro p e s m below meth c s₁ bd hlk hml hown hnm hrt hZ X0 e0
  refine OD.at 1 (fun t k => zaN X0 (bd 0) rfl rfl k) ?_
  refine OD.cU X0 (bd 1) hZ hown hml Wd232 (own_same (Wd172 hw) (Wd170 hw) (Wd228 hw) rfl (by decide)) Wd228 Wd164 Wd54 Wd233 pd11 (rmAL hw a1 h0 nc E1 F1) e0 E1 rfl (fun v51 T51 L51 X51 hQ51 => ?_)
  obtain ⟨rfl, rfl, e51⟩ := hQ51
  exact OD.rI X51 (bd 2) hlk hrt rfl ⟨rfl, rfl, e51⟩
def Q_rmCRB (Z : State) (x2 : Int32) (h0 : Heap) (n0 : Nat) (F : Int32 → Int32) : QT := fun v h L => ∃ (b : Addr) (k : ClassId) (G : Int32 → Int32), v = some (.ref b) ∧ Fr n0 L ∧ Keep h0 h [] ∧ h0.size ≤ b ∧ Exa Z h b "[B" ∧ Arv Z h b k .byte x2 (own_rg x2.toNatClampNeg (fun x => .int (G x))) (.int 0) ∧ ∀ x : Int32, 0 ≤ x.toInt → x.toInt < x2.toInt → G x = F x
theorem rmCRB (va : Addr) (x2 : Int32) (h0 : Heap) (n0 : Nat) (Z0 : n0 ≤ h0.size) (ka : ClassId) (z : Int32) (F : Int32 → Int32) (Aa : Arv Z h0 va ka .byte z (own_rg z.toNatClampNeg (fun x => .int (F x))) (.int 0)) (h1 : 0 ≤ x2.toInt) (h2 : x2.toInt ≤ z.toInt) (h3 : x2.toInt ≤ 80) :
    MF l hw ⟨zZ8, zZ60, "([BII)[B"⟩ kQ79 5 (some (.array .byte)) (rO 1 1 80 40) #[(.ref va), (.int 0), (.int x2)] h0 (Q_rmCRB Z x2 h0 n0 F) := by
  refine MF.of (pF pn6) (ef18 · va (0 : Int32) x2) dP48 ?_
  intro p e s m below meth c s₁ bd hlk hml hown hnm hrt hZ X0 e0
  have hx := (bd 0).1
  have N0 := Fr.nil n0
  have hs0 : x2 - (0 : Int32) = x2 := Int32.sub_zero x2
  have hz0 : z - (0 : Int32) = z := Int32.sub_zero z
  refine OD.at 2 (fun t k => ziN X0 (bd 0) rfl (ziN X0 (bd 1) rfl k)) ?_
  refine OD.cS X0 (bd 2) hZ hown hml Wd241 Wd242 Wd198 Wd243 pd3 (rm_ckl hw (0 : Int32) x2 h0 (own_mle (by have : (0 : Int32).toInt = 0 := rfl; omega))) e0 rfl (fun v51 T51 L51 X51 hQ51 => ?_)
  obtain ⟨rfl, rfl, e51⟩ := hQ51
  try rw [List.append_nil] at X51
  refine OD.at 8 (fun t k => ziN X51 (bd 3) rfl (ziN X51 (bd 4) rfl (zisub X51 (bd 5) k))) ?_
  rw [hs0]
  refine OD.at 10 (fun t k => zsN X51 (bd 6) #[vR va, vI 0, vI x2, vI x2, .unset] rfl (ziN X51 (bd 7) rfl k)) ?_
  obtain ⟨T52, h52, k52, X52, e52, E52, A52, Q52, st52⟩ := newPE X51 hx hZ (aty := .byte) (Wd19 hw) e51 (g := (mkF m 10 #[vR va, vI 0, vI x2, vI x2, .unset] [(.int x2)])) rfl (bd 8).2 rfl (own_nneg h1) (cap := 80) (by have := own_clamp h1; omega) (by decide) (nl rfl) (nl rfl) (ad := "[B") (by decide)
  obtain ⟨b52, g52⟩ : ∃ z, z = h0.size := ⟨_, rfl⟩
  rw [← g52] at A52 Q52 st52
  have V52 : Arv Z h52 b52 k52 .byte x2 (own_rg x2.toNatClampNeg (fun x => .int (own_z x))) (.int 0) := own_fill (Arv.new A52 (own_nneg h1))
  refine OD.go (B := (T52.setTop (mkF m 12 #[vR va, vI 0, vI x2, vI x2, .unset] [(.ref b52)]))) st52 ?_
  refine OD.at 20 (fun t k => zaS X52 (bd 9) rfl #[vR va, vI 0, vI x2, vI x2, vR b52] rfl (zaN X52 (bd 10) rfl rfl (ziN X52 (bd 11) rfl (zaL X52 (bd 12) rfl rfl (zcI X52 (bd 13) 0 rfl (zaN X52 (bd 14) rfl rfl k)))))) ?_
  have f53 := (Aa.ext E52)
  refine OD.at 24 (fun t k => zal X52 (bd 15) hZ e52 f53 (ziN X52 (bd 16) rfl (zisub X52 (bd 17) (ziN X52 (bd 18) rfl k)))) ?_
  rw [hz0]
  refine OD.cS X52 (bd 19) hZ hown hml Wd200 Wd109 Wd106 Wd110 pd8 (rm_min hw z x2 h52) e52 rfl (fun v54 T54 L54 X54 hQ54 => ?_)
  obtain ⟨rfl, rfl, e54⟩ := hQ54
  try rw [List.append_nil] at X54
  rw [show (own_min z x2) = x2 from own_minE h2]
  obtain ⟨T55, h55, L55, X55, e55, N55, K55, A55, st55⟩ := cpA X54 hx hZ hown (Wd201 hw) (Wd204 hw) (Wd202 hw) (Wd203 hw) e54 f53 V52 (Or.inl ⟨rfl, rfl⟩) (sp := (0 : Int32)) (dp := (0 : Int32)) (nn := x2) (by decide) (by decide) (own_nneg h1) (own_cle h1 h2) (own_cle h1 (Int.le_refl _)) (us := (own_rg x2.toNatClampNeg (fun x => .int (F x)))) (own_cpu F _ h1 h2) (by rw [own_rg_len]; exact own_cle h1 (Int.le_refl _)) N0 (nT Z0 (nE g52)) (g := (mkF m 27 #[vR va, vI 0, vI x2, vI x2, vR b52] [(.int x2), (.int 0), (.ref b52), (.int 0), (.ref va)])) rfl (by rw [hml]; rfl) rfl (bd 20).2 (by decide) (W := 0) (by show 2 * 0 + _ ≤ _; exact Nat.le_of_eq rfl) (by decide)
  have A55 : Arv Z h55 b52 k52 .byte x2 (own_rg x2.toNatClampNeg (fun x => .int ((own_cut F x2) x))) (.int 0) := by have q := A55; rw [own_cpl F h1 (Int.le_refl _) (by omega)] at q; exact q
  refine OD.go (B := (T55.setTop (mkF m 30 #[vR va, vI 0, vI x2, vI x2, vR b52] []))) st55 ?_
  refine OD.at 32 (fun t k => zaL X55 (bd 21) rfl rfl k) ?_
  exact OD.rA X55 (bd 22) hlk hrt rfl rfl rfl ⟨_, _, _, rfl, N55, by rw [e55]; exact (((Keep.refl h0 []).ext E52).trans K55 (allS (Or.inr (nT Nat.le.refl (nE g52))) all0)), (nT Nat.le.refl (nE g52)), by rw [e55]; exact (Q52.keep K55), by rw [e55]; exact A55, fun x _ q => own_cut_at q⟩
def Q_rmCR (Z : State) (x2 : Int32) (h0 : Heap) (n0 : Nat) (F : Int32 → Int32) : QT := fun v h L => ∃ (b : Addr) (k : ClassId) (G : Int32 → Int32), v = some (.ref b) ∧ Fr n0 L ∧ Keep h0 h [] ∧ h0.size ≤ b ∧ Exa Z h b "[B" ∧ Arv Z h b k .byte x2 (own_rg x2.toNatClampNeg (fun x => .int (G x))) (.int 0) ∧ ∀ x : Int32, 0 ≤ x.toInt → x.toInt < x2.toInt → G x = F x
theorem rmCR (va : Addr) (x2 : Int32) (h0 : Heap) (n0 : Nat) (Z0 : n0 ≤ h0.size) (ka : ClassId) (z : Int32) (F : Int32 → Int32) (Aa : Arv Z h0 va ka .byte z (own_rg z.toNatClampNeg (fun x => .int (F x))) (.int 0)) (Ea : Exa Z h0 va "[B") (h1 : 0 ≤ x2.toInt) (h2 : x2.toInt ≤ z.toInt) (h3 : x2.toInt ≤ 80) :
    MF l hw ⟨zZ8, "copyOfRange", "([BII)[B"⟩ kQ80 3 (some (.array .byte)) (rO 2 1 80 60) #[(.ref va), (.int 0), (.int x2)] h0 (Q_rmCR Z x2 h0 n0 F) := by
  refine MF.of (pF pn6) (ef10 · va (0 : Int32) x2) dP47 ?_
  intro p e s m below meth c s₁ bd hlk hml hown hnm hrt hZ X0 e0
  have hx := (bd 0).1
  have N0 := Fr.nil n0
  refine OD.at 7 (fun t k => ziN X0 (bd 0) rfl (zjN X0 (bd 1) (teq (by decide : (0 : Int32) = (0 : Int32))).2 (ziN X0 (bd 2) rfl (zaN X0 (bd 3) rfl rfl (zal X0 (bd 4) hZ e0 Aa k))))) ?_
  by_cases c7_51 : x2 = z
  · refine OD.at 17 (fun t k => zkY X0 (bd 5) 17 (teq c7_51).1 k) ?_
    have hz := c7_51
    subst hz
    refine OD.at 18 (fun t k => zaN X0 (bd 6) rfl rfl k) ?_
    obtain ⟨cl52, Ar52, FC52, S52, mk52⟩ := own_fit Aa
    obtain ⟨T52, h52, X52, e52, E52, A52, Q52, st52⟩ := cloneA X0 hx hZ hown (Wd310 hw) (Wd149 hw) (Wd153 hw) (Wd151 hw) (Wd152 hw) (Wd154 hw) e0 Ar52 Ea FC52 (g := (mkF m 18 #[vR va, vI 0, vI x2] [(.ref va)])) rfl (by rw [hml]; rfl) rfl (bd 7).2 (by decide) (W := 0) (by show 2 * 0 + _ ≤ _; exact Nat.le_of_eq rfl) (by decide) (cap := 80) (by rw [S52]; have := own_clamp h1; have := own_clamp (own_zpos Aa); omega) (nl rfl) (nl rfl)
    obtain ⟨b52, g52⟩ : ∃ z, z = h0.size := ⟨_, rfl⟩
    rw [← g52] at A52 Q52 st52
    have V52 := mk52 A52
    refine OD.go (B := (T52.setTop (mkF m 21 #[vR va, vI 0, vI x2] [(.ref b52)]))) st52 ?_
    obtain ⟨T53, X53, e53, st53⟩ := castY X52 hx hZ hown (Wd311 hw) e52 (Ins.self Q52) (g := (mkF m 21 #[vR va, vI 0, vI x2] [(.ref b52)])) rfl rfl (bd 8).2
    refine OD.go (B := (T53.setTop (mkF m 24 #[vR va, vI 0, vI x2] [(.ref b52)]))) st53 ?_
    exact OD.rA X53 (bd 9) hlk hrt rfl rfl rfl ⟨_, _, _, rfl, N0, by rw [e53]; exact ((Keep.refl h0 []).ext E52), (nT Nat.le.refl (nE g52)), by rw [e53]; exact Q52, by rw [e53]; exact V52, fun x _ _ => rfl⟩
  · refine OD.at 13 (fun t k => zkN X0 (bd 5) (feq c7_51).1 (zaN X0 (bd 10) rfl rfl (ziN X0 (bd 11) rfl (ziN X0 (bd 12) rfl k)))) ?_
    refine OD.cS X0 (bd 13) hZ hown hml Wd238 Wd239 Wd198 Wd240 pd39 (rmCRB hw va x2 h0 n0 Z0 ka z F Aa h1 h2 h3) e0 rfl (fun v54 T54 L54 X54 hQ54 => ?_)
    obtain ⟨b54, k54', G54, rfl, Nq54, K54, ob54, Q54, A54, Y54⟩ := hQ54
    have N54 := Fr.app N0 Nq54
    have gbb54 : n0 ≤ b54 := nT Z0 ob54
    exact OD.rA X54 (bd 14) hlk hrt rfl rfl rfl ⟨_, _, _, rfl, N54, by exact ((Keep.refl h0 []).trans K54 all0), (nT Nat.le.refl ob54), by exact Q54, by exact A54, Y54⟩
def Q_rmSIA (Z : State) (a2 : Addr) (h0 : Heap) (n0 : Nat) (cs : List Int32) : QT := fun v h L => v = none ∧ Fr n0 L ∧ Keep h0 h [a2] ∧ ∃ t : Addr, h0.size ≤ t ∧ Strg Z h a2 t cs
theorem rmSIA (a2 : Addr) (a1 : Addr) (h0 : Heap) (n0 : Nat) (X00 : Old Z n0 h0) (SS : STs Z zc fm u8 hxa kh) (Z0 : n0 ≤ h0.size) (t1 : Addr) (cs : List Int32) (HX : Bdx Z h0 a1 t1 cs) (hl : cs.length ≤ 18) (E2 : Exa Z h0 a2 zZ0) (F1 : Fld Z h0 a2 zZ0 "value" "[B" .null) (F2 : Fld Z h0 a2 zZ0 "coder" "B" (.int 0)) (g2 : n0 ≤ a2) :
    MF l hw ⟨zZ0, "<init>", zZ61⟩ kQ81 5 none (rO 3 1 80 78) #[(.ref a2), (.ref a1), .null] h0 (Q_rmSIA Z a2 h0 n0 cs) := by
  refine MF.of (pF pn3) (ef31 · a2 a1) dP43 ?_
  intro p e s m below meth c s₁ bd hlk hml hown hnm hrt hZ X0 e0
  have hx := (bd 0).1
  have N0 := Fr.nil n0
  obtain ⟨cd, hcd, HB⟩ := id HX
  rcases hcd with rfl | rfl
  · skip
    obtain ⟨Eo_, Eto_, V1o_, V2o_, V3o_, V4o_, kto_, zbo_, Fbo_, Ao_, hCo_⟩ := HB
    have hCo_ := hCo_.l
    have el := own_on (i := cs.length) (by omega)
    refine OD.at 1 (fun t k => zaN X0 (bd 0) rfl rfl k) ?_
    obtain ⟨T51, X51, e51, st51⟩ := initO X0 hx hZ hown (Wd11 hw) (Wd12 hw) (Wd13 hw) e0 (g := (mkF m 1 #[vR a2, vR a1, .val .null, .unset, .unset] [(.ref a2)])) rfl (by rw [hml]; rfl) rfl (bd 1).2 (by decide) (W := 0) (by show 2 * 0 + _ ≤ _; exact Nat.le_of_eq rfl) (by decide)
    refine OD.go (B := (T51.setTop (mkF m 4 #[vR a2, vR a1, .val .null, .unset, .unset] []))) st51 ?_
    refine OD.at 5 (fun t k => zaN X51 (bd 2) rfl rfl k) ?_
    refine OD.cV X51 (bd 3) hZ hown hml Wd221 Wd222 (nfs hZ (Wd224 hw)) Wd224 Wd223 Wd54 Wd225 pd40 (rmGV hw a1 h0 t1 Eo_ V1o_) e51 Eo_ rfl (fun v52 T52 L52 X52 hQ52 => ?_)
    obtain ⟨rfl, rfl, e52⟩ := hQ52
    try rw [List.append_nil] at X52
    refine OD.at 10 (fun t k => zaT X52 (bd 4) rfl #[vR a2, vR a1, .val .null, vR t1, .unset] rfl (zaN X52 (bd 5) rfl rfl k)) ?_
    refine OD.cV X52 (bd 6) hZ hown hml Wd226 Wd227 (nfo hZ (Wd172 hw) (Wd170 hw) rfl) Wd229 Wd230 Wd36 Wd231 pd11 (rmBL hw a1 h0 (Int32.ofNat cs.length) Eo_ V3o_) e52 Eo_ rfl (fun v53 T53 L53 X53 hQ53 => ?_)
    obtain ⟨rfl, rfl, e53⟩ := hQ53
    try rw [List.append_nil] at X53
    refine OD.at 16 (fun t k => zsI X53 (bd 7) #[vR a2, vR a1, .val .null, vR t1, vI ((Int32.ofNat cs.length))] rfl (zaN X53 (bd 8) rfl rfl k)) ?_
    refine OD.cV X53 (bd 9) hZ hown hml Wd234 Wd175 (nfs hZ (Wd177 hw)) Wd177 Wd176 Wd54 Wd178 pd10 (rmBI0 hw a1 h0 n0 X00 SS V2o_ Eo_) e53 Eo_ rfl (fun v54 T54 L54 X54 hQ54 => ?_)
    obtain ⟨rfl, rfl, e54⟩ := hQ54
    try rw [List.append_nil] at X54
    refine OD.at 24 (fun t k => zjN X54 (bd 10) (feq (by decide : ¬ (1 : Int32) = (0 : Int32))).1 (zaN X54 (bd 11) rfl rfl (zcI X54 (bd 12) 0 rfl k))) ?_
    obtain ⟨T55, h55, X55, e55, W55, st55⟩ := putFN X54 hx hZ hown (Wd26 hw) Via.refl e54 F2 E2 (Or.inr ⟨(Wd27 hw), rfl, hnm⟩) (Wd2 hw) (ty := .byte) (v' := (.int 0)) (by decide) rfl (by decide) (g := (mkF m 24 #[vR a2, vR a1, .val .null, vR t1, vI ((Int32.ofNat cs.length))] [(.int 0), (.ref a2)])) rfl rfl (bd 13).2
    have Fx55 := F2.same W55
    have N55 := Fr.snoc X55 N0 g2
    refine OD.go (B := (T55.setTop (mkF m 27 #[vR a2, vR a1, .val .null, vR t1, vI ((Int32.ofNat cs.length))] []))) st55 ?_
    refine OD.at 32 (fun t k => zaN X55 (bd 14) rfl rfl (zaN X55 (bd 15) rfl rfl (zcI X55 (bd 16) 0 rfl (ziL X55 (bd 17) rfl k)))) ?_
    have f56 := (Ao_.other W55 (Exa.ne (Eto_.wr W55) (E2.wr W55) (by decide)))
    have f57 := (Eto_.wr W55)
    refine OD.cS X55 (bd 18) hZ hown hml Wd235 Wd236 Wd198 Wd237 pd39 (rmCR hw t1 (Int32.ofNat cs.length) h55 n0 (nT Z0 (Keep.of_wr W55).1) kto_ zbo_ Fbo_ f56 f57 (by omega) (by omega) (by omega)) e55 rfl (fun v58 T58 L58 X58 hQ58 => ?_)
    obtain ⟨b58, k58', G58, rfl, Nq58, K58, ob58, Q58, A58, Y58⟩ := hQ58
    have N58 := Fr.app N55 Nq58
    have gbb58 : n0 ≤ b58 := nT (nT Z0 (Keep.of_wr W55).1) ob58
    have f59 := ((F1.other W55 (Or.inr (slot_ne (Or.inr (Wd29 hw)) (Or.inr (Wd27 hw)) (by decide) (t := (.array .byte)) (t' := .byte) (by decide) (by decide)))).keep K58 nin0)
    have f60 := ((E2.wr W55).keep K58)
    obtain ⟨T61, h61, X61, e61, W61, st61⟩ := putF X58 hx hZ hown (host := "") (Or.inl (Wd28 hw)) Via.refl rfl f59 f60 (Or.inr ⟨(Wd29 hw), rfl, hnm⟩) (Wd2 hw) (ty := (.array .byte)) (by decide) rfl rfl (g := (mkF m 35 #[vR a2, vR a1, .val .null, vR t1, vI ((Int32.ofNat cs.length))] [(.ref b58), (.ref a2)])) rfl rfl (bd 19).2
    have Fx61 := f59.same W61
    have N61 := Fr.snoc X61 N58 g2
    refine OD.go (B := (T61.setTop (mkF m 38 #[vR a2, vR a1, .val .null, vR t1, vI ((Int32.ofNat cs.length))] []))) st61 ?_
    refine OD.at 97 (fun t k => zgO X61 (bd 20) 97 k) ?_
    exact OD.rV X61 (bd 21) hlk hrt ⟨rfl, N61, by rw [e61]; exact ((((Keep.refl h0 [a2]).wr W55 (Or.inl (mG 0 rfl))).trans K58 all0).wr W61 (Or.inl (mG 0 rfl))), _, (nT (nT Nat.le.refl (Keep.of_wr W55).1) ob58), by rw [e61]; exact (f60.wr W61), fun _ => by rw [e61]; exact (Q58.wr W61), by rw [e61]; exact Fx61, _, _, _, by rw [e61]; exact (A58.other W61 (Ne.symm (nN (nU E2.lt (Keep.of_wr W55).1) ob58))), Or.inl ⟨by rw [e61]; exact ((Fx55.keep K58 nin0).other W61 (Or.inr (slot_ne (Or.inr (Wd27 hw)) (Or.inr (Wd29 hw)) (by decide) (t := .byte) (t' := (.array .byte)) (by decide) (by decide)))), by omega, hCo_.2.2.agree (by omega) (fun x p q => Y58 x p (by omega))⟩⟩
  · skip
    obtain ⟨Eo_, Eto_, V1o_, V2o_, V3o_, V4o_, kto_, zbo_, Fbo_, Ao_, hCo_⟩ := HB
    have hCo_ := hCo_.u
    have el := own_on (i := cs.length) (by omega)
    have es := own_sl1 (i := Int32.ofNat cs.length) (by omega) (by omega)
    refine OD.at 1 (fun t k => zaN X0 (bd 0) rfl rfl k) ?_
    obtain ⟨T62, X62, e62, st62⟩ := initO X0 hx hZ hown (Wd11 hw) (Wd12 hw) (Wd13 hw) e0 (g := (mkF m 1 #[vR a2, vR a1, .val .null, .unset, .unset] [(.ref a2)])) rfl (by rw [hml]; rfl) rfl (bd 1).2 (by decide) (W := 0) (by show 2 * 0 + _ ≤ _; exact Nat.le_of_eq rfl) (by decide)
    refine OD.go (B := (T62.setTop (mkF m 4 #[vR a2, vR a1, .val .null, .unset, .unset] []))) st62 ?_
    refine OD.at 5 (fun t k => zaN X62 (bd 2) rfl rfl k) ?_
    refine OD.cV X62 (bd 3) hZ hown hml Wd221 Wd222 (nfs hZ (Wd224 hw)) Wd224 Wd223 Wd54 Wd225 pd40 (rmGV hw a1 h0 t1 Eo_ V1o_) e62 Eo_ rfl (fun v63 T63 L63 X63 hQ63 => ?_)
    obtain ⟨rfl, rfl, e63⟩ := hQ63
    try rw [List.append_nil] at X63
    refine OD.at 10 (fun t k => zaT X63 (bd 4) rfl #[vR a2, vR a1, .val .null, vR t1, .unset] rfl (zaN X63 (bd 5) rfl rfl k)) ?_
    refine OD.cV X63 (bd 6) hZ hown hml Wd226 Wd227 (nfo hZ (Wd172 hw) (Wd170 hw) rfl) Wd229 Wd230 Wd36 Wd231 pd11 (rmBL hw a1 h0 (Int32.ofNat cs.length) Eo_ V3o_) e63 Eo_ rfl (fun v64 T64 L64 X64 hQ64 => ?_)
    obtain ⟨rfl, rfl, e64⟩ := hQ64
    try rw [List.append_nil] at X64
    refine OD.at 16 (fun t k => zsI X64 (bd 7) #[vR a2, vR a1, .val .null, vR t1, vI ((Int32.ofNat cs.length))] rfl (zaN X64 (bd 8) rfl rfl k)) ?_
    refine OD.cV X64 (bd 9) hZ hown hml Wd234 Wd175 (nfs hZ (Wd177 hw)) Wd177 Wd176 Wd54 Wd178 pd10 (rmBI1 hw a1 h0 n0 X00 SS V2o_ Eo_) e64 Eo_ rfl (fun v65 T65 L65 X65 hQ65 => ?_)
    obtain ⟨rfl, rfl, e65⟩ := hQ65
    try rw [List.append_nil] at X65
    refine OD.at 41 (fun t k => zjY X65 (bd 10) 41 (teq (by decide : (0 : Int32) = (0 : Int32))).1 k) ?_
    have f66 := (SS.1.ext X00.2)
    refine OD.gS X65 (bd 22) hZ hown hw Wd14 Via.refl e65 f66 (fun T67 X67 e67 => ?_)
    refine OD.at 48 (fun t k => zjN X67 (bd 23) (feq SS.2.1).1 (zaN X67 (bd 24) rfl rfl k)) ?_
    refine OD.gF X67 (bd 25) hZ hown hw Wd417 Via.refl e67 V4o_ (fun T68 X68 e68 => ?_)
    refine OD.at 81 (fun t k => zjY X68 (bd 26) 79 (teq (by decide : (0 : Int32) = (0 : Int32))).1 (zaN X68 (bd 27) rfl rfl (zcI X68 (bd 28) 1 rfl k))) ?_
    obtain ⟨T69, h69, X69, e69, W69, st69⟩ := putFN X68 hx hZ hown (Wd26 hw) Via.refl e68 F2 E2 (Or.inr ⟨(Wd27 hw), rfl, hnm⟩) (Wd2 hw) (ty := .byte) (v' := (.int 1)) (by decide) rfl (by decide) (g := (mkF m 81 #[vR a2, vR a1, .val .null, vR t1, vI ((Int32.ofNat cs.length))] [(.int 1), (.ref a2)])) rfl rfl (bd 29).2
    have Fx69 := F2.same W69
    have N69 := Fr.snoc X69 N0 g2
    refine OD.go (B := (T69.setTop (mkF m 84 #[vR a2, vR a1, .val .null, vR t1, vI ((Int32.ofNat cs.length))] []))) st69 ?_
    refine OD.at 91 (fun t k => zaN X69 (bd 30) rfl rfl (zaN X69 (bd 31) rfl rfl (zcI X69 (bd 32) 0 rfl (ziL X69 (bd 33) rfl (zcI X69 (bd 34) 1 rfl (zishl X69 (bd 35) k)))))) ?_
    have f70 := (Ao_.other W69 (Exa.ne (Eto_.wr W69) (E2.wr W69) (by decide)))
    have f71 := (Eto_.wr W69)
    refine OD.cS X69 (bd 36) hZ hown hml Wd235 Wd236 Wd198 Wd237 pd39 (rmCR hw t1 ((Int32.ofNat cs.length) <<< ((1 : Int32) &&& 31)) h69 n0 (nT Z0 (Keep.of_wr W69).1) kto_ zbo_ Fbo_ f70 f71 (by omega) (by omega) (by omega)) e69 rfl (fun v72 T72 L72 X72 hQ72 => ?_)
    obtain ⟨b72, k72', G72, rfl, Nq72, K72, ob72, Q72, A72, Y72⟩ := hQ72
    have N72 := Fr.app N69 Nq72
    have gbb72 : n0 ≤ b72 := nT (nT Z0 (Keep.of_wr W69).1) ob72
    have f73 := ((F1.other W69 (Or.inr (slot_ne (Or.inr (Wd29 hw)) (Or.inr (Wd27 hw)) (by decide) (t := (.array .byte)) (t' := .byte) (by decide) (by decide)))).keep K72 nin0)
    have f74 := ((E2.wr W69).keep K72)
    obtain ⟨T75, h75, X75, e75, W75, st75⟩ := putF X72 hx hZ hown (host := "") (Or.inl (Wd28 hw)) Via.refl rfl f73 f74 (Or.inr ⟨(Wd29 hw), rfl, hnm⟩) (Wd2 hw) (ty := (.array .byte)) (by decide) rfl rfl (g := (mkF m 94 #[vR a2, vR a1, .val .null, vR t1, vI ((Int32.ofNat cs.length))] [(.ref b72), (.ref a2)])) rfl rfl (bd 37).2
    have Fx75 := f73.same W75
    have N75 := Fr.snoc X75 N72 g2
    refine OD.go (B := (T75.setTop (mkF m 97 #[vR a2, vR a1, .val .null, vR t1, vI ((Int32.ofNat cs.length))] []))) st75 ?_
    exact OD.rV X75 (bd 21) hlk hrt ⟨rfl, N75, by rw [e75]; exact ((((Keep.refl h0 [a2]).wr W69 (Or.inl (mG 0 rfl))).trans K72 all0).wr W75 (Or.inl (mG 0 rfl))), _, (nT (nT Nat.le.refl (Keep.of_wr W69).1) ob72), by rw [e75]; exact (f74.wr W75), fun _ => by rw [e75]; exact (Q72.wr W75), by rw [e75]; exact Fx75, _, _, _, by rw [e75]; exact (A72.other W75 (Ne.symm (nN (nU E2.lt (Keep.of_wr W69).1) ob72))), Or.inr ⟨by rw [e75]; exact ((Fx69.keep K72 nin0).other W75 (Or.inr (slot_ne (Or.inr (Wd27 hw)) (Or.inr (Wd29 hw)) (by decide) (t := .byte) (t' := (.array .byte)) (by decide) (by decide)))), by omega, hCo_.2.2.agree (by omega) (fun x p q => Y72 x p (by omega))⟩⟩
def Q_rmSIB (Z : State) (a2 : Addr) (h0 : Heap) (n0 : Nat) (cs : List Int32) : QT := fun v h L => v = none ∧ Fr n0 L ∧ Keep h0 h [a2] ∧ ∃ t : Addr, h0.size ≤ t ∧ Strg Z h a2 t cs
theorem rmSIB (a2 : Addr) (a1 : Addr) (h0 : Heap) (n0 : Nat) (X00 : Old Z n0 h0) (SS : STs Z zc fm u8 hxa kh) (Z0 : n0 ≤ h0.size) (t1 : Addr) (cs : List Int32) (HX : Bdx Z h0 a1 t1 cs) (hl : cs.length ≤ 18) (E2 : Exa Z h0 a2 zZ0) (F1 : Fld Z h0 a2 zZ0 "value" "[B" .null) (F2 : Fld Z h0 a2 zZ0 "coder" "B" (.int 0)) (g2 : n0 ≤ a2) :
    MF l hw ⟨zZ0, "<init>", zZ62⟩ kQ82 2 none (rO 4 1 80 98) #[(.ref a2), (.ref a1)] h0 (Q_rmSIB Z a2 h0 n0 cs) := by
  refine MF.of (pF pn3) (ef21 · a2 a1) dP42 ?_
  intro p e s m below meth c s₁ bd hlk hml hown hnm hrt hZ X0 e0
  have hx := (bd 0).1
  have N0 := Fr.nil n0
  refine OD.at 3 (fun t k => zaN X0 (bd 0) rfl rfl (zaN X0 (bd 1) rfl rfl (XS.aconstNull X0.here hx rfl (bd 2).2 k))) ?_
  refine OD.cI X0 (bd 3) hZ hown hml Wd218 Wd219 Wd3 Wd220 pd41 (rmSIA hw a2 a1 h0 n0 X00 SS Z0 t1 cs HX hl E2 F1 F2 g2) e0 rfl (fun v51 T51 L51 X51 hQ51 => ?_)
  obtain ⟨rfl, Nq51, K51, t51, ob51, S51⟩ := hQ51
  have N51 := Fr.app N0 Nq51
  have gbt51 : n0 ≤ t51 := nT Z0 ob51
  exact OD.rV X51 (bd 4) hlk hrt ⟨rfl, N51, by exact ((Keep.refl h0 [a2]).trans K51 (allS (Or.inl (mG 0 rfl)) all0)), _, (nT Nat.le.refl ob51), by exact S51⟩
def Q_rmTS_ (Z : State) (h0 : Heap) (n0 : Nat) (cs : List Int32) : QT := fun v h L => ∃ r t : Addr, v = some (.ref r) ∧ Fr n0 L ∧ Keep h0 h [] ∧ h0.size ≤ r ∧ h0.size ≤ t ∧ Strg Z h r t cs
theorem rmTS_ (a1 : Addr) (h0 : Heap) (n0 : Nat) (X00 : Old Z n0 h0) (SS : STs Z zc fm u8 hxa kh) (Z0 : n0 ≤ h0.size) (t1 : Addr) (cs : List Int32) (HX : Bdx Z h0 a1 t1 cs) (hl : cs.length ≤ 18) :
    MF l hw ⟨zZ3, "toString", zZ32⟩ kQ83 1 (some (.object zZ0)) (rO 5 2 90 115) #[(.ref a1)] h0 (Q_rmTS_ Z h0 n0 cs) := by
  refine MF.of (pF pn10) (ef6 · a1) dP41 ?_
  intro p e s m below meth c s₁ bd hlk hml hown hnm hrt hZ X0 e0
  have hx := (bd 0).1
  have N0 := Fr.nil n0
  obtain ⟨T51, h51, X51, e51, E51, A51, D51, -, st51⟩ := newO X0 hx hZ hown (Wd214 hw) (Wd2 hw) (Wd3 hw) e0 (g := (mkF m 0 #[vR a1] [])) rfl (bd 0).2 (nl rfl) (nl rfl)
  obtain ⟨b51, g51⟩ : ∃ z, z = h0.size := ⟨_, rfl⟩
  rw [← g51] at A51 D51 st51
  have Fn52 : Fld Z h51 b51 zZ0 "coder" "B" (.int 0) := D51 (Or.inr (Wd27 hw)) (ty := .byte) (by decide)
  have Fn53 : Fld Z h51 b51 zZ0 "value" "[B" .null := D51 (Or.inr (Wd29 hw)) (ty := (.array .byte)) (by decide)
  refine OD.go (B := (T51.setTop (mkF m 3 #[vR a1] [(.ref b51)]))) st51 ?_
  refine OD.at 5 (fun t k => XS.dup X51.here hx rfl (bd 1).2 rfl rfl (zaN X51 (bd 2) rfl rfl k)) ?_
  have f54 := (HX.ext E51)
  refine OD.cI X51 (bd 3) hZ hown hml Wd215 Wd216 Wd3 Wd217 pd42 (rmSIB hw b51 a1 h51 n0 (X00.ext E51) SS (nT Z0 E51.1) t1 cs f54 hl A51 Fn53 Fn52 (nT Z0 (nE g51))) e51 rfl (fun v55 T55 L55 X55 hQ55 => ?_)
  obtain ⟨rfl, Nq55, K55, t55, ob55, S55⟩ := hQ55
  have N55 := Fr.app N0 Nq55
  have gbt55 : n0 ≤ t55 := nT (nT Z0 E51.1) ob55
  exact OD.rA X55 (bd 4) hlk hrt rfl rfl rfl ⟨_, _, rfl, N55, by exact (((Keep.refl h0 []).ext E51).trans K55 (allS (Or.inr (nT Nat.le.refl (nE g51))) all0)), (nT Nat.le.refl (nE g51)), (nT (nT Nat.le.refl E51.1) ob55), by exact S55⟩
def Q_rmAEB (Z : State) (a1 : Addr) (x1 : Int32) (h0 : Heap) (n0 : Nat) (t1 : Addr) (cs : List Int32) : QT := fun v h L => ∃ t' : Addr, v = none ∧ Fr n0 L ∧ Keep h0 h [a1, t1] ∧ (t' = t1 ∨ h0.size ≤ t') ∧ n0 ≤ t' ∧ Bdx Z h a1 t' (cs ++ own_pcts (own_u8 x1))
theorem rmAEB (a1 : Addr) (x1 : Int32) (h0 : Heap) (n0 : Nat) (X00 : Old Z n0 h0) (SS : STs Z zc fm u8 hxa kh) (Z0 : n0 ≤ h0.size) (t1 : Addr) (cs : List Int32) (HX : Bdx Z h0 a1 t1 cs) (hl : cs.length ≤ 9) (g1 : n0 ≤ a1) (gt : n0 ≤ t1) (hbp : ¬ own_isBmpCodePoint x1 = (0 : Int32)) (u0 : 0 ≤ x1.toInt) (w0 : x1.toInt ≤ 65535) :
    MF l hw ⟨zZ6, zZ49, zZ50⟩ kQ84 7 none (rO 8 16 900 147) #[(.ref a1), (.int x1)] h0 (Q_rmAEB Z a1 x1 h0 n0 t1 cs) := by
  refine MF.of (pF pn5) (ef32 · a1 x1) dP24 ?_
  intro p e s m below meth c s₁ bd hlk hml hown hnm hrt hZ X0 e0
  have hx := (bd 0).1
  have N0 := Fr.nil n0
  obtain ⟨T51, h51, X51, e51, E51, A51, D51, -, st51⟩ := newO X0 hx hZ hown (Wd117 hw) (Wd2 hw) (Wd3 hw) e0 (g := (mkF m 0 #[vR a1, vI x1, .unset, .unset, .unset, .unset, .unset] [])) rfl (bd 0).2 (nl rfl) (nl rfl)
  obtain ⟨b51, g51⟩ : ∃ z, z = h0.size := ⟨_, rfl⟩
  rw [← g51] at A51 D51 st51
  have Fn52 : Fld Z h51 b51 zZ0 "coder" "B" (.int 0) := D51 (Or.inr (Wd27 hw)) (ty := .byte) (by decide)
  have Fn53 : Fld Z h51 b51 zZ0 "value" "[B" .null := D51 (Or.inr (Wd29 hw)) (ty := (.array .byte)) (by decide)
  refine OD.go (B := (T51.setTop (mkF m 3 #[vR a1, vI x1, .unset, .unset, .unset, .unset, .unset] [(.ref b51)]))) st51 ?_
  refine OD.at 5 (fun t k => XS.dup X51.here hx rfl (bd 1).2 rfl rfl (ziN X51 (bd 2) rfl k)) ?_
  refine OD.cS X51 (bd 3) hZ hown hml Wd118 Wd119 Wd120 Wd121 pd43 (rmTC1 hw x1 h51 n0 (nT Z0 E51.1) hbp u0 w0) e51 rfl (fun v54 T54 L54 X54 hQ54 => ?_)
  obtain ⟨b54, k54', rfl, Nq54, K54, ob54, A54⟩ := hQ54
  have N54 := Fr.app N0 Nq54
  have gbb54 : n0 ≤ b54 := nT (nT Z0 E51.1) ob54
  have f55 := (A51.keep K54)
  have f56 := (Fn53.keep K54 nin0)
  have f57 := (Fn52.keep K54 nin0)
  refine OD.cI X54 (bd 4) hZ hown hml Wd125 Wd5 Wd3 Wd6 pd44 (rmS1_1 hw b51 b54 T54.heap n0 ((X00.ext E51).keep K54 all0) SS (nT (nT Z0 E51.1) K54.1) f55 f56 f57 (nT Z0 (nE g51)) k54' x1 A54 u0 w0) rfl rfl (fun v58 T58 L58 X58 hQ58 => ?_)
  obtain ⟨rfl, Nq58, K58, t58, ob58, S58⟩ := hQ58
  have N58 := Fr.app N54 Nq58
  have gbt58 : n0 ≤ t58 := nT (nT (nT Z0 E51.1) K54.1) ob58
  have f59 := (SS.2.2.2.2.2.2.2.1.ext (((X00.ext E51).keep K54 all0).keep K58 (allS (nT Z0 (nE g51)) all0)).2)
  refine OD.gS X58 (bd 5) hZ hown hw Wd126 Via.refl rfl f59 (fun T60 X60 e60 => ?_)
  refine OD.cV X60 (bd 6) hZ hown hml Wd128 Wd129 (nfs hZ (Wd131 hw)) Wd131 Wd130 Wd3 Wd132 pd45 (rmGB1 hw b51 u8 T58.heap n0 (((X00.ext E51).keep K54 all0).keep K58 (allS (nT Z0 (nE g51)) all0)) SS (nT (nT (nT Z0 E51.1) K54.1) K58.1) t58 x1 S58 u0 w0 rfl) e60 S58.1 rfl (fun v61 T61 L61 X61 hQ61 => ?_)
  obtain ⟨b61, k61', z61, G61, rfl, Nq61, K61, ob61, A61, Y61⟩ := hQ61
  have N61 := Fr.app N58 Nq61
  have gbb61 : n0 ≤ b61 := nT (nT (nT (nT Z0 E51.1) K54.1) K58.1) ob61
  refine OD.at 27 (fun t k => zaT X61 (bd 7) rfl #[vR a1, vI x1, vR b61, .unset, .unset, .unset, .unset] rfl (zaN X61 (bd 8) rfl rfl (zaT X61 (bd 9) rfl #[vR a1, vI x1, vR b61, vR b61, .unset, .unset, .unset] rfl (zaN X61 (bd 10) rfl rfl (zal X61 (bd 11) hZ rfl A61 (zsI X61 (bd 12) #[vR a1, vI x1, vR b61, vR b61, vI z61, .unset, .unset] rfl (zcI X61 (bd 13) 0 rfl (zsI X61 (bd 14) #[vR a1, vI x1, vR b61, vR b61, vI z61, vI 0, .unset] rfl k)))))))) ?_
  have hbl : (own_u8 x1).length ≤ 3 := own_u8len x1
  have nba0 : b61 ≠ a1 := (Ne.symm (nN (nU (nU (nU HX.e1.lt E51.1) K54.1) K58.1) ob61))
  have nbt0 : b61 ≠ t1 := (Ne.symm (nN (nU (nU (nU HX.e2.lt E51.1) K54.1) K58.1) ob61))
  have loop : ∀ (fu iv cn sn : Nat) (cx : List Int32) (tl : Addr) (sl : Slot) (Tl : State) (hq : Heap) (Ll : List Loc), iv + fu = (own_u8 x1).length → cn + 3 * fu ≤ 16 → sn + 240 * fu ≤ 900 → cx.length + 3 * fu ≤ 18 → cx ++ own_pcts ((own_u8 x1).drop iv) = cs ++ own_pcts (own_u8 x1) → OSl sl → Stand p l e (rO 8 16 900 147) s m #[(.ref a1), (.int x1)] below meth c Tl Ll cn sn → Tl.heap = hq → Fr n0 Ll → Keep h0 hq [a1, t1] → (tl = t1 ∨ h0.size ≤ tl) → n0 ≤ tl → Bdx Z hq a1 tl cx → b61 ≠ a1 → b61 ≠ tl → Arv Z hq b61 k61' .byte z61 (own_rg z61.toNatClampNeg (fun x => .int (G61 x))) (.int 0) → OD p e s below (Q_rmAEB Z a1 x1 h0 n0 t1 cs) (rO 8 16 900 147).cells (rO 8 16 900 147).slots (Tl.setTop (mkF m 27 #[vR a1, vI x1, vR b61, vR b61, vI z61, vI ((Int32.ofNat iv)), sl] [])) := by
    intro fu
    induction fu with
    | zero =>
      intro iv cn sn cx tl sl Tl hq Ll hiv hcn hsn hcx hE hsl Xl el Nl Kl ol gl Bl nba nbt Al
      have Ol := X00.keep Kl (allS g1 (allS gt all0))
      have Zl := nT Z0 Kl.1
      have ei := own_on (i := iv) (by omega)
      have hz := Y61.1
      have hk : ¬ (Int32.ofNat iv) < z61 := own_mle (by omega)
      have hF := own_pend (by omega) hE
      refine OD.at 79 (fun t k => ziL Xl (bd 15) rfl (ziL Xl (bd 16) rfl (zkY Xl (bd 17) 79 (flt hk).2.1 k))) ?_
      exact OD.rV Xl (bd 18) hlk hrt ⟨tl, rfl, Nl, by rw [el]; exact Kl, ol, gl, by rw [el, ← hF]; exact Bl⟩ (hk := (by first | omega | (dsimp only [rO, Pt.cells, Pt.slots]; omega))) (hs := (by first | omega | (dsimp only [rO, Pt.cells, Pt.slots]; omega)))
    | succ fu ih =>
      intro iv cn sn cx tl sl Tl hq Ll hiv hcn hsn hcx hE hsl Xl el Nl Kl ol gl Bl nba nbt Al
      have Ol := X00.keep Kl (allS g1 (allS gt all0))
      have Zl := nT Z0 Kl.1
      have ei := own_on (i := iv) (by omega)
      have hz := Y61.1
      have hi : iv < (own_u8 x1).length := by omega
      have hk : (Int32.ofNat iv) < z61 := own_mlt (by omega)
      refine OD.at 37 (fun t k => ziL Xl (bd 15) rfl (ziL Xl (bd 16) rfl (zkN Xl (bd 17) (tlt hk).2.1 (zaN Xl (bd 19) rfl rfl (ziL Xl (bd 20) rfl k))))) ?_
      obtain ⟨cl62, Ar62, hi62, ha62⟩ := own_at Al (j := (Int32.ofNat iv)) (v := (.int (G61 (Int32.ofNat iv)))) (own_in (by omega) (by omega)) (own_rg_at (own_in (by omega) (by omega)) _ _)
      refine OD.at 38 (fun t k => Xl.baloadBytes hx (j := (Int32.ofNat iv)) (v := (.int (G61 (Int32.ofNat iv)))) (by rw [el]; exact Ar62.1) (State.isArrayOf_alike hZ.alike Ar62.2.1) Ar62.2.2 hi62 ha62 (g := (mkF m 37 #[vR a1, vI x1, vR b61, vR b61, vI z61, vI ((Int32.ofNat iv)), sl] [(.int (Int32.ofNat iv)), (.ref b61)])) rfl rfl (bd 21).2 _ k) ?_
      rw [Y61.2 iv hi]
      refine OD.at 43 (fun t k => zsI Xl (bd 22) #[vR a1, vI x1, vR b61, vR b61, vI z61, vI ((Int32.ofNat iv)), vI (((own_u8 x1).getD iv 0))] (own_st6 hsl) (zaN Xl (bd 23) rfl rfl (zcB Xl (bd 24) 37 rfl k))) ?_
      refine OD.cV Xl (bd 25) hZ hown hml Wd157 Wd158 (nfs hZ (Wd160 hw)) Wd160 Wd159 Wd36 Wd161 pd37 (rmSAs hw a1 (37 : Int32) hq n0 Ol SS Zl tl cx Bl (by omega) g1 gl (by decide) (by decide)) el Bl.e1 rfl (fun v63 T63 L63 X63 hQ63 => ?_)
      obtain ⟨t63, rfl, Nq63, K63, ot63, gt63, B63⟩ := hQ63
      have N63 := Fr.app Nl Nq63
      have nyt63_b61 := own_ntp nbt Al.lt ot63
      have f64 := (SS.2.2.2.2.2.2.2.2.2.1.ext (Ol.keep K63 (allS g1 (allS gl all0))).2)
      refine OD.gS X63 (bd 26) hZ hown hw Wd182 Via.refl rfl f64 (fun T65 X65 e65 => ?_)
      refine OD.at 56 (fun t k => ziL X65 (bd 27) rfl (zcI X65 (bd 28) 4 rfl (zishr X65 (bd 29) (zcB X65 (bd 30) 15 rfl (ziand X65 (bd 31) k))))) ?_
      have f66 := (SS.2.2.2.2.2.2.2.2.2.2.ext (Ol.keep K63 (allS g1 (allS gl all0))).2)
      obtain ⟨cl67, Ar67, hi67, ha67⟩ := own_at f66 (j := ((((own_u8 x1).getD iv 0) >>> ((4 : Int32) &&& 31)) &&& (15 : Int32))) (v := (.int (own_hxd ((((own_u8 x1).getD iv 0) >>> ((4 : Int32) &&& 31)) &&& (15 : Int32))))) (own_15 _) (own_rg_at (own_15 _) _ _)
      refine OD.at 57 (fun t k => X65.caload hx (j := ((((own_u8 x1).getD iv 0) >>> ((4 : Int32) &&& 31)) &&& (15 : Int32))) (v := (.int (own_hxd ((((own_u8 x1).getD iv 0) >>> ((4 : Int32) &&& 31)) &&& (15 : Int32))))) (by rw [e65]; exact Ar67.1) (State.isArrayOf_alike hZ.alike Ar67.2.1) Ar67.2.2 hi67 ha67 (g := (mkF m 56 #[vR a1, vI x1, vR b61, vR b61, vI z61, vI ((Int32.ofNat iv)), vI (((own_u8 x1).getD iv 0))] [(.int ((((own_u8 x1).getD iv 0) >>> ((4 : Int32) &&& 31)) &&& (15 : Int32))), (.ref hxa), (.ref a1)])) rfl rfl (bd 32).2 _ k) ?_
      refine OD.cV X65 (bd 33) hZ hown hml Wd157 Wd158 (nfs hZ (Wd160 hw)) Wd160 Wd159 Wd36 Wd161 pd37 (rmSAs hw a1 (own_hxd ((((own_u8 x1).getD iv 0) >>> ((4 : Int32) &&& 31)) &&& (15 : Int32))) T63.heap n0 (Ol.keep K63 (allS g1 (allS gl all0))) SS (nT Zl K63.1) t63 (cx ++ [(37 : Int32)]) B63 (by simp only [List.length_append, List.length_cons, List.length_nil]; omega) g1 gt63 (own_hxB _).1 (own_hxB _).2) e65 B63.e1 rfl (fun v68 T68 L68 X68 hQ68 => ?_)
      obtain ⟨t68, rfl, Nq68, K68, ot68, gt68, B68⟩ := hQ68
      have N68 := Fr.app N63 Nq68
      have nyt68_b61 := own_ntp nyt63_b61 (nU Al.lt K63.1) ot68
      have f69 := (SS.2.2.2.2.2.2.2.2.2.1.ext ((Ol.keep K63 (allS g1 (allS gl all0))).keep K68 (allS g1 (allS gt63 all0))).2)
      refine OD.gS X68 (bd 34) hZ hown hw Wd182 Via.refl rfl f69 (fun T70 X70 e70 => ?_)
      refine OD.at 68 (fun t k => ziL X70 (bd 35) rfl (zcB X70 (bd 36) 15 rfl (ziand X70 (bd 37) k))) ?_
      have f71 := (SS.2.2.2.2.2.2.2.2.2.2.ext ((Ol.keep K63 (allS g1 (allS gl all0))).keep K68 (allS g1 (allS gt63 all0))).2)
      obtain ⟨cl72, Ar72, hi72, ha72⟩ := own_at f71 (j := (((own_u8 x1).getD iv 0) &&& (15 : Int32))) (v := (.int (own_hxd (((own_u8 x1).getD iv 0) &&& (15 : Int32))))) (own_15 _) (own_rg_at (own_15 _) _ _)
      refine OD.at 69 (fun t k => X70.caload hx (j := (((own_u8 x1).getD iv 0) &&& (15 : Int32))) (v := (.int (own_hxd (((own_u8 x1).getD iv 0) &&& (15 : Int32))))) (by rw [e70]; exact Ar72.1) (State.isArrayOf_alike hZ.alike Ar72.2.1) Ar72.2.2 hi72 ha72 (g := (mkF m 68 #[vR a1, vI x1, vR b61, vR b61, vI z61, vI ((Int32.ofNat iv)), vI (((own_u8 x1).getD iv 0))] [(.int (((own_u8 x1).getD iv 0) &&& (15 : Int32))), (.ref hxa), (.ref a1)])) rfl rfl (bd 38).2 _ k) ?_
      refine OD.cV X70 (bd 39) hZ hown hml Wd157 Wd158 (nfs hZ (Wd160 hw)) Wd160 Wd159 Wd36 Wd161 pd37 (rmSAs hw a1 (own_hxd (((own_u8 x1).getD iv 0) &&& (15 : Int32))) T68.heap n0 ((Ol.keep K63 (allS g1 (allS gl all0))).keep K68 (allS g1 (allS gt63 all0))) SS (nT (nT Zl K63.1) K68.1) t68 ((cx ++ [(37 : Int32)]) ++ [(own_hxd ((((own_u8 x1).getD iv 0) >>> ((4 : Int32) &&& 31)) &&& (15 : Int32)))]) B68 (by simp only [List.length_append, List.length_cons, List.length_nil]; omega) g1 gt68 (own_hxB _).1 (own_hxB _).2) e70 B68.e1 rfl (fun v73 T73 L73 X73 hQ73 => ?_)
      obtain ⟨t73, rfl, Nq73, K73, ot73, gt73, B73⟩ := hQ73
      have N73 := Fr.app N68 Nq73
      have nyt73_b61 := own_ntp nyt68_b61 (nU (nU Al.lt K63.1) K68.1) ot73
      refine OD.at 27 (fun t k => XS.pop X73.here hx rfl (bd 40).2 rfl rfl (zic X73 (bd 41) rfl #[vR a1, vI x1, vR b61, vR b61, vI z61, vI (((Int32.ofNat iv) + (1 : Int32))), vI (((own_u8 x1).getD iv 0))] rfl (zgO X73 (bd 42) 27 k))) ?_
      rw [own_suc]
      exact ih (iv + 1) _ _ _ t73 _ _ _ _ (by omega) (by first | omega | (dsimp only [rO, Pt.cells, Pt.slots]; omega)) (by first | omega | (dsimp only [rO, Pt.cells, Pt.slots]; omega)) (by simp only [List.length_append, List.length_cons, List.length_nil]; omega) (own_ptk hi hE) (Or.inr ⟨_, rfl⟩) X73 rfl N73 (((Kl.trans K63 (allS (Or.inl (mG 0 rfl)) (allS (own_inws ol (mG 1 rfl)) all0))).trans K68 (allS (Or.inl (mG 0 rfl)) (allS (own_inws (own_or2 ot63 ol Kl.1) (mG 1 rfl)) all0))).trans K73 (allS (Or.inl (mG 0 rfl)) (allS (own_inws (own_or2 ot68 (own_or2 ot63 ol Kl.1) (nT Kl.1 K63.1)) (mG 1 rfl)) all0))) (own_or2 ot73 (own_or2 ot68 (own_or2 ot63 ol Kl.1) (nT Kl.1 K63.1)) (nT (nT Kl.1 K63.1) K68.1)) gt73 B73 nba nyt73_b61 (((Al.keep K63 (ninS nba (ninS nbt nin0))).keep K68 (ninS nba (ninS nyt63_b61 nin0))).keep K73 (ninS nba (ninS nyt68_b61 nin0)))
  exact loop _ 0 _ _ _ t1 _ _ _ _ (Nat.zero_add _) (by first | omega | (dsimp only [rO, Pt.cells, Pt.slots]; omega)) (by first | omega | (dsimp only [rO, Pt.cells, Pt.slots]; omega)) (by omega) rfl (Or.inl rfl) X61 rfl N61 (((((Keep.refl h0 [a1, t1]).ext E51).trans K54 all0).trans K58 (allS (Or.inr (nT Nat.le.refl (nE g51))) all0)).trans K61 all0) (Or.inl rfl) gt ((((HX.ext E51).keep K54 nin0 nin0).keep K58 (ninS (nN HX.e1.lt (nE g51)) nin0) (ninS (nN HX.e2.lt (nE g51)) nin0)).keep K61 nin0 nin0) nba0 nbt0 A61
def Q_rmAES (Z : State) (a1 : Addr) (x1 : Int32) (h0 : Heap) (n0 : Nat) (t1 : Addr) (cs : List Int32) : QT := fun v h L => ∃ t' : Addr, v = none ∧ Fr n0 L ∧ Keep h0 h [a1, t1] ∧ (t' = t1 ∨ h0.size ≤ t') ∧ n0 ≤ t' ∧ Bdx Z h a1 t' (cs ++ own_pcts (own_u8s (own_toCodePoint (own_highSurrogate x1) (own_lowSurrogate x1))))
theorem rmAES (a1 : Addr) (x1 : Int32) (h0 : Heap) (n0 : Nat) (X00 : Old Z n0 h0) (SS : STs Z zc fm u8 hxa kh) (Z0 : n0 ≤ h0.size) (t1 : Addr) (cs : List Int32) (HX : Bdx Z h0 a1 t1 cs) (hl : cs.length ≤ 6) (g1 : n0 ≤ a1) (gt : n0 ≤ t1) (hbp : own_isBmpCodePoint x1 = (0 : Int32)) (hv : ¬ own_isValidCodePoint x1 = (0 : Int32)) (hh : ¬ own_isHighSurrogate (own_highSurrogate x1) = (0 : Int32)) (hlo : ¬ own_isLowSurrogate (own_lowSurrogate x1) = (0 : Int32)) :
    MF l hw ⟨zZ6, zZ49, zZ50⟩ kQ84 7 none (rO 8 20 1140 147) #[(.ref a1), (.int x1)] h0 (Q_rmAES Z a1 x1 h0 n0 t1 cs) := by
  refine MF.of (pF pn5) (ef32 · a1 x1) dP24 ?_
  intro p e s m below meth c s₁ bd hlk hml hown hnm hrt hZ X0 e0
  have hx := (bd 0).1
  have N0 := Fr.nil n0
  obtain ⟨T51, h51, X51, e51, E51, A51, D51, -, st51⟩ := newO X0 hx hZ hown (Wd117 hw) (Wd2 hw) (Wd3 hw) e0 (g := (mkF m 0 #[vR a1, vI x1, .unset, .unset, .unset, .unset, .unset] [])) rfl (bd 0).2 (nl rfl) (nl rfl)
  obtain ⟨b51, g51⟩ : ∃ z, z = h0.size := ⟨_, rfl⟩
  rw [← g51] at A51 D51 st51
  have Fn52 : Fld Z h51 b51 zZ0 "coder" "B" (.int 0) := D51 (Or.inr (Wd27 hw)) (ty := .byte) (by decide)
  have Fn53 : Fld Z h51 b51 zZ0 "value" "[B" .null := D51 (Or.inr (Wd29 hw)) (ty := (.array .byte)) (by decide)
  refine OD.go (B := (T51.setTop (mkF m 3 #[vR a1, vI x1, .unset, .unset, .unset, .unset, .unset] [(.ref b51)]))) st51 ?_
  refine OD.at 5 (fun t k => XS.dup X51.here hx rfl (bd 1).2 rfl rfl (ziN X51 (bd 2) rfl k)) ?_
  refine OD.cS X51 (bd 3) hZ hown hml Wd118 Wd119 Wd120 Wd121 pd43 (rmTC2 hw x1 h51 n0 (nT Z0 E51.1) hbp hv) e51 rfl (fun v54 T54 L54 X54 hQ54 => ?_)
  obtain ⟨b54, k54', rfl, Nq54, K54, ob54, A54⟩ := hQ54
  have N54 := Fr.app N0 Nq54
  have gbb54 : n0 ≤ b54 := nT (nT Z0 E51.1) ob54
  have f55 := (A51.keep K54)
  have f56 := (Fn53.keep K54 nin0)
  have f57 := (Fn52.keep K54 nin0)
  refine OD.cI X54 (bd 4) hZ hown hml Wd125 Wd5 Wd3 Wd6 pd44 (rmS1_2 hw b51 b54 T54.heap n0 ((X00.ext E51).keep K54 all0) SS (nT (nT Z0 E51.1) K54.1) f55 f56 f57 (nT Z0 (nE g51)) k54' (own_highSurrogate x1) (own_lowSurrogate x1) A54 (own_hsB x1).1 (own_hsB x1).2 (own_lsB x1).1 (own_lsB x1).2) rfl rfl (fun v58 T58 L58 X58 hQ58 => ?_)
  obtain ⟨rfl, Nq58, K58, t58, ob58, S58⟩ := hQ58
  have N58 := Fr.app N54 Nq58
  have gbt58 : n0 ≤ t58 := nT (nT (nT Z0 E51.1) K54.1) ob58
  have f59 := (SS.2.2.2.2.2.2.2.1.ext (((X00.ext E51).keep K54 all0).keep K58 (allS (nT Z0 (nE g51)) all0)).2)
  refine OD.gS X58 (bd 5) hZ hown hw Wd126 Via.refl rfl f59 (fun T60 X60 e60 => ?_)
  refine OD.cV X60 (bd 6) hZ hown hml Wd128 Wd129 (nfs hZ (Wd131 hw)) Wd131 Wd130 Wd3 Wd132 pd45 (rmGB2 hw b51 u8 T58.heap n0 (((X00.ext E51).keep K54 all0).keep K58 (allS (nT Z0 (nE g51)) all0)) SS (nT (nT (nT Z0 E51.1) K54.1) K58.1) t58 (own_highSurrogate x1) (own_lowSurrogate x1) S58 hh hlo rfl) e60 S58.1 rfl (fun v61 T61 L61 X61 hQ61 => ?_)
  obtain ⟨b61, k61', z61, G61, rfl, Nq61, K61, ob61, A61, Y61⟩ := hQ61
  have N61 := Fr.app N58 Nq61
  have gbb61 : n0 ≤ b61 := nT (nT (nT (nT Z0 E51.1) K54.1) K58.1) ob61
  refine OD.at 27 (fun t k => zaT X61 (bd 7) rfl #[vR a1, vI x1, vR b61, .unset, .unset, .unset, .unset] rfl (zaN X61 (bd 8) rfl rfl (zaT X61 (bd 9) rfl #[vR a1, vI x1, vR b61, vR b61, .unset, .unset, .unset] rfl (zaN X61 (bd 10) rfl rfl (zal X61 (bd 11) hZ rfl A61 (zsI X61 (bd 12) #[vR a1, vI x1, vR b61, vR b61, vI z61, .unset, .unset] rfl (zcI X61 (bd 13) 0 rfl (zsI X61 (bd 14) #[vR a1, vI x1, vR b61, vR b61, vI z61, vI 0, .unset] rfl k)))))))) ?_
  have hbl : (own_u8s (own_toCodePoint (own_highSurrogate x1) (own_lowSurrogate x1))).length ≤ 4 := (nl rfl)
  have nba0 : b61 ≠ a1 := (Ne.symm (nN (nU (nU (nU HX.e1.lt E51.1) K54.1) K58.1) ob61))
  have nbt0 : b61 ≠ t1 := (Ne.symm (nN (nU (nU (nU HX.e2.lt E51.1) K54.1) K58.1) ob61))
  have loop : ∀ (fu iv cn sn : Nat) (cx : List Int32) (tl : Addr) (sl : Slot) (Tl : State) (hq : Heap) (Ll : List Loc), iv + fu = (own_u8s (own_toCodePoint (own_highSurrogate x1) (own_lowSurrogate x1))).length → cn + 3 * fu ≤ 20 → sn + 240 * fu ≤ 1140 → cx.length + 3 * fu ≤ 18 → cx ++ own_pcts ((own_u8s (own_toCodePoint (own_highSurrogate x1) (own_lowSurrogate x1))).drop iv) = cs ++ own_pcts (own_u8s (own_toCodePoint (own_highSurrogate x1) (own_lowSurrogate x1))) → OSl sl → Stand p l e (rO 8 20 1140 147) s m #[(.ref a1), (.int x1)] below meth c Tl Ll cn sn → Tl.heap = hq → Fr n0 Ll → Keep h0 hq [a1, t1] → (tl = t1 ∨ h0.size ≤ tl) → n0 ≤ tl → Bdx Z hq a1 tl cx → b61 ≠ a1 → b61 ≠ tl → Arv Z hq b61 k61' .byte z61 (own_rg z61.toNatClampNeg (fun x => .int (G61 x))) (.int 0) → OD p e s below (Q_rmAES Z a1 x1 h0 n0 t1 cs) (rO 8 20 1140 147).cells (rO 8 20 1140 147).slots (Tl.setTop (mkF m 27 #[vR a1, vI x1, vR b61, vR b61, vI z61, vI ((Int32.ofNat iv)), sl] [])) := by
    intro fu
    induction fu with
    | zero =>
      intro iv cn sn cx tl sl Tl hq Ll hiv hcn hsn hcx hE hsl Xl el Nl Kl ol gl Bl nba nbt Al
      have Ol := X00.keep Kl (allS g1 (allS gt all0))
      have Zl := nT Z0 Kl.1
      have ei := own_on (i := iv) (by omega)
      have hz := Y61.1
      have hk : ¬ (Int32.ofNat iv) < z61 := own_mle (by omega)
      have hF := own_pend (by omega) hE
      refine OD.at 79 (fun t k => ziL Xl (bd 15) rfl (ziL Xl (bd 16) rfl (zkY Xl (bd 17) 79 (flt hk).2.1 k))) ?_
      exact OD.rV Xl (bd 18) hlk hrt ⟨tl, rfl, Nl, by rw [el]; exact Kl, ol, gl, by rw [el, ← hF]; exact Bl⟩ (hk := (by first | omega | (dsimp only [rO, Pt.cells, Pt.slots]; omega))) (hs := (by first | omega | (dsimp only [rO, Pt.cells, Pt.slots]; omega)))
    | succ fu ih =>
      intro iv cn sn cx tl sl Tl hq Ll hiv hcn hsn hcx hE hsl Xl el Nl Kl ol gl Bl nba nbt Al
      have Ol := X00.keep Kl (allS g1 (allS gt all0))
      have Zl := nT Z0 Kl.1
      have ei := own_on (i := iv) (by omega)
      have hz := Y61.1
      have hi : iv < (own_u8s (own_toCodePoint (own_highSurrogate x1) (own_lowSurrogate x1))).length := by omega
      have hk : (Int32.ofNat iv) < z61 := own_mlt (by omega)
      refine OD.at 37 (fun t k => ziL Xl (bd 15) rfl (ziL Xl (bd 16) rfl (zkN Xl (bd 17) (tlt hk).2.1 (zaN Xl (bd 19) rfl rfl (ziL Xl (bd 20) rfl k))))) ?_
      obtain ⟨cl62, Ar62, hi62, ha62⟩ := own_at Al (j := (Int32.ofNat iv)) (v := (.int (G61 (Int32.ofNat iv)))) (own_in (by omega) (by omega)) (own_rg_at (own_in (by omega) (by omega)) _ _)
      refine OD.at 38 (fun t k => Xl.baloadBytes hx (j := (Int32.ofNat iv)) (v := (.int (G61 (Int32.ofNat iv)))) (by rw [el]; exact Ar62.1) (State.isArrayOf_alike hZ.alike Ar62.2.1) Ar62.2.2 hi62 ha62 (g := (mkF m 37 #[vR a1, vI x1, vR b61, vR b61, vI z61, vI ((Int32.ofNat iv)), sl] [(.int (Int32.ofNat iv)), (.ref b61)])) rfl rfl (bd 21).2 _ k) ?_
      rw [Y61.2 iv hi]
      refine OD.at 43 (fun t k => zsI Xl (bd 22) #[vR a1, vI x1, vR b61, vR b61, vI z61, vI ((Int32.ofNat iv)), vI (((own_u8s (own_toCodePoint (own_highSurrogate x1) (own_lowSurrogate x1))).getD iv 0))] (own_st6 hsl) (zaN Xl (bd 23) rfl rfl (zcB Xl (bd 24) 37 rfl k))) ?_
      refine OD.cV Xl (bd 25) hZ hown hml Wd157 Wd158 (nfs hZ (Wd160 hw)) Wd160 Wd159 Wd36 Wd161 pd37 (rmSAs hw a1 (37 : Int32) hq n0 Ol SS Zl tl cx Bl (by omega) g1 gl (by decide) (by decide)) el Bl.e1 rfl (fun v63 T63 L63 X63 hQ63 => ?_)
      obtain ⟨t63, rfl, Nq63, K63, ot63, gt63, B63⟩ := hQ63
      have N63 := Fr.app Nl Nq63
      have nyt63_b61 := own_ntp nbt Al.lt ot63
      have f64 := (SS.2.2.2.2.2.2.2.2.2.1.ext (Ol.keep K63 (allS g1 (allS gl all0))).2)
      refine OD.gS X63 (bd 26) hZ hown hw Wd182 Via.refl rfl f64 (fun T65 X65 e65 => ?_)
      refine OD.at 56 (fun t k => ziL X65 (bd 27) rfl (zcI X65 (bd 28) 4 rfl (zishr X65 (bd 29) (zcB X65 (bd 30) 15 rfl (ziand X65 (bd 31) k))))) ?_
      have f66 := (SS.2.2.2.2.2.2.2.2.2.2.ext (Ol.keep K63 (allS g1 (allS gl all0))).2)
      obtain ⟨cl67, Ar67, hi67, ha67⟩ := own_at f66 (j := ((((own_u8s (own_toCodePoint (own_highSurrogate x1) (own_lowSurrogate x1))).getD iv 0) >>> ((4 : Int32) &&& 31)) &&& (15 : Int32))) (v := (.int (own_hxd ((((own_u8s (own_toCodePoint (own_highSurrogate x1) (own_lowSurrogate x1))).getD iv 0) >>> ((4 : Int32) &&& 31)) &&& (15 : Int32))))) (own_15 _) (own_rg_at (own_15 _) _ _)
      refine OD.at 57 (fun t k => X65.caload hx (j := ((((own_u8s (own_toCodePoint (own_highSurrogate x1) (own_lowSurrogate x1))).getD iv 0) >>> ((4 : Int32) &&& 31)) &&& (15 : Int32))) (v := (.int (own_hxd ((((own_u8s (own_toCodePoint (own_highSurrogate x1) (own_lowSurrogate x1))).getD iv 0) >>> ((4 : Int32) &&& 31)) &&& (15 : Int32))))) (by rw [e65]; exact Ar67.1) (State.isArrayOf_alike hZ.alike Ar67.2.1) Ar67.2.2 hi67 ha67 (g := (mkF m 56 #[vR a1, vI x1, vR b61, vR b61, vI z61, vI ((Int32.ofNat iv)), vI (((own_u8s (own_toCodePoint (own_highSurrogate x1) (own_lowSurrogate x1))).getD iv 0))] [(.int ((((own_u8s (own_toCodePoint (own_highSurrogate x1) (own_lowSurrogate x1))).getD iv 0) >>> ((4 : Int32) &&& 31)) &&& (15 : Int32))), (.ref hxa), (.ref a1)])) rfl rfl (bd 32).2 _ k) ?_
      refine OD.cV X65 (bd 33) hZ hown hml Wd157 Wd158 (nfs hZ (Wd160 hw)) Wd160 Wd159 Wd36 Wd161 pd37 (rmSAs hw a1 (own_hxd ((((own_u8s (own_toCodePoint (own_highSurrogate x1) (own_lowSurrogate x1))).getD iv 0) >>> ((4 : Int32) &&& 31)) &&& (15 : Int32))) T63.heap n0 (Ol.keep K63 (allS g1 (allS gl all0))) SS (nT Zl K63.1) t63 (cx ++ [(37 : Int32)]) B63 (by simp only [List.length_append, List.length_cons, List.length_nil]; omega) g1 gt63 (own_hxB _).1 (own_hxB _).2) e65 B63.e1 rfl (fun v68 T68 L68 X68 hQ68 => ?_)
      obtain ⟨t68, rfl, Nq68, K68, ot68, gt68, B68⟩ := hQ68
      have N68 := Fr.app N63 Nq68
      have nyt68_b61 := own_ntp nyt63_b61 (nU Al.lt K63.1) ot68
      have f69 := (SS.2.2.2.2.2.2.2.2.2.1.ext ((Ol.keep K63 (allS g1 (allS gl all0))).keep K68 (allS g1 (allS gt63 all0))).2)
      refine OD.gS X68 (bd 34) hZ hown hw Wd182 Via.refl rfl f69 (fun T70 X70 e70 => ?_)
      refine OD.at 68 (fun t k => ziL X70 (bd 35) rfl (zcB X70 (bd 36) 15 rfl (ziand X70 (bd 37) k))) ?_
      have f71 := (SS.2.2.2.2.2.2.2.2.2.2.ext ((Ol.keep K63 (allS g1 (allS gl all0))).keep K68 (allS g1 (allS gt63 all0))).2)
      obtain ⟨cl72, Ar72, hi72, ha72⟩ := own_at f71 (j := (((own_u8s (own_toCodePoint (own_highSurrogate x1) (own_lowSurrogate x1))).getD iv 0) &&& (15 : Int32))) (v := (.int (own_hxd (((own_u8s (own_toCodePoint (own_highSurrogate x1) (own_lowSurrogate x1))).getD iv 0) &&& (15 : Int32))))) (own_15 _) (own_rg_at (own_15 _) _ _)
      refine OD.at 69 (fun t k => X70.caload hx (j := (((own_u8s (own_toCodePoint (own_highSurrogate x1) (own_lowSurrogate x1))).getD iv 0) &&& (15 : Int32))) (v := (.int (own_hxd (((own_u8s (own_toCodePoint (own_highSurrogate x1) (own_lowSurrogate x1))).getD iv 0) &&& (15 : Int32))))) (by rw [e70]; exact Ar72.1) (State.isArrayOf_alike hZ.alike Ar72.2.1) Ar72.2.2 hi72 ha72 (g := (mkF m 68 #[vR a1, vI x1, vR b61, vR b61, vI z61, vI ((Int32.ofNat iv)), vI (((own_u8s (own_toCodePoint (own_highSurrogate x1) (own_lowSurrogate x1))).getD iv 0))] [(.int (((own_u8s (own_toCodePoint (own_highSurrogate x1) (own_lowSurrogate x1))).getD iv 0) &&& (15 : Int32))), (.ref hxa), (.ref a1)])) rfl rfl (bd 38).2 _ k) ?_
      refine OD.cV X70 (bd 39) hZ hown hml Wd157 Wd158 (nfs hZ (Wd160 hw)) Wd160 Wd159 Wd36 Wd161 pd37 (rmSAs hw a1 (own_hxd (((own_u8s (own_toCodePoint (own_highSurrogate x1) (own_lowSurrogate x1))).getD iv 0) &&& (15 : Int32))) T68.heap n0 ((Ol.keep K63 (allS g1 (allS gl all0))).keep K68 (allS g1 (allS gt63 all0))) SS (nT (nT Zl K63.1) K68.1) t68 ((cx ++ [(37 : Int32)]) ++ [(own_hxd ((((own_u8s (own_toCodePoint (own_highSurrogate x1) (own_lowSurrogate x1))).getD iv 0) >>> ((4 : Int32) &&& 31)) &&& (15 : Int32)))]) B68 (by simp only [List.length_append, List.length_cons, List.length_nil]; omega) g1 gt68 (own_hxB _).1 (own_hxB _).2) e70 B68.e1 rfl (fun v73 T73 L73 X73 hQ73 => ?_)
      obtain ⟨t73, rfl, Nq73, K73, ot73, gt73, B73⟩ := hQ73
      have N73 := Fr.app N68 Nq73
      have nyt73_b61 := own_ntp nyt68_b61 (nU (nU Al.lt K63.1) K68.1) ot73
      refine OD.at 27 (fun t k => XS.pop X73.here hx rfl (bd 40).2 rfl rfl (zic X73 (bd 41) rfl #[vR a1, vI x1, vR b61, vR b61, vI z61, vI (((Int32.ofNat iv) + (1 : Int32))), vI (((own_u8s (own_toCodePoint (own_highSurrogate x1) (own_lowSurrogate x1))).getD iv 0))] rfl (zgO X73 (bd 42) 27 k))) ?_
      rw [own_suc]
      exact ih (iv + 1) _ _ _ t73 _ _ _ _ (by omega) (by first | omega | (dsimp only [rO, Pt.cells, Pt.slots]; omega)) (by first | omega | (dsimp only [rO, Pt.cells, Pt.slots]; omega)) (by simp only [List.length_append, List.length_cons, List.length_nil]; omega) (own_ptk hi hE) (Or.inr ⟨_, rfl⟩) X73 rfl N73 (((Kl.trans K63 (allS (Or.inl (mG 0 rfl)) (allS (own_inws ol (mG 1 rfl)) all0))).trans K68 (allS (Or.inl (mG 0 rfl)) (allS (own_inws (own_or2 ot63 ol Kl.1) (mG 1 rfl)) all0))).trans K73 (allS (Or.inl (mG 0 rfl)) (allS (own_inws (own_or2 ot68 (own_or2 ot63 ol Kl.1) (nT Kl.1 K63.1)) (mG 1 rfl)) all0))) (own_or2 ot73 (own_or2 ot68 (own_or2 ot63 ol Kl.1) (nT Kl.1 K63.1)) (nT (nT Kl.1 K63.1) K68.1)) gt73 B73 nba nyt73_b61 (((Al.keep K63 (ninS nba (ninS nbt nin0))).keep K68 (ninS nba (ninS nyt63_b61 nin0))).keep K73 (ninS nba (ninS nyt68_b61 nin0)))
  exact loop _ 0 _ _ _ t1 _ _ _ _ (Nat.zero_add _) (by first | omega | (dsimp only [rO, Pt.cells, Pt.slots]; omega)) (by first | omega | (dsimp only [rO, Pt.cells, Pt.slots]; omega)) (by omega) rfl (Or.inl rfl) X61 rfl N61 (((((Keep.refl h0 [a1, t1]).ext E51).trans K54 all0).trans K58 (allS (Or.inr (nT Nat.le.refl (nE g51))) all0)).trans K61 all0) (Or.inl rfl) gt ((((HX.ext E51).keep K54 nin0 nin0).keep K58 (ninS (nN HX.e1.lt (nE g51)) nin0) (ninS (nN HX.e2.lt (nE g51)) nin0)).keep K61 nin0 nin0) nba0 nbt0 A61
def Q_rmENC (Z : State) (a1 : Addr) (a2 : Addr) (h0 : Heap) (n0 : Nat) (cs : List Int32) (ks : List Int32) (v : Option Value) (h : Heap) (L : List Loc) : Prop := ∃ r t : Addr, v = some (.ref r) ∧ Fr n0 L ∧ Keep h0 h [] ∧ h0.size ≤ r ∧ h0.size ≤ t ∧ Strg Z h r t (own_outF ks cs 3 0)
set_option maxRecDepth 65536 in
set_option maxHeartbeats 40000000 in
theorem rmENC {l : Launch} {Z : State} {a0 : Array Value} (hw : HW a0 Z) (a1 : Addr) (a2 : Addr) (h0 : Heap) (n0 : Nat) (X00 : Old Z n0 h0) (SS : STs Z zc fm u8 hxa kh) (Z0 : n0 ≤ h0.size) (t1 : Addr) (cs : List Int32) (HS : Strg Z h0 a1 t1 cs) (hc : cs.length ≤ 2) (t2 : Addr) (ks : List Int32) (HK : Strg Z h0 a2 t2 ks) (hk : ks.length ≤ 1)  :
    MetFree l ⟨zZ6, "encode", zZ38⟩ (head1 (Jvm.Cond.code ⟨zZ6, "encode", zZ38⟩ kQ85 5 (some (.object zZ0)) :: []) (rO 11 48 2010 198)) (fun a U => a = #[(.ref a1), (.ref a2)] ∧ Z.Warmed39 U.vm ∧ U.heap = h0 ∧ CHv Z own_EL U.vm h0) (fun _ _ _ _ _ => True) (fun _ U o U' => ∃ v L, o = .returned v ∧ Q_rmENC Z a1 a2 h0 n0 cs ks v U'.heap L ∧ CHr Z own_EL U.vm U.heap U'.vm U'.heap ∧ ReturnedEndW U o U' L (rO 11 48 2010 198).cells (rO 11 48 2010 198).slots) := by
  refine MetFree.of_bodySF (pF pn5) hisR ?_
  intro p e s m args below meth c s₁ Bd hml0 hP hK
  obtain ⟨rfl, hZ, hh, hH0⟩ := hP
  have hx := Bd.exec
  have hby := Bd.bytes
  have hlk : meth.locks = false := Bd.notSynchronized
  have hml : c.maxLocals = 5 := hml0
  have hown : s.vm.findClass zZ6 = some m.cls := findClass_of_methodNamed Bd.named
  have hnm := (name_of_methodNamed Bd.named Bd.method).1
  have X0 : Stand p l e (rO 11 48 2010 198) s m #[(.ref a1), (.ref a2)] below meth c s₁ [] 0 0 := Stand.of_body Bd
  have e0 : s₁.heap = h0 := by rw [← hh, Bd.state]; rfl
  have hS0 : s.Since s.vm s.heap.size := (State.WarmedH.refl s).since _
  have hk0 : s.heap.size ≤ h0.size := Nat.le_of_eq (by rw [hh])
  have X0 : Stand p l e (rO 11 48 2010 198) (s.setVm s.vm) m #[(.ref a1), (.ref a2)] below meth c s₁ [] 0 0 := X0
  have hZ : Z.Warmed39 (s.setVm s.vm).vm := hZ
  have hown : (s.setVm s.vm).vm.findClass zZ6 = some m.cls := hown
  have ch0 : CHr Z own_EL s.vm s.heap s.vm h0 := by have q := CHr.refl hH0; rw [← hh] at q ⊢; exact q
  have N0 := Fr.nil n0
  have bd : ∀ k, DX p c (dG dT7 k) := fun k => ⟨hx, hb hby (dk dP7 k)⟩
  have hrt := Bd.returns
  suffices hgo : ODH Z own_EL p e s below (Q_rmENC Z a1 a2 h0 n0 cs ks) (rO 11 48 2010 198).cells (rO 11 48 2010 198).slots (s₁.setTop (mkF m 0 #[vR a1, vR a2, .unset, .unset, .unset] [])) by
    obtain ⟨s₂, o, hgo1, hgo2⟩ := hgo
    exact ⟨s₂, o, castTop (ef33 m a1 a2) hgo1, hgo2⟩
  obtain ⟨T51, h51, X51, e51, E51, A51, D51, -, st51⟩ := newO X0 hx hZ hown (Wd34 hw) (Wd35 hw) (Wd36 hw) e0 (g := (mkF m 0 #[vR a1, vR a2, .unset, .unset, .unset] [])) rfl (bd 0).2 (nl rfl) (nl rfl)
  obtain ⟨b51, g51⟩ : ∃ z, z = h0.size := ⟨_, rfl⟩
  rw [← g51] at A51 D51 st51
  have Fn52 : Fld Z h51 b51 zZ2 "value" "[B" .null := D51 (Or.inl (Wd59 hw)) (ty := (.array .byte)) (by decide)
  have Fn53 : Fld Z h51 b51 zZ2 "coder" "B" (.int 0) := D51 (Or.inl (Wd61 hw)) (ty := .byte) (by decide)
  have Fn54 : Fld Z h51 b51 zZ2 "count" "I" (.int 0) := D51 (Or.inl (Wd168 hw)) (ty := .int) (by decide)
  have Fn55 : Fld Z h51 b51 zZ2 zZ33 "Z" (.int 0) := D51 (Or.inl (Wd418 hw)) (ty := .boolean) (by decide)
  refine ODH.go (B := (T51.setTop (mkF m 3 #[vR a1, vR a2, .unset, .unset, .unset] [(.ref b51)]))) st51 ?_
  have ch56 := ch0.trans (CHr.ext E51 ch0.1)
  refine ODH.at 5 (fun t k => XS.dup X51.here hx rfl (bd 1).2 rfl rfl (zaN X51 (bd 2) rfl rfl k)) ?_
  have f57 := (HS.ext E51)
  have f58 := (HS.1.ext E51)
  refine ODH.cV X51 (bd 3) hZ hown hml Wd37 Wd38 (nfs hZ (Wd40 hw)) Wd40 Wd39 Wd3 Wd41 pd11 (rmLn hw a1 h51 n0 (X00.ext E51) SS t1 cs f57 (by omega)) e51 f58 rfl (fun v59 T59 L59 X59 hQ59 => ?_)
  obtain ⟨rfl, rfl, e59⟩ := hQ59
  try simp only [List.append_nil] at X59
  refine ODH.cI X59 (bd 4) hZ hown hml Wd47 Wd48 Wd36 Wd49 pd34 (rmSIN hw b51 (Int32.ofNat cs.length) h51 n0 (X00.ext E51) SS (nT Z0 E51.1) A51 Fn52 Fn53 Fn54 Fn55 (nT Z0 (nE g51)) (by rw [own_on (by omega)]; omega) (by rw [own_on (by omega)]; omega)) e59 rfl (fun v60 T60 L60 X60 hQ60 => ?_)
  obtain ⟨rfl, Nq60, K60, t60, ob60, B60⟩ := hQ60
  have N60 := Fr.app N0 Nq60
  have gbt60 : n0 ≤ t60 := nT (nT Z0 E51.1) ob60
  have hsch61 := (show ∀ x ∈ [b51], Safe Z own_EL _ _ x from (fun x hx => by simp only [List.mem_cons, List.not_mem_nil, or_false] at hx; rcases hx with rfl <;> first | exact (Safe.exa hZ.alike A51 (by decide) (by decide))))
  have sfch61_t60 := Safe.keep K60 hsch61 ch56.1 (Safe.new ob60)
  have ch61 := ch56.trans (CHr.keep K60 hsch61 ch56.1)
  refine ODH.at 14 (fun t k => zaT X60 (bd 5) rfl #[vR a1, vR a2, vR b51, .unset, .unset] rfl (zcI X60 (bd 6) 0 rfl (zsN X60 (bd 7) #[vR a1, vR a2, vR b51, vI 0, .unset] rfl k))) ?_
  have gB : n0 ≤ b51 := (nT Z0 (nE g51))
  have aB : h0.size ≤ b51 := (nT Nat.le.refl (nE g51))
  have loop : ∀ (fu iv cn sn kq : Nat) (bs : List Int32) (tq : Addr) (sl : Slot) (vq : Vm) (Tq : State) (hq : Heap) (Lq : List Loc), cs.length < iv + fu → iv ≤ cs.length → cn + 20 * (cs.length - iv) + 2 ≤ 48 → sn + 924 * (cs.length - iv) + 90 ≤ 2010 → bs.length + 9 * (cs.length - iv) ≤ 18 → bs ++ own_outF ks cs fu iv = (own_outF ks cs 3 0) → OSl sl → Stand p l e (rO 11 48 2010 198) (s.setVm vq) m #[(.ref a1), (.ref a2)] below meth c Tq Lq cn sn → Tq.heap = hq → Z.Warmed39 (s.setVm vq).vm → (s.setVm vq).vm.findClass zZ6 = some m.cls → s.Since vq kq → kq ≤ hq.size → CHr Z own_EL s.vm s.heap vq hq → Fr n0 Lq → Keep h0 hq [] → h0.size ≤ tq → Bdx Z hq b51 tq bs → Safe Z own_EL vq hq tq → ODH Z own_EL p e s below (Q_rmENC Z a1 a2 h0 n0 cs ks) (rO 11 48 2010 198).cells (rO 11 48 2010 198).slots (Tq.setTop (mkF m 14 #[vR a1, vR a2, vR b51, vI ((Int32.ofNat iv)), sl] [])) := by
    intro fu
    induction fu with
    | zero =>
      intro iv cn sn kq bs tq sl vq Tq hq Lq h1 h2
      omega
    | succ fu ih =>
      intro iv cn sn kq bs tq sl vq Tq hq Lq hf1 hf2 hcn hsn hbs hE hsl Xq eq hZ hown hSq hkq chq Nq Kq aq Bq sfq
      have Oq := X00.keep Kq all0
      have Zq := nT Z0 Kq.1
      have ei := own_on (i := iv) (by omega)
      have el := own_on (i := cs.length) (by omega)
      have gq : n0 ≤ tq := nT Z0 aq
      have HSq := HS.keep Kq nin0 nin0
      have HKq := HK.keep Kq nin0 nin0
      have na1b51 : a1 ≠ b51 := id (nN HS.1.lt aB)
      have na1tq : a1 ≠ tq := id (nN HS.1.lt aq)
      have nt1b51 : t1 ≠ b51 := id (nN (Strg.two HS).lt aB)
      have nt1tq : t1 ≠ tq := id (nN (Strg.two HS).lt aq)
      have na2b51 : a2 ≠ b51 := id (nN HK.1.lt aB)
      have na2tq : a2 ≠ tq := id (nN HK.1.lt aq)
      have nt2b51 : t2 ≠ b51 := id (nN (Strg.two HK).lt aB)
      have nt2tq : t2 ≠ tq := id (nN (Strg.two HK).lt aq)
      refine ODH.at 16 (fun t k => ziN Xq (bd 8) rfl (zaN Xq (bd 9) rfl rfl k)) ?_
      refine ODH.cV Xq (bd 10) hZ hown hml Wd37 Wd38 (nfs hZ (Wd40 hw)) Wd40 Wd39 Wd3 Wd41 pd11 (rmLn hw a1 hq n0 Oq SS t1 cs HSq (by omega)) eq HSq.1 rfl (fun v62 T62 L62 X62 hQ62 => ?_)
      obtain ⟨rfl, rfl, e62⟩ := hQ62
      try simp only [List.append_nil] at X62
      by_cases c19_63 : (Int32.ofNat iv) < (Int32.ofNat cs.length)
      · refine ODH.at 22 (fun t k => zkN X62 (bd 11) (tlt c19_63).2.1 k) ?_
        have hi : iv < cs.length := by have := own_lt c19_63; omega
        have hcl : (Int32.ofNat iv).toNatClampNeg = iv := by have := own_clamp (x := Int32.ofNat iv) (by omega); omega
        refine ODH.at 24 (fun t k => zaN X62 (bd 12) rfl rfl (ziN X62 (bd 13) rfl k)) ?_
        refine ODH.cV X62 (bd 14) hZ hown hml Wd62 Wd63 (nfs hZ (Wd65 hw)) Wd65 Wd64 Wd3 Wd66 pd20 (rmCP hw a1 (Int32.ofNat iv) hq n0 Oq SS t1 cs HSq (by omega) (by omega) (by omega)) e62 HSq.1 rfl (fun v64 T64 L64 X64 hQ64 => ?_)
        obtain ⟨rfl, rfl, e64⟩ := hQ64
        try simp only [List.append_nil] at X64
        rw [hcl]
        obtain ⟨cp, hcp⟩ : ∃ z, z = own_cpa cs iv := ⟨_, rfl⟩
        rw [← hcp]
        have hcb := own_cpaB HS hi
        rw [← hcp] at hcb
        refine ODH.at 32 (fun t k => zsI X64 (bd 15) #[vR a1, vR a2, vR b51, vI ((Int32.ofNat iv)), vI cp] (own_st4 hsl) (ziL X64 (bd 16) rfl (zaN X64 (bd 17) rfl rfl k))) ?_
        obtain ⟨_, _, ⟨T65, L65, k65, n65⟩, -, X65, hs65, gr65, ⟨Lc65, hQ65, l65, y65, z65, cr65⟩, st65⟩ := callSS X64 hx (y := ⟨zZ6, "isKept", zZ37⟩) hown (mvT hZ (Wd80 hw)) (mvT hZ (Wd81 hw)) (mvT hZ (Wd32 hw)) (mvT hZ (Wd82 hw)) (by decide) (backOfSH (W := 0) (rmK hw cp a2 hq n0 Oq SS Zq t2 ks HKq hk) hZ (Wd82 hw) (Wd32 hw) (by decide) (by decide) (EL_in hw) chq.1) (g := (mkF m 32 #[vR a1, vR a2, vR b51, vI ((Int32.ofNat iv)), vI cp] [(.ref a2), (.int cp)])) rfl (by rw [hml]; rfl) (argsL := [(.int cp), (.ref a2)]) (rest := []) (lenOf pd46 rfl) rfl (by show 2 * 0 + _ ≤ _; exact Nat.le_of_eq rfl) (bd 18).2 (fun _ _ => ⟨rfl, e64, (by first | omega | (dsimp only [rO, Pt.cells, Pt.slots]; omega)), (by first | omega | (dsimp only [rO, Pt.cells, Pt.slots]; omega))⟩)
        dsimp only [Pt.U, Pt.locs, Pt.cells, Pt.slots] at X65 l65 y65 z65 st65 hQ65 hs65 gr65 cr65
        subst l65 y65 z65
        have X65 : Stand p l e _ (s.setVm T65.vm) m _ below meth c T65 _ _ _ := X65
        have hZ : Z.Warmed39 (s.setVm T65.vm).vm := State.Warmed39.trans (t := (s.setVm vq)) hZ hs65.1
        have hown : (s.setVm T65.vm).vm.findClass zZ6 = some m.cls := by rw [show (s.setVm T65.vm).vm = T65.vm from rfl, hs65.1.alike.findClass]; exact hown
        have hS65 : s.Since T65.vm T65.heap.size := hSq.trans hs65 (nT (by rw [e64]; exact hkq) gr65)
        have hk65 : T65.heap.size ≤ T65.heap.size := Nat.le_refl _
        have ch65 := chq.trans cr65
        have sf65_tq := cr65.safe Bq.e2.lt sfq
        obtain ⟨rfl, Nq65, K65⟩ := hQ65
        have N65 := Fr.app Nq Nq65
        refine ODH.via (B := (T65.setTop (mkF m 35 #[vR a1, vR a2, vR b51, vI ((Int32.ofNat iv)), vI cp] [(.int (own_isk ks cp))]))) st65 ?_
        by_cases c35_66 : (own_isk ks cp) = (0 : Int32)
        · refine ODH.at 48 (fun t k => zjY X65 (bd 19) 48 (teq c35_66).1 k) ?_
          by_cases hbm : own_isBmpCodePoint cp = (0 : Int32)
          · skip
            have hc1 := own_cc2 hbm hcb.1
            have hbq := own_bmpF hbm hcb.1
            refine ODH.at 51 (fun t k => zaN X65 (bd 20) rfl rfl (ziL X65 (bd 21) rfl k)) ?_
            have f67 := (Bq.keep K65 nin0 nin0)
            refine ODH.cS X65 (bd 22) hZ hown hml Wd114 Wd115 Wd32 Wd116 pd47 (rmAES hw b51 cp T65.heap n0 (Oq.keep K65 all0) SS (nT Zq K65.1) tq bs f67 (by omega) gB gq hbm (own_valT hcb.1 hcb.2.1) (own_hh hbq hcb.2.1) (own_hl _)) rfl rfl (fun v68 T68 L68 X68 hQ68 => ?_)
            obtain ⟨t68, rfl, Nq68, K68, ot68, gt68, B68⟩ := hQ68
            have N68 := Fr.app N65 Nq68
            have abt68 := own_abv ot68 aq (nT Kq.1 K65.1)
            have hsch69 := (show ∀ x ∈ [b51, tq], Safe Z own_EL _ _ x from (fun x hx => by simp only [List.mem_cons, List.not_mem_nil, or_false] at hx; rcases hx with rfl | rfl <;> first | exact (Safe.exa hZ.alike (Bq.e1.keep K65) (by decide) (by decide)) | exact sf65_tq))
            have sfch69_tq := Safe.keep K68 hsch69 ch65.1 sf65_tq
            have sfch69_t68 := Safe.keep K68 hsch69 ch65.1 (own_safeOr ot68 sf65_tq)
            have ch69 := ch65.trans (CHr.keep K68 hsch69 ch65.1)
            refine ODH.at 57 (fun t k => ziN X68 (bd 23) rfl (ziL X68 (bd 24) rfl k)) ?_
            refine ODH.cS X68 (bd 25) hZ hown hml Wd205 Wd206 Wd120 Wd207 pd20 (rm_charCount hw cp T68.heap) rfl rfl (fun v70 T70 L70 X70 hQ70 => ?_)
            obtain ⟨rfl, rfl, e70⟩ := hQ70
            try simp only [List.append_nil] at X70
            refine ODH.at 14 (fun t k => ziadd X70 (bd 26) (zsN X70 (bd 27) #[vR a1, vR a2, vR b51, vI (((Int32.ofNat iv) + (own_charCount cp))), vI cp] rfl (zgO X70 (bd 28) 14 k))) ?_
            rw [own_ccA]
            exact ih _ _ _ _ _ t68 _ _ _ _ _ (by omega) (by omega) (by first | omega | (dsimp only [rO, Pt.cells, Pt.slots]; omega)) (by first | omega | (dsimp only [rO, Pt.cells, Pt.slots]; omega)) (by rw [List.length_append, own_plen]; have : (own_u8s (own_toCodePoint (own_highSurrogate cp) (own_lowSurrogate cp))).length = 4 := rfl; omega) (own_oS hi hcp c35_66 hbm hE) (Or.inr ⟨_, rfl⟩) X70 e70 hZ hown hS65 (nT hk65 K68.1) ch69 N68 ((Kq.trans K65 all0).trans K68 (allS (Or.inr aB) (allS (Or.inr aq) all0))) abt68 B68 sfch69_t68
          · skip
            have hc1 := own_cc1 hbm
            have hbq := own_bmpT hbm
            refine ODH.at 51 (fun t k => zaN X65 (bd 20) rfl rfl (ziL X65 (bd 21) rfl k)) ?_
            have f71 := (Bq.keep K65 nin0 nin0)
            refine ODH.cS X65 (bd 22) hZ hown hml Wd114 Wd115 Wd32 Wd116 pd47 (rmAEB hw b51 cp T65.heap n0 (Oq.keep K65 all0) SS (nT Zq K65.1) tq bs f71 (by omega) gB gq hbm hbq.1 hbq.2) rfl rfl (fun v72 T72 L72 X72 hQ72 => ?_)
            obtain ⟨t72, rfl, Nq72, K72, ot72, gt72, B72⟩ := hQ72
            have N72 := Fr.app N65 Nq72
            have abt72 := own_abv ot72 aq (nT Kq.1 K65.1)
            have hsch73 := (show ∀ x ∈ [b51, tq], Safe Z own_EL _ _ x from (fun x hx => by simp only [List.mem_cons, List.not_mem_nil, or_false] at hx; rcases hx with rfl | rfl <;> first | exact (Safe.exa hZ.alike (Bq.e1.keep K65) (by decide) (by decide)) | exact sf65_tq))
            have sfch73_tq := Safe.keep K72 hsch73 ch65.1 sf65_tq
            have sfch73_t72 := Safe.keep K72 hsch73 ch65.1 (own_safeOr ot72 sf65_tq)
            have ch73 := ch65.trans (CHr.keep K72 hsch73 ch65.1)
            refine ODH.at 57 (fun t k => ziN X72 (bd 23) rfl (ziL X72 (bd 24) rfl k)) ?_
            refine ODH.cS X72 (bd 25) hZ hown hml Wd205 Wd206 Wd120 Wd207 pd20 (rm_charCount hw cp T72.heap) rfl rfl (fun v74 T74 L74 X74 hQ74 => ?_)
            obtain ⟨rfl, rfl, e74⟩ := hQ74
            try simp only [List.append_nil] at X74
            refine ODH.at 14 (fun t k => ziadd X74 (bd 26) (zsN X74 (bd 27) #[vR a1, vR a2, vR b51, vI (((Int32.ofNat iv) + (own_charCount cp))), vI cp] rfl (zgO X74 (bd 28) 14 k))) ?_
            rw [own_ccA]
            exact ih _ _ _ _ _ t72 _ _ _ _ _ (by omega) (by omega) (by first | omega | (dsimp only [rO, Pt.cells, Pt.slots]; omega)) (by first | omega | (dsimp only [rO, Pt.cells, Pt.slots]; omega)) (by rw [List.length_append, own_plen]; have := own_u8len cp; omega) (own_oB hi hcp c35_66 hbm hE) (Or.inr ⟨_, rfl⟩) X74 e74 hZ hown hS65 (nT hk65 K72.1) ch73 N72 ((Kq.trans K65 all0).trans K72 (allS (Or.inr aB) (allS (Or.inr aq) all0))) abt72 B72 sfch73_t72
        · refine ODH.at 38 (fun t k => zjN X65 (bd 19) (feq c35_66).1 k) ?_
          have hkb := own_kbm HK c35_66
          have hbm := own_bmpI hkb.1 hkb.2
          have hc1 := own_cc1 hbm
          refine ODH.at 41 (fun t k => zaN X65 (bd 29) rfl rfl (ziL X65 (bd 30) rfl k)) ?_
          have f75 := (Bq.keep K65 nin0 nin0)
          have f76 := (Bq.e1.keep K65)
          refine ODH.cV X65 (bd 31) hZ hown hml Wd273 Wd274 (nfs hZ (Wd276 hw)) Wd276 Wd275 Wd36 Wd277 pd48 (rmSCQ hw b51 cp T65.heap n0 (Oq.keep K65 all0) SS (nT Zq K65.1) tq bs f75 (by omega) gB gq hkb.1 hkb.2 hbm) rfl f76 rfl (fun v77 T77 L77 X77 hQ77 => ?_)
          obtain ⟨t77, rfl, Nq77, K77, ot77, gt77, B77⟩ := hQ77
          have N77 := Fr.app N65 Nq77
          have abt77 := own_abv ot77 aq (nT Kq.1 K65.1)
          have hsch78 := (show ∀ x ∈ [b51, tq], Safe Z own_EL _ _ x from (fun x hx => by simp only [List.mem_cons, List.not_mem_nil, or_false] at hx; rcases hx with rfl | rfl <;> first | exact (Safe.exa hZ.alike (Bq.e1.keep K65) (by decide) (by decide)) | exact sf65_tq))
          have sfch78_tq := Safe.keep K77 hsch78 ch65.1 sf65_tq
          have sfch78_t77 := Safe.keep K77 hsch78 ch65.1 (own_safeOr ot77 sf65_tq)
          have ch78 := ch65.trans (CHr.keep K77 hsch78 ch65.1)
          refine ODH.at 57 (fun t k => XS.pop X77.here hx rfl (bd 32).2 rfl rfl (zgO X77 (bd 33) 54 (ziN X77 (bd 23) rfl (ziL X77 (bd 24) rfl k)))) ?_
          refine ODH.cS X77 (bd 25) hZ hown hml Wd205 Wd206 Wd120 Wd207 pd20 (rm_charCount hw cp T77.heap) rfl rfl (fun v79 T79 L79 X79 hQ79 => ?_)
          obtain ⟨rfl, rfl, e79⟩ := hQ79
          try simp only [List.append_nil] at X79
          refine ODH.at 14 (fun t k => ziadd X79 (bd 26) (zsN X79 (bd 27) #[vR a1, vR a2, vR b51, vI (((Int32.ofNat iv) + (own_charCount cp))), vI cp] rfl (zgO X79 (bd 28) 14 k))) ?_
          rw [own_ccA]
          exact ih _ _ _ _ _ t77 _ _ _ _ _ (by omega) (by omega) (by first | omega | (dsimp only [rO, Pt.cells, Pt.slots]; omega)) (by first | omega | (dsimp only [rO, Pt.cells, Pt.slots]; omega)) (by simp only [List.length_append, List.length_cons, List.length_nil]; omega) (own_oK hi hcp c35_66 hE) (Or.inr ⟨_, rfl⟩) X79 e79 hZ hown hS65 (nT hk65 K77.1) ch78 N77 ((Kq.trans K65 all0).trans K77 (allS (Or.inr aB) (allS (Or.inr aq) all0))) abt77 B77 sfch78_t77
      · refine ODH.at 66 (fun t k => zkY X62 (bd 11) 65 (flt c19_63).2.1 (zaN X62 (bd 34) rfl rfl k)) ?_
        refine ODH.cV X62 (bd 35) hZ hown hml Wd209 Wd210 (nfs hZ (Wd212 hw)) Wd212 Wd211 Wd36 Wd213 pd49 (rmTS_ hw b51 hq n0 Oq SS Zq tq bs Bq (by omega)) e62 Bq.e1 rfl (fun v80 T80 L80 X80 hQ80 => ?_)
        obtain ⟨r80, t80, rfl, Nq80, K80, oa80, ob80, S80⟩ := hQ80
        have N80 := Fr.app Nq Nq80
        have gbt80 : n0 ≤ t80 := nT Zq ob80
        have gbr80 : n0 ≤ r80 := nT Zq oa80
        have sfch81_tq := Safe.keep K80 (fun _ hx => by cases hx) chq.1 sfq
        have ch81 := chq.trans (CHr.keep K80 (fun _ hx => by cases hx) chq.1)
        have hF := own_oE (by have := own_le c19_63; omega) hE
        exact ODH.ret X80 hx hlk hSq (nT hkq K80.1) (ch81.trans (CHv.at X80 hZ (EL_in hw) ch81.1)) (t := (.object zZ0)) Bd.returns rfl (Or.inr (Or.inr (Or.inr (Or.inr ⟨rfl, rfl, rfl⟩)))) (bd 36).2 (by first | omega | (dsimp only [rO, Pt.cells, Pt.slots]; omega)) (by first | omega | (dsimp only [rO, Pt.cells, Pt.slots]; omega)) ⟨_, _, rfl, N80, by exact (Kq.trans K80 all0), (nT Kq.1 oa80), (nT Kq.1 ob80), by rw [← hF]; exact S80⟩
  exact loop 3 0 _ _ _ _ t60 _ _ _ _ _ (by omega) (by omega) (by first | omega | (dsimp only [rO, Pt.cells, Pt.slots]; omega)) (by first | omega | (dsimp only [rO, Pt.cells, Pt.slots]; omega)) (by simp only [List.length_nil]; omega) (List.nil_append _) (Or.inl rfl) X60 rfl hZ hown hS0 (nT (nT hk0 E51.1) K60.1) ch61 N60 (((Keep.refl h0 []).ext E51).trans K60 (allS (Or.inr (nT Nat.le.refl (nE g51))) all0)) (nT (nT Nat.le.refl E51.1) ob60) B60 sfch61_t60
theorem rmHx (x0 : Int32) (h0 : Heap) :
    MF l hw ⟨zZ5, "hex", "(I)C"⟩ method_6_code 1 (some .char) (rO 0 0 0 0) #[(.int x0)] h0 (Pu (some (.int (own_hexf x0))) h0) := by
  refine MF.of (pF pn11) (ef0 · x0) dP54 ?_
  intro p e s m below meth c s₁ bd hlk hml hown hnm hrt hZ X0 e0
  refine OD.at 3 (fun t k => ziN X0 (bd 0) rfl (zcB X0 (bd 1) 10 rfl k)) ?_
  by_cases c3_51 : x0 < (10 : Int32)
  · refine OD.at 11 (fun t k => zkN X0 (bd 2) (tlt c3_51).2.1 (zcB X0 (bd 3) 48 rfl (ziN X0 (bd 4) rfl (ziadd X0 (bd 5) (zi2c X0 (bd 6) k))))) ?_
    have fin : (own_hexf x0) = ((48 : Int32) + x0).toUInt32.toUInt16.toUInt32.toInt32 := by unfold own_hexf; rw [if_pos c3_51]
    exact OD.rC X0 (bd 7) hlk hrt (own_i2c_nar _) ⟨by rw [fin], rfl, e0⟩
  · refine OD.at 20 (fun t k => zkY X0 (bd 2) 12 (flt c3_51).2.1 (zcB X0 (bd 8) 65 rfl (ziN X0 (bd 9) rfl (ziadd X0 (bd 10) (zcB X0 (bd 11) 10 rfl (zisub X0 (bd 12) (zi2c X0 (bd 13) k))))))) ?_
    have fin : (own_hexf x0) = (((65 : Int32) + x0) - (10 : Int32)).toUInt32.toUInt16.toUInt32.toInt32 := by unfold own_hexf; rw [if_neg c3_51]
    exact OD.rC X0 (bd 14) hlk hrt (own_i2c_nar _) ⟨by rw [fin], rfl, e0⟩
theorem rmKC (x0 : Int32) (x1 : Int32) (x2 : Int32) (h0 : Heap) (ks : List Int32) (hks : (x2 = (0 : Int32) ∧ ks = []) ∨ (x2 = (1 : Int32) ∧ ks = [x1])) :
    MF l hw ⟨zZ5, "keptChar", "(CCZ)Z"⟩ method_4_code 3 (some .boolean) (rO 0 0 0 0) #[(.int x0), (.int x1), (.int x2)] h0 (Pu (some (.int (own_isk ks x0))) h0) := by
  refine MF.of (pF pn11) (ef5 · x0 x1 x2) dP51 ?_
  intro p e s m below meth c s₁ bd hlk hml hown hnm hrt hZ X0 e0
  have e48_ : (48 : Int32).toInt = 48 := rfl
  have e57_ : (57 : Int32).toInt = 57 := rfl
  have e65_ : (65 : Int32).toInt = 65 := rfl
  have e90_ : (90 : Int32).toInt = 90 := rfl
  have e97_ : (97 : Int32).toInt = 97 := rfl
  have e122_ : (122 : Int32).toInt = 122 := rfl
  have K42 : ¬ (97 ≤ x0.toInt ∧ x0.toInt ≤ 122) → ¬ (65 ≤ x0.toInt ∧ x0.toInt ≤ 90) → ¬ (48 ≤ x0.toInt ∧ x0.toInt ≤ 57) → OD p e s below (Pu (some (.int (own_isk ks x0))) h0) (rO 0 0 0 0).cells (rO 0 0 0 0).slots (s₁.setTop (mkF m 42 #[vI x0, vI x1, vI x2] [])) := by
    intro hA hB hC
    refine OD.at 45 (fun t k => ziN X0 (bd 0) rfl (zcB X0 (bd 1) 45 rfl k)) ?_
    by_cases c45_51 : x0 = (45 : Int32)
    · refine OD.at 67 (fun t k => zkY X0 (bd 2) 66 (teq c45_51).1 (zcI X0 (bd 3) 1 rfl k)) ?_
      have fin : own_isk ks x0 = (1 : Int32) := own_iskP (Or.inl c45_51)
      exact OD.rZ X0 (bd 4) hlk hrt rfl ⟨by rw [fin], rfl, e0⟩
    · refine OD.at 51 (fun t k => zkN X0 (bd 2) (feq c45_51).1 (ziN X0 (bd 5) rfl (zcB X0 (bd 6) 46 rfl k))) ?_
      by_cases c51_52 : x0 = (46 : Int32)
      · refine OD.at 67 (fun t k => zkY X0 (bd 7) 66 (teq c51_52).1 (zcI X0 (bd 3) 1 rfl k)) ?_
        have fin : own_isk ks x0 = (1 : Int32) := own_iskP (Or.inr (Or.inl c51_52))
        exact OD.rZ X0 (bd 4) hlk hrt rfl ⟨by rw [fin], rfl, e0⟩
      · refine OD.at 57 (fun t k => zkN X0 (bd 7) (feq c51_52).1 (ziN X0 (bd 8) rfl (zcB X0 (bd 9) 95 rfl k))) ?_
        by_cases c57_53 : x0 = (95 : Int32)
        · refine OD.at 67 (fun t k => zkY X0 (bd 10) 66 (teq c57_53).1 (zcI X0 (bd 3) 1 rfl k)) ?_
          have fin : own_isk ks x0 = (1 : Int32) := own_iskP (Or.inr (Or.inr (Or.inl c57_53)))
          exact OD.rZ X0 (bd 4) hlk hrt rfl ⟨by rw [fin], rfl, e0⟩
        · refine OD.at 63 (fun t k => zkN X0 (bd 10) (feq c57_53).1 (ziN X0 (bd 11) rfl (zcB X0 (bd 12) 126 rfl k))) ?_
          by_cases c63_54 : x0 = (126 : Int32)
          · refine OD.at 67 (fun t k => zkN X0 (bd 13) (teq c63_54).2 (zcI X0 (bd 3) 1 rfl k)) ?_
            have fin : own_isk ks x0 = (1 : Int32) := own_iskP (Or.inr (Or.inr (Or.inr c63_54)))
            exact OD.rZ X0 (bd 4) hlk hrt rfl ⟨by rw [fin], rfl, e0⟩
          · refine OD.at 69 (fun t k => zkY X0 (bd 13) 68 (feq c63_54).2 (ziN X0 (bd 14) rfl k)) ?_
            by_cases c69_55 : x2 = (0 : Int32)
            · refine OD.at 82 (fun t k => zjY X0 (bd 15) 81 (teq c69_55).1 (zcI X0 (bd 16) 0 rfl k)) ?_
              have fin : own_isk ks x0 = (0 : Int32) := (own_iskN hA hB hC c45_51 c51_52 c57_53 c63_54).trans (own_kc0 hks c69_55)
              exact OD.rZ X0 (bd 17) hlk hrt rfl ⟨by rw [fin], rfl, e0⟩
            · refine OD.at 74 (fun t k => zjN X0 (bd 15) (feq c69_55).1 (ziN X0 (bd 18) rfl (ziN X0 (bd 19) rfl k))) ?_
              by_cases c74_56 : x0 = x1
              · refine OD.at 82 (fun t k => zkN X0 (bd 20) (teq c74_56).2 (zcI X0 (bd 21) 1 rfl (zgO X0 (bd 22) 82 k))) ?_
                have fin : own_isk ks x0 = (1 : Int32) := (own_iskN hA hB hC c45_51 c51_52 c57_53 c63_54).trans (own_kc1 hks c69_55 c74_56)
                exact OD.rZ X0 (bd 17) hlk hrt rfl ⟨by rw [fin], rfl, e0⟩
              · refine OD.at 82 (fun t k => zkY X0 (bd 20) 81 (feq c74_56).2 (zcI X0 (bd 16) 0 rfl k)) ?_
                have fin : own_isk ks x0 = (0 : Int32) := (own_iskN hA hB hC c45_51 c51_52 c57_53 c63_54).trans (own_kc2 hks c69_55 c74_56)
                exact OD.rZ X0 (bd 17) hlk hrt rfl ⟨by rw [fin], rfl, e0⟩
  have K28 : ¬ (97 ≤ x0.toInt ∧ x0.toInt ≤ 122) → ¬ (65 ≤ x0.toInt ∧ x0.toInt ≤ 90) → OD p e s below (Pu (some (.int (own_isk ks x0))) h0) (rO 0 0 0 0).cells (rO 0 0 0 0).slots (s₁.setTop (mkF m 28 #[vI x0, vI x1, vI x2] [])) := by
    intro hA hB
    refine OD.at 31 (fun t k => ziN X0 (bd 23) rfl (zcB X0 (bd 24) 48 rfl k)) ?_
    by_cases c31_57 : x0 < (48 : Int32)
    · refine OD.at 42 (fun t k => zkY X0 (bd 25) 42 (tlt c31_57).1 k) ?_
      exact K42 hA hB (by have := own_lt c31_57; omega)
    · refine OD.at 37 (fun t k => zkN X0 (bd 25) (flt c31_57).1 (ziN X0 (bd 26) rfl (zcB X0 (bd 27) 57 rfl k))) ?_
      by_cases c37_58 : (57 : Int32) < x0
      · refine OD.at 42 (fun t k => zkY X0 (bd 28) 42 (tlt c37_58).2.2.1 k) ?_
        exact K42 hA hB (by have := own_lt c37_58; omega)
      · refine OD.at 41 (fun t k => zkN X0 (bd 28) (flt c37_58).2.2.1 (zcI X0 (bd 29) 1 rfl k)) ?_
        have fin : own_isk ks x0 = (1 : Int32) := own_iskL (Or.inr (Or.inr ⟨by have := own_le c31_57; omega, by have := own_le c37_58; omega⟩))
        exact OD.rZ X0 (bd 30) hlk hrt rfl ⟨by rw [fin], rfl, e0⟩
  have K14 : ¬ (97 ≤ x0.toInt ∧ x0.toInt ≤ 122) → OD p e s below (Pu (some (.int (own_isk ks x0))) h0) (rO 0 0 0 0).cells (rO 0 0 0 0).slots (s₁.setTop (mkF m 14 #[vI x0, vI x1, vI x2] [])) := by
    intro hA
    refine OD.at 17 (fun t k => ziN X0 (bd 31) rfl (zcB X0 (bd 32) 65 rfl k)) ?_
    by_cases c17_59 : x0 < (65 : Int32)
    · refine OD.at 28 (fun t k => zkY X0 (bd 33) 28 (tlt c17_59).1 k) ?_
      exact K28 hA (by have := own_lt c17_59; omega)
    · refine OD.at 23 (fun t k => zkN X0 (bd 33) (flt c17_59).1 (ziN X0 (bd 34) rfl (zcB X0 (bd 35) 90 rfl k))) ?_
      by_cases c23_60 : (90 : Int32) < x0
      · refine OD.at 28 (fun t k => zkY X0 (bd 36) 28 (tlt c23_60).2.2.1 k) ?_
        exact K28 hA (by have := own_lt c23_60; omega)
      · refine OD.at 27 (fun t k => zkN X0 (bd 36) (flt c23_60).2.2.1 (zcI X0 (bd 37) 1 rfl k)) ?_
        have fin : own_isk ks x0 = (1 : Int32) := own_iskL (Or.inr (Or.inl ⟨by have := own_le c17_59; omega, by have := own_le c23_60; omega⟩))
        exact OD.rZ X0 (bd 38) hlk hrt rfl ⟨by rw [fin], rfl, e0⟩
  refine OD.at 3 (fun t k => ziN X0 (bd 39) rfl (zcB X0 (bd 40) 97 rfl k)) ?_
  by_cases c3_61 : x0 < (97 : Int32)
  · refine OD.at 14 (fun t k => zkY X0 (bd 41) 14 (tlt c3_61).1 k) ?_
    exact K14 (by have := own_lt c3_61; omega)
  · refine OD.at 9 (fun t k => zkN X0 (bd 41) (flt c3_61).1 (ziN X0 (bd 42) rfl (zcB X0 (bd 43) 122 rfl k))) ?_
    by_cases c9_62 : (122 : Int32) < x0
    · refine OD.at 14 (fun t k => zkY X0 (bd 44) 14 (tlt c9_62).2.2.1 k) ?_
      exact K14 (by have := own_lt c9_62; omega)
    · refine OD.at 13 (fun t k => zkN X0 (bd 44) (flt c9_62).2.2.1 (zcI X0 (bd 45) 1 rfl k)) ?_
      have fin : own_isk ks x0 = (1 : Int32) := own_iskL (Or.inl ⟨by have := own_le c3_61; omega, by have := own_le c9_62; omega⟩)
      exact OD.rZ X0 (bd 46) hlk hrt rfl ⟨by rw [fin], rfl, e0⟩
def Q_rmPct (Z : State) (va : Addr) (x2 : Int32) (h0 : Heap) (n0 : Nat) (es : List Int32) : QT := fun v h L => v = some (.int (Int32.ofNat (es ++ own_pcts [x2]).length)) ∧ Fr n0 L ∧ Keep h0 h [va] ∧ Buf Z h va (es ++ own_pcts [x2])
theorem rmPct (va : Addr) (x2 : Int32) (h0 : Heap) (n0 : Nat) (es : List Int32) (HB : Buf Z h0 va es) (gv : n0 ≤ va) (hl : es.length ≤ 15) :
    MF l hw ⟨zZ5, "pct", "([CII)I"⟩ method_7_code 3 (some .int) (rO 1 0 0 16) #[(.ref va), (.int (Int32.ofNat es.length)), (.int x2)] h0 (Q_rmPct Z va x2 h0 n0 es) := by
  refine MF.of (pF pn11) (ef10 · va (Int32.ofNat es.length) x2) dP53 ?_
  intro p e s m below meth c s₁ bd hlk hml hown hnm hrt hZ X0 e0
  have hx := (bd 0).1
  have N0 := Fr.nil n0
  obtain ⟨-, kb, G, Ab, hG⟩ := HB
  refine OD.at 4 (fun t k => zaN X0 (bd 0) rfl rfl (ziN X0 (bd 1) rfl (zcB X0 (bd 2) 37 rfl k))) ?_
  obtain ⟨cl52, Ar52, q52, S52, M52, H52, G52⟩ := id Ab
  obtain ⟨T52, h52, X52, e52, W52, st52⟩ := stC X0 hx hZ e0 Ar52 (j := (Int32.ofNat es.length)) (inb_of S52 (own_in18 (by omega))) (g := (mkF m 4 #[vR va, vI ((Int32.ofNat es.length)), vI x2] [(.int 37), (.int (Int32.ofNat es.length)), (.ref va)])) rfl rfl (bd 3).2
  rw [(own_nc (c := (37 : Int32)) (by decide) (by decide))] at W52
  have V52 : Arv Z h52 va kb .char (18 : Int32) (own_rg (18 : Int32).toNatClampNeg (fun x => .int ((own_up G (Int32.ofNat es.length) (37 : Int32)) x))) (.int 0) := own_put (fun x => .int ((own_up G (Int32.ofNat es.length) (37 : Int32)) x)) Ar52 q52 S52 M52 H52 G52 ((own_nc (c := (37 : Int32)) (by decide) (by decide)) ▸ fits_nar_char _) W52 (own_in18 (by omega)) (congrArg Value.int (own_up_at _ _ _)) (fun x q => congrArg Value.int (own_up_ne _ _ q))
  have N52 := Fr.snoc X52 N0 gv
  refine OD.go (B := (T52.setTop (mkF m 5 #[vR va, vI ((Int32.ofNat es.length)), vI x2] []))) st52 ?_
  refine OD.at 9 (fun t k => zaN X52 (bd 4) rfl rfl (ziN X52 (bd 5) rfl (zcI X52 (bd 6) 1 rfl (ziadd X52 (bd 7) k)))) ?_
  rw [own_suc]
  refine OD.at 15 (fun t k => ziN X52 (bd 8) rfl (zcI X52 (bd 9) 4 rfl (zishr X52 (bd 10) (zcB X52 (bd 11) 15 rfl (ziand X52 (bd 12) k))))) ?_
  refine OD.cS X52 (bd 13) hZ hown hml Wd257 Wd258 Wd246 Wd259 pd19 (rmHx hw ((x2 >>> ((4 : Int32) &&& 31)) &&& (15 : Int32)) h52) e52 rfl (fun v53 T53 L53 X53 hQ53 => ?_)
  obtain ⟨rfl, rfl, e53⟩ := hQ53
  try rw [List.append_nil] at X53
  rw [own_hexE]
  obtain ⟨cl55, Ar55, q55, S55, M55, H55, G55⟩ := id V52
  obtain ⟨T55, h55, X55, e55, W55, st55⟩ := stC X53 hx hZ e53 Ar55 (j := (Int32.ofNat (es.length + 1))) (inb_of S55 (own_in18 (by omega))) (g := (mkF m 18 #[vR va, vI ((Int32.ofNat es.length)), vI x2] [(.int (own_hxd ((x2 >>> ((4 : Int32) &&& 31)) &&& (15 : Int32)))), (.int (Int32.ofNat (es.length + 1))), (.ref va)])) rfl rfl (bd 14).2
  rw [(own_nc (c := (own_hxd ((x2 >>> ((4 : Int32) &&& 31)) &&& (15 : Int32)))) (own_hxB _).1 (Int.le_trans (own_hxB _).2 (by decide)))] at W55
  have V55 : Arv Z h55 va kb .char (18 : Int32) (own_rg (18 : Int32).toNatClampNeg (fun x => .int ((own_up (own_up G (Int32.ofNat es.length) (37 : Int32)) (Int32.ofNat (es.length + 1)) (own_hxd ((x2 >>> ((4 : Int32) &&& 31)) &&& (15 : Int32)))) x))) (.int 0) := own_put (fun x => .int ((own_up (own_up G (Int32.ofNat es.length) (37 : Int32)) (Int32.ofNat (es.length + 1)) (own_hxd ((x2 >>> ((4 : Int32) &&& 31)) &&& (15 : Int32)))) x)) Ar55 q55 S55 M55 H55 G55 ((own_nc (c := (own_hxd ((x2 >>> ((4 : Int32) &&& 31)) &&& (15 : Int32)))) (own_hxB _).1 (Int.le_trans (own_hxB _).2 (by decide))) ▸ fits_nar_char _) W55 (own_in18 (by omega)) (congrArg Value.int (own_up_at _ _ _)) (fun x q => congrArg Value.int (own_up_ne _ _ q))
  have N55 := Fr.snoc X55 N52 gv
  refine OD.go (B := (T55.setTop (mkF m 19 #[vR va, vI ((Int32.ofNat es.length)), vI x2] []))) st55 ?_
  refine OD.at 23 (fun t k => zaN X55 (bd 15) rfl rfl (ziN X55 (bd 16) rfl (zcI X55 (bd 17) 2 rfl (ziadd X55 (bd 18) k)))) ?_
  rw [(own_suk _).1]
  refine OD.at 27 (fun t k => ziN X55 (bd 19) rfl (zcB X55 (bd 20) 15 rfl (ziand X55 (bd 21) k))) ?_
  refine OD.cS X55 (bd 22) hZ hown hml Wd257 Wd258 Wd246 Wd259 pd19 (rmHx hw (x2 &&& (15 : Int32)) h55) e55 rfl (fun v56 T56 L56 X56 hQ56 => ?_)
  obtain ⟨rfl, rfl, e56⟩ := hQ56
  try rw [List.append_nil] at X56
  rw [own_hexE]
  obtain ⟨cl58, Ar58, q58, S58, M58, H58, G58⟩ := id V55
  obtain ⟨T58, h58, X58, e58, W58, st58⟩ := stC X56 hx hZ e56 Ar58 (j := (Int32.ofNat (es.length + 2))) (inb_of S58 (own_in18 (by omega))) (g := (mkF m 30 #[vR va, vI ((Int32.ofNat es.length)), vI x2] [(.int (own_hxd (x2 &&& (15 : Int32)))), (.int (Int32.ofNat (es.length + 2))), (.ref va)])) rfl rfl (bd 23).2
  rw [(own_nc (c := (own_hxd (x2 &&& (15 : Int32)))) (own_hxB _).1 (Int.le_trans (own_hxB _).2 (by decide)))] at W58
  have V58 : Arv Z h58 va kb .char (18 : Int32) (own_rg (18 : Int32).toNatClampNeg (fun x => .int ((own_up (own_up (own_up G (Int32.ofNat es.length) (37 : Int32)) (Int32.ofNat (es.length + 1)) (own_hxd ((x2 >>> ((4 : Int32) &&& 31)) &&& (15 : Int32)))) (Int32.ofNat (es.length + 2)) (own_hxd (x2 &&& (15 : Int32)))) x))) (.int 0) := own_put (fun x => .int ((own_up (own_up (own_up G (Int32.ofNat es.length) (37 : Int32)) (Int32.ofNat (es.length + 1)) (own_hxd ((x2 >>> ((4 : Int32) &&& 31)) &&& (15 : Int32)))) (Int32.ofNat (es.length + 2)) (own_hxd (x2 &&& (15 : Int32)))) x)) Ar58 q58 S58 M58 H58 G58 ((own_nc (c := (own_hxd (x2 &&& (15 : Int32)))) (own_hxB _).1 (Int.le_trans (own_hxB _).2 (by decide))) ▸ fits_nar_char _) W58 (own_in18 (by omega)) (congrArg Value.int (own_up_at _ _ _)) (fun x q => congrArg Value.int (own_up_ne _ _ q))
  have N58 := Fr.snoc X58 N55 gv
  refine OD.go (B := (T58.setTop (mkF m 31 #[vR va, vI ((Int32.ofNat es.length)), vI x2] []))) st58 ?_
  refine OD.at 34 (fun t k => ziN X58 (bd 24) rfl (zcI X58 (bd 25) 3 rfl (ziadd X58 (bd 26) k))) ?_
  rw [(own_suk _).2]
  exact OD.rI X58 (bd 27) hlk hrt rfl ⟨by rw [List.length_append]; rfl, N58, by rw [e58]; exact ((((Keep.refl h0 [va]).wr W52 (Or.inl (mG 0 rfl))).wr W55 (Or.inl (mG 0 rfl))).wr W58 (Or.inl (mG 0 rfl))), by simp only [List.length_append, own_plen, List.length_cons, List.length_nil]; omega, _, _, by rw [e58]; exact V58, own_f3 (by omega) hG⟩
def Q_rmEcp (Z : State) (va : Addr) (x2 : Int32) (h0 : Heap) (n0 : Nat) (es : List Int32) : QT := fun v h L => v = some (.int (Int32.ofNat (es ++ own_pcts (own_ecp x2)).length)) ∧ Fr n0 L ∧ Keep h0 h [va] ∧ Buf Z h va (es ++ own_pcts (own_ecp x2))
theorem rmEcp (va : Addr) (x2 : Int32) (h0 : Heap) (n0 : Nat) (es : List Int32) (HB : Buf Z h0 va es) (gv : n0 ≤ va) (hl : es.length ≤ 9) (hl6 : 65536 ≤ x2.toInt → es.length ≤ 6) :
    MF l hw ⟨zZ5, "encCp", "([CII)I"⟩ method_8_code 4 (some .int) (rO 2 0 0 34) #[(.ref va), (.int (Int32.ofNat es.length)), (.int x2)] h0 (Q_rmEcp Z va x2 h0 n0 es) := by
  refine MF.of (pF pn11) (ef34 · va (Int32.ofNat es.length) x2) dP52 ?_
  intro p e s m below meth c s₁ bd hlk hml hown hnm hrt hZ X0 e0
  have hx := (bd 0).1
  have N0 := Fr.nil n0
  refine OD.at 6 (fun t k => ziN X0 (bd 0) rfl (zsN X0 (bd 1) #[vR va, vI ((Int32.ofNat es.length)), vI x2, vI ((Int32.ofNat es.length))] rfl (ziN X0 (bd 2) rfl (zcS X0 (bd 3) 128 rfl k)))) ?_
  by_cases c6_51 : x2 < (128 : Int32)
  · refine OD.at 12 (fun t k => zkN X0 (bd 4) (tlt c6_51).2.1 (zaN X0 (bd 5) rfl rfl (ziN X0 (bd 6) rfl (ziN X0 (bd 7) rfl k)))) ?_
    refine OD.cS X0 (bd 8) hZ hown hml Wd254 Wd255 Wd246 Wd256 pd50 (rmPct hw va x2 h0 n0 es HB gv (by omega)) e0 rfl (fun v52 T52 L52 X52 hQ52 => ?_)
    obtain ⟨rfl, Nq52, K52, B52⟩ := hQ52
    have N52 := Fr.app N0 Nq52
    refine OD.at 197 (fun t k => zsN X52 (bd 9) #[vR va, vI ((Int32.ofNat es.length)), vI x2, vI ((Int32.ofNat (es ++ own_pcts [x2]).length))] rfl (zgO X52 (bd 10) 196 (ziN X52 (bd 11) rfl k))) ?_
    have fin : (es ++ own_pcts [x2]) = es ++ own_pcts (own_ecp x2) := by unfold own_ecp; rw [if_pos c6_51] <;> simp [own_pcts]
    exact OD.rI X52 (bd 12) hlk hrt rfl ⟨by rw [fin], N52, by exact ((Keep.refl h0 [va]).trans K52 (allS (Or.inl (mG 0 rfl)) all0)), by rw [← fin]; exact B52⟩
  · refine OD.at 23 (fun t k => zkY X0 (bd 4) 19 (flt c6_51).2.1 (ziN X0 (bd 13) rfl (zcS X0 (bd 14) 2048 rfl k))) ?_
    by_cases c23_53 : x2 < (2048 : Int32)
    · refine OD.at 36 (fun t k => zkN X0 (bd 15) (tlt c23_53).2.1 (zaN X0 (bd 16) rfl rfl (ziN X0 (bd 17) rfl (zcS X0 (bd 18) 192 rfl (ziN X0 (bd 19) rfl (zcB X0 (bd 20) 6 rfl (zishr X0 (bd 21) (zior X0 (bd 22) k)))))))) ?_
      refine OD.cS X0 (bd 23) hZ hown hml Wd254 Wd255 Wd246 Wd256 pd50 (rmPct hw va ((192 : Int32) ||| (x2 >>> ((6 : Int32) &&& 31))) h0 n0 es HB gv (by omega)) e0 rfl (fun v54 T54 L54 X54 hQ54 => ?_)
      obtain ⟨rfl, Nq54, K54, B54⟩ := hQ54
      have N54 := Fr.app N0 Nq54
      refine OD.at 50 (fun t k => zsN X54 (bd 24) #[vR va, vI ((Int32.ofNat es.length)), vI x2, vI ((Int32.ofNat (es ++ own_pcts [((192 : Int32) ||| (x2 >>> ((6 : Int32) &&& 31)))]).length))] rfl (zaN X54 (bd 25) rfl rfl (ziN X54 (bd 26) rfl (zcS X54 (bd 27) 128 rfl (ziN X54 (bd 28) rfl (zcB X54 (bd 29) 63 rfl (ziand X54 (bd 30) (zior X54 (bd 31) k)))))))) ?_
      refine OD.cS X54 (bd 32) hZ hown hml Wd254 Wd255 Wd246 Wd256 pd50 (rmPct hw va ((128 : Int32) ||| (x2 &&& (63 : Int32))) T54.heap n0 (es ++ own_pcts [((192 : Int32) ||| (x2 >>> ((6 : Int32) &&& 31)))]) B54 gv (by simp only [List.length_append, own_plen, List.length_cons, List.length_nil]; omega)) rfl rfl (fun v55 T55 L55 X55 hQ55 => ?_)
      obtain ⟨rfl, Nq55, K55, B55⟩ := hQ55
      have N55 := Fr.app N54 Nq55
      refine OD.at 197 (fun t k => zsN X55 (bd 33) #[vR va, vI ((Int32.ofNat es.length)), vI x2, vI ((Int32.ofNat ((es ++ own_pcts [((192 : Int32) ||| (x2 >>> ((6 : Int32) &&& 31)))]) ++ own_pcts [((128 : Int32) ||| (x2 &&& (63 : Int32)))]).length))] rfl (zgO X55 (bd 34) 196 (ziN X55 (bd 11) rfl k))) ?_
      have fin : ((es ++ own_pcts [((192 : Int32) ||| (x2 >>> ((6 : Int32) &&& 31)))]) ++ own_pcts [((128 : Int32) ||| (x2 &&& (63 : Int32)))]) = es ++ own_pcts (own_ecp x2) := by unfold own_ecp; rw [if_neg c6_51, if_pos c23_53] <;> simp [own_pcts]
      exact OD.rI X55 (bd 12) hlk hrt rfl ⟨by rw [fin], N55, by exact (((Keep.refl h0 [va]).trans K54 (allS (Or.inl (mG 0 rfl)) all0)).trans K55 (allS (Or.inl (mG 0 rfl)) all0)), by rw [← fin]; exact B55⟩
    · refine OD.go (B := (s₁.setTop (mkF m 60 #[vR va, vI ((Int32.ofNat es.length)), vI x2, vI ((Int32.ofNat es.length))] [(.int 55296), (.int x2)]))) (fun t k => zkY X0 (bd 15) 57 (flt c23_53).2.1 (ziN X0 (bd 35) rfl (X0.ldcInt hx hown (mv hZ (Wd288 hw)) (g := (mkF m 58 #[vR va, vI ((Int32.ofNat es.length)), vI x2, vI ((Int32.ofNat es.length))] [(.int x2)])) rfl (bd 36).2 _ k))) ?_
      by_cases c60_56 : x2 < (55296 : Int32)
      · refine OD.go (B := (s₁.setTop (mkF m 83 #[vR va, vI ((Int32.ofNat es.length)), vI x2, vI ((Int32.ofNat es.length))] [(.int 65536), (.int x2)]))) (fun t k => zkY X0 (bd 37) 80 (tlt c60_56).1 (ziN X0 (bd 38) rfl (X0.ldcInt hx hown (mv hZ (Wd358 hw)) (g := (mkF m 81 #[vR va, vI ((Int32.ofNat es.length)), vI x2, vI ((Int32.ofNat es.length))] [(.int x2)])) rfl (bd 39).2 _ k))) ?_
        by_cases c83_57 : x2 < (65536 : Int32)
        · refine OD.at 96 (fun t k => zkN X0 (bd 40) (tlt c83_57).2.1 (zaN X0 (bd 41) rfl rfl (ziN X0 (bd 42) rfl (zcS X0 (bd 43) 224 rfl (ziN X0 (bd 44) rfl (zcB X0 (bd 45) 12 rfl (zishr X0 (bd 46) (zior X0 (bd 47) k)))))))) ?_
          refine OD.cS X0 (bd 48) hZ hown hml Wd254 Wd255 Wd246 Wd256 pd50 (rmPct hw va ((224 : Int32) ||| (x2 >>> ((12 : Int32) &&& 31))) h0 n0 es HB gv (by omega)) e0 rfl (fun v58 T58 L58 X58 hQ58 => ?_)
          obtain ⟨rfl, Nq58, K58, B58⟩ := hQ58
          have N58 := Fr.app N0 Nq58
          refine OD.at 113 (fun t k => zsN X58 (bd 49) #[vR va, vI ((Int32.ofNat es.length)), vI x2, vI ((Int32.ofNat (es ++ own_pcts [((224 : Int32) ||| (x2 >>> ((12 : Int32) &&& 31)))]).length))] rfl (zaN X58 (bd 50) rfl rfl (ziN X58 (bd 51) rfl (zcS X58 (bd 52) 128 rfl (ziN X58 (bd 53) rfl (zcB X58 (bd 54) 6 rfl (zishr X58 (bd 55) (zcB X58 (bd 56) 63 rfl (ziand X58 (bd 57) (zior X58 (bd 58) k)))))))))) ?_
          refine OD.cS X58 (bd 59) hZ hown hml Wd254 Wd255 Wd246 Wd256 pd50 (rmPct hw va ((128 : Int32) ||| ((x2 >>> ((6 : Int32) &&& 31)) &&& (63 : Int32))) T58.heap n0 (es ++ own_pcts [((224 : Int32) ||| (x2 >>> ((12 : Int32) &&& 31)))]) B58 gv (by simp only [List.length_append, own_plen, List.length_cons, List.length_nil]; omega)) rfl rfl (fun v59 T59 L59 X59 hQ59 => ?_)
          obtain ⟨rfl, Nq59, K59, B59⟩ := hQ59
          have N59 := Fr.app N58 Nq59
          refine OD.at 127 (fun t k => zsN X59 (bd 60) #[vR va, vI ((Int32.ofNat es.length)), vI x2, vI ((Int32.ofNat ((es ++ own_pcts [((224 : Int32) ||| (x2 >>> ((12 : Int32) &&& 31)))]) ++ own_pcts [((128 : Int32) ||| ((x2 >>> ((6 : Int32) &&& 31)) &&& (63 : Int32)))]).length))] rfl (zaN X59 (bd 61) rfl rfl (ziN X59 (bd 62) rfl (zcS X59 (bd 63) 128 rfl (ziN X59 (bd 64) rfl (zcB X59 (bd 65) 63 rfl (ziand X59 (bd 66) (zior X59 (bd 67) k)))))))) ?_
          refine OD.cS X59 (bd 68) hZ hown hml Wd254 Wd255 Wd246 Wd256 pd50 (rmPct hw va ((128 : Int32) ||| (x2 &&& (63 : Int32))) T59.heap n0 ((es ++ own_pcts [((224 : Int32) ||| (x2 >>> ((12 : Int32) &&& 31)))]) ++ own_pcts [((128 : Int32) ||| ((x2 >>> ((6 : Int32) &&& 31)) &&& (63 : Int32)))]) B59 gv (by simp only [List.length_append, own_plen, List.length_cons, List.length_nil]; omega)) rfl rfl (fun v60 T60 L60 X60 hQ60 => ?_)
          obtain ⟨rfl, Nq60, K60, B60⟩ := hQ60
          have N60 := Fr.app N59 Nq60
          refine OD.at 197 (fun t k => zsN X60 (bd 69) #[vR va, vI ((Int32.ofNat es.length)), vI x2, vI ((Int32.ofNat (((es ++ own_pcts [((224 : Int32) ||| (x2 >>> ((12 : Int32) &&& 31)))]) ++ own_pcts [((128 : Int32) ||| ((x2 >>> ((6 : Int32) &&& 31)) &&& (63 : Int32)))]) ++ own_pcts [((128 : Int32) ||| (x2 &&& (63 : Int32)))]).length))] rfl (zgO X60 (bd 70) 196 (ziN X60 (bd 11) rfl k))) ?_
          have fin : (((es ++ own_pcts [((224 : Int32) ||| (x2 >>> ((12 : Int32) &&& 31)))]) ++ own_pcts [((128 : Int32) ||| ((x2 >>> ((6 : Int32) &&& 31)) &&& (63 : Int32)))]) ++ own_pcts [((128 : Int32) ||| (x2 &&& (63 : Int32)))]) = es ++ own_pcts (own_ecp x2) := by unfold own_ecp; rw [if_neg c6_51, if_neg c23_53, if_pos c60_56, if_pos c83_57] <;> simp [own_pcts]
          exact OD.rI X60 (bd 12) hlk hrt rfl ⟨by rw [fin], N60, by exact ((((Keep.refl h0 [va]).trans K58 (allS (Or.inl (mG 0 rfl)) all0)).trans K59 (allS (Or.inl (mG 0 rfl)) all0)).trans K60 (allS (Or.inl (mG 0 rfl)) all0)), by rw [← fin]; exact B60⟩
        · refine OD.at 134 (fun t k => zkY X0 (bd 40) 134 (flt c83_57).2.1 k) ?_
          have h6 := hl6 (own_le c83_57)
          refine OD.at 144 (fun t k => zaN X0 (bd 71) rfl rfl (ziN X0 (bd 72) rfl (zcS X0 (bd 73) 240 rfl (ziN X0 (bd 74) rfl (zcB X0 (bd 75) 18 rfl (zishr X0 (bd 76) (zior X0 (bd 77) k))))))) ?_
          refine OD.cS X0 (bd 78) hZ hown hml Wd254 Wd255 Wd246 Wd256 pd50 (rmPct hw va ((240 : Int32) ||| (x2 >>> ((18 : Int32) &&& 31))) h0 n0 es HB gv (by omega)) e0 rfl (fun v61 T61 L61 X61 hQ61 => ?_)
          obtain ⟨rfl, Nq61, K61, B61⟩ := hQ61
          have N61 := Fr.app N0 Nq61
          refine OD.at 161 (fun t k => zsN X61 (bd 79) #[vR va, vI ((Int32.ofNat es.length)), vI x2, vI ((Int32.ofNat (es ++ own_pcts [((240 : Int32) ||| (x2 >>> ((18 : Int32) &&& 31)))]).length))] rfl (zaN X61 (bd 80) rfl rfl (ziN X61 (bd 81) rfl (zcS X61 (bd 82) 128 rfl (ziN X61 (bd 83) rfl (zcB X61 (bd 84) 12 rfl (zishr X61 (bd 85) (zcB X61 (bd 86) 63 rfl (ziand X61 (bd 87) (zior X61 (bd 88) k)))))))))) ?_
          refine OD.cS X61 (bd 89) hZ hown hml Wd254 Wd255 Wd246 Wd256 pd50 (rmPct hw va ((128 : Int32) ||| ((x2 >>> ((12 : Int32) &&& 31)) &&& (63 : Int32))) T61.heap n0 (es ++ own_pcts [((240 : Int32) ||| (x2 >>> ((18 : Int32) &&& 31)))]) B61 gv (by simp only [List.length_append, own_plen, List.length_cons, List.length_nil]; omega)) rfl rfl (fun v62 T62 L62 X62 hQ62 => ?_)
          obtain ⟨rfl, Nq62, K62, B62⟩ := hQ62
          have N62 := Fr.app N61 Nq62
          refine OD.at 178 (fun t k => zsN X62 (bd 90) #[vR va, vI ((Int32.ofNat es.length)), vI x2, vI ((Int32.ofNat ((es ++ own_pcts [((240 : Int32) ||| (x2 >>> ((18 : Int32) &&& 31)))]) ++ own_pcts [((128 : Int32) ||| ((x2 >>> ((12 : Int32) &&& 31)) &&& (63 : Int32)))]).length))] rfl (zaN X62 (bd 91) rfl rfl (ziN X62 (bd 92) rfl (zcS X62 (bd 93) 128 rfl (ziN X62 (bd 94) rfl (zcB X62 (bd 95) 6 rfl (zishr X62 (bd 96) (zcB X62 (bd 97) 63 rfl (ziand X62 (bd 98) (zior X62 (bd 99) k)))))))))) ?_
          refine OD.cS X62 (bd 100) hZ hown hml Wd254 Wd255 Wd246 Wd256 pd50 (rmPct hw va ((128 : Int32) ||| ((x2 >>> ((6 : Int32) &&& 31)) &&& (63 : Int32))) T62.heap n0 ((es ++ own_pcts [((240 : Int32) ||| (x2 >>> ((18 : Int32) &&& 31)))]) ++ own_pcts [((128 : Int32) ||| ((x2 >>> ((12 : Int32) &&& 31)) &&& (63 : Int32)))]) B62 gv (by simp only [List.length_append, own_plen, List.length_cons, List.length_nil]; omega)) rfl rfl (fun v63 T63 L63 X63 hQ63 => ?_)
          obtain ⟨rfl, Nq63, K63, B63⟩ := hQ63
          have N63 := Fr.app N62 Nq63
          refine OD.at 192 (fun t k => zsN X63 (bd 101) #[vR va, vI ((Int32.ofNat es.length)), vI x2, vI ((Int32.ofNat (((es ++ own_pcts [((240 : Int32) ||| (x2 >>> ((18 : Int32) &&& 31)))]) ++ own_pcts [((128 : Int32) ||| ((x2 >>> ((12 : Int32) &&& 31)) &&& (63 : Int32)))]) ++ own_pcts [((128 : Int32) ||| ((x2 >>> ((6 : Int32) &&& 31)) &&& (63 : Int32)))]).length))] rfl (zaN X63 (bd 102) rfl rfl (ziN X63 (bd 103) rfl (zcS X63 (bd 104) 128 rfl (ziN X63 (bd 105) rfl (zcB X63 (bd 106) 63 rfl (ziand X63 (bd 107) (zior X63 (bd 108) k)))))))) ?_
          refine OD.cS X63 (bd 109) hZ hown hml Wd254 Wd255 Wd246 Wd256 pd50 (rmPct hw va ((128 : Int32) ||| (x2 &&& (63 : Int32))) T63.heap n0 (((es ++ own_pcts [((240 : Int32) ||| (x2 >>> ((18 : Int32) &&& 31)))]) ++ own_pcts [((128 : Int32) ||| ((x2 >>> ((12 : Int32) &&& 31)) &&& (63 : Int32)))]) ++ own_pcts [((128 : Int32) ||| ((x2 >>> ((6 : Int32) &&& 31)) &&& (63 : Int32)))]) B63 gv (by simp only [List.length_append, own_plen, List.length_cons, List.length_nil]; omega)) rfl rfl (fun v64 T64 L64 X64 hQ64 => ?_)
          obtain ⟨rfl, Nq64, K64, B64⟩ := hQ64
          have N64 := Fr.app N63 Nq64
          refine OD.at 197 (fun t k => zsN X64 (bd 110) #[vR va, vI ((Int32.ofNat es.length)), vI x2, vI ((Int32.ofNat ((((es ++ own_pcts [((240 : Int32) ||| (x2 >>> ((18 : Int32) &&& 31)))]) ++ own_pcts [((128 : Int32) ||| ((x2 >>> ((12 : Int32) &&& 31)) &&& (63 : Int32)))]) ++ own_pcts [((128 : Int32) ||| ((x2 >>> ((6 : Int32) &&& 31)) &&& (63 : Int32)))]) ++ own_pcts [((128 : Int32) ||| (x2 &&& (63 : Int32)))]).length))] rfl (ziN X64 (bd 11) rfl k)) ?_
          have fin : ((((es ++ own_pcts [((240 : Int32) ||| (x2 >>> ((18 : Int32) &&& 31)))]) ++ own_pcts [((128 : Int32) ||| ((x2 >>> ((12 : Int32) &&& 31)) &&& (63 : Int32)))]) ++ own_pcts [((128 : Int32) ||| ((x2 >>> ((6 : Int32) &&& 31)) &&& (63 : Int32)))]) ++ own_pcts [((128 : Int32) ||| (x2 &&& (63 : Int32)))]) = es ++ own_pcts (own_ecp x2) := by unfold own_ecp; rw [if_neg c6_51, if_neg c23_53, if_pos c60_56, if_neg c83_57] <;> simp [own_pcts]
          exact OD.rI X64 (bd 12) hlk hrt rfl ⟨by rw [fin], N64, by exact (((((Keep.refl h0 [va]).trans K61 (allS (Or.inl (mG 0 rfl)) all0)).trans K62 (allS (Or.inl (mG 0 rfl)) all0)).trans K63 (allS (Or.inl (mG 0 rfl)) all0)).trans K64 (allS (Or.inl (mG 0 rfl)) all0)), by rw [← fin]; exact B64⟩
      · refine OD.go (B := (s₁.setTop (mkF m 66 #[vR va, vI ((Int32.ofNat es.length)), vI x2, vI ((Int32.ofNat es.length))] [(.int 57343), (.int x2)]))) (fun t k => zkN X0 (bd 37) (flt c60_56).1 (ziN X0 (bd 111) rfl (X0.ldcInt hx hown (mv hZ (Wd357 hw)) (g := (mkF m 64 #[vR va, vI ((Int32.ofNat es.length)), vI x2, vI ((Int32.ofNat es.length))] [(.int x2)])) rfl (bd 112).2 _ k))) ?_
        by_cases c66_65 : (57343 : Int32) < x2
        · refine OD.go (B := (s₁.setTop (mkF m 83 #[vR va, vI ((Int32.ofNat es.length)), vI x2, vI ((Int32.ofNat es.length))] [(.int 65536), (.int x2)]))) (fun t k => zkY X0 (bd 113) 80 (tlt c66_65).2.2.1 (ziN X0 (bd 38) rfl (X0.ldcInt hx hown (mv hZ (Wd358 hw)) (g := (mkF m 81 #[vR va, vI ((Int32.ofNat es.length)), vI x2, vI ((Int32.ofNat es.length))] [(.int x2)])) rfl (bd 39).2 _ k))) ?_
          by_cases c83_66 : x2 < (65536 : Int32)
          · refine OD.at 96 (fun t k => zkN X0 (bd 40) (tlt c83_66).2.1 (zaN X0 (bd 41) rfl rfl (ziN X0 (bd 42) rfl (zcS X0 (bd 43) 224 rfl (ziN X0 (bd 44) rfl (zcB X0 (bd 45) 12 rfl (zishr X0 (bd 46) (zior X0 (bd 47) k)))))))) ?_
            refine OD.cS X0 (bd 48) hZ hown hml Wd254 Wd255 Wd246 Wd256 pd50 (rmPct hw va ((224 : Int32) ||| (x2 >>> ((12 : Int32) &&& 31))) h0 n0 es HB gv (by omega)) e0 rfl (fun v67 T67 L67 X67 hQ67 => ?_)
            obtain ⟨rfl, Nq67, K67, B67⟩ := hQ67
            have N67 := Fr.app N0 Nq67
            refine OD.at 113 (fun t k => zsN X67 (bd 49) #[vR va, vI ((Int32.ofNat es.length)), vI x2, vI ((Int32.ofNat (es ++ own_pcts [((224 : Int32) ||| (x2 >>> ((12 : Int32) &&& 31)))]).length))] rfl (zaN X67 (bd 50) rfl rfl (ziN X67 (bd 51) rfl (zcS X67 (bd 52) 128 rfl (ziN X67 (bd 53) rfl (zcB X67 (bd 54) 6 rfl (zishr X67 (bd 55) (zcB X67 (bd 56) 63 rfl (ziand X67 (bd 57) (zior X67 (bd 58) k)))))))))) ?_
            refine OD.cS X67 (bd 59) hZ hown hml Wd254 Wd255 Wd246 Wd256 pd50 (rmPct hw va ((128 : Int32) ||| ((x2 >>> ((6 : Int32) &&& 31)) &&& (63 : Int32))) T67.heap n0 (es ++ own_pcts [((224 : Int32) ||| (x2 >>> ((12 : Int32) &&& 31)))]) B67 gv (by simp only [List.length_append, own_plen, List.length_cons, List.length_nil]; omega)) rfl rfl (fun v68 T68 L68 X68 hQ68 => ?_)
            obtain ⟨rfl, Nq68, K68, B68⟩ := hQ68
            have N68 := Fr.app N67 Nq68
            refine OD.at 127 (fun t k => zsN X68 (bd 60) #[vR va, vI ((Int32.ofNat es.length)), vI x2, vI ((Int32.ofNat ((es ++ own_pcts [((224 : Int32) ||| (x2 >>> ((12 : Int32) &&& 31)))]) ++ own_pcts [((128 : Int32) ||| ((x2 >>> ((6 : Int32) &&& 31)) &&& (63 : Int32)))]).length))] rfl (zaN X68 (bd 61) rfl rfl (ziN X68 (bd 62) rfl (zcS X68 (bd 63) 128 rfl (ziN X68 (bd 64) rfl (zcB X68 (bd 65) 63 rfl (ziand X68 (bd 66) (zior X68 (bd 67) k)))))))) ?_
            refine OD.cS X68 (bd 68) hZ hown hml Wd254 Wd255 Wd246 Wd256 pd50 (rmPct hw va ((128 : Int32) ||| (x2 &&& (63 : Int32))) T68.heap n0 ((es ++ own_pcts [((224 : Int32) ||| (x2 >>> ((12 : Int32) &&& 31)))]) ++ own_pcts [((128 : Int32) ||| ((x2 >>> ((6 : Int32) &&& 31)) &&& (63 : Int32)))]) B68 gv (by simp only [List.length_append, own_plen, List.length_cons, List.length_nil]; omega)) rfl rfl (fun v69 T69 L69 X69 hQ69 => ?_)
            obtain ⟨rfl, Nq69, K69, B69⟩ := hQ69
            have N69 := Fr.app N68 Nq69
            refine OD.at 197 (fun t k => zsN X69 (bd 69) #[vR va, vI ((Int32.ofNat es.length)), vI x2, vI ((Int32.ofNat (((es ++ own_pcts [((224 : Int32) ||| (x2 >>> ((12 : Int32) &&& 31)))]) ++ own_pcts [((128 : Int32) ||| ((x2 >>> ((6 : Int32) &&& 31)) &&& (63 : Int32)))]) ++ own_pcts [((128 : Int32) ||| (x2 &&& (63 : Int32)))]).length))] rfl (zgO X69 (bd 70) 196 (ziN X69 (bd 11) rfl k))) ?_
            have fin : (((es ++ own_pcts [((224 : Int32) ||| (x2 >>> ((12 : Int32) &&& 31)))]) ++ own_pcts [((128 : Int32) ||| ((x2 >>> ((6 : Int32) &&& 31)) &&& (63 : Int32)))]) ++ own_pcts [((128 : Int32) ||| (x2 &&& (63 : Int32)))]) = es ++ own_pcts (own_ecp x2) := by unfold own_ecp; rw [if_neg c6_51, if_neg c23_53, if_neg c60_56, if_pos c66_65, if_pos c83_66] <;> simp [own_pcts]
            exact OD.rI X69 (bd 12) hlk hrt rfl ⟨by rw [fin], N69, by exact ((((Keep.refl h0 [va]).trans K67 (allS (Or.inl (mG 0 rfl)) all0)).trans K68 (allS (Or.inl (mG 0 rfl)) all0)).trans K69 (allS (Or.inl (mG 0 rfl)) all0)), by rw [← fin]; exact B69⟩
          · refine OD.at 134 (fun t k => zkY X0 (bd 40) 134 (flt c83_66).2.1 k) ?_
            have h6 := hl6 (own_le c83_66)
            refine OD.at 144 (fun t k => zaN X0 (bd 71) rfl rfl (ziN X0 (bd 72) rfl (zcS X0 (bd 73) 240 rfl (ziN X0 (bd 74) rfl (zcB X0 (bd 75) 18 rfl (zishr X0 (bd 76) (zior X0 (bd 77) k))))))) ?_
            refine OD.cS X0 (bd 78) hZ hown hml Wd254 Wd255 Wd246 Wd256 pd50 (rmPct hw va ((240 : Int32) ||| (x2 >>> ((18 : Int32) &&& 31))) h0 n0 es HB gv (by omega)) e0 rfl (fun v70 T70 L70 X70 hQ70 => ?_)
            obtain ⟨rfl, Nq70, K70, B70⟩ := hQ70
            have N70 := Fr.app N0 Nq70
            refine OD.at 161 (fun t k => zsN X70 (bd 79) #[vR va, vI ((Int32.ofNat es.length)), vI x2, vI ((Int32.ofNat (es ++ own_pcts [((240 : Int32) ||| (x2 >>> ((18 : Int32) &&& 31)))]).length))] rfl (zaN X70 (bd 80) rfl rfl (ziN X70 (bd 81) rfl (zcS X70 (bd 82) 128 rfl (ziN X70 (bd 83) rfl (zcB X70 (bd 84) 12 rfl (zishr X70 (bd 85) (zcB X70 (bd 86) 63 rfl (ziand X70 (bd 87) (zior X70 (bd 88) k)))))))))) ?_
            refine OD.cS X70 (bd 89) hZ hown hml Wd254 Wd255 Wd246 Wd256 pd50 (rmPct hw va ((128 : Int32) ||| ((x2 >>> ((12 : Int32) &&& 31)) &&& (63 : Int32))) T70.heap n0 (es ++ own_pcts [((240 : Int32) ||| (x2 >>> ((18 : Int32) &&& 31)))]) B70 gv (by simp only [List.length_append, own_plen, List.length_cons, List.length_nil]; omega)) rfl rfl (fun v71 T71 L71 X71 hQ71 => ?_)
            obtain ⟨rfl, Nq71, K71, B71⟩ := hQ71
            have N71 := Fr.app N70 Nq71
            refine OD.at 178 (fun t k => zsN X71 (bd 90) #[vR va, vI ((Int32.ofNat es.length)), vI x2, vI ((Int32.ofNat ((es ++ own_pcts [((240 : Int32) ||| (x2 >>> ((18 : Int32) &&& 31)))]) ++ own_pcts [((128 : Int32) ||| ((x2 >>> ((12 : Int32) &&& 31)) &&& (63 : Int32)))]).length))] rfl (zaN X71 (bd 91) rfl rfl (ziN X71 (bd 92) rfl (zcS X71 (bd 93) 128 rfl (ziN X71 (bd 94) rfl (zcB X71 (bd 95) 6 rfl (zishr X71 (bd 96) (zcB X71 (bd 97) 63 rfl (ziand X71 (bd 98) (zior X71 (bd 99) k)))))))))) ?_
            refine OD.cS X71 (bd 100) hZ hown hml Wd254 Wd255 Wd246 Wd256 pd50 (rmPct hw va ((128 : Int32) ||| ((x2 >>> ((6 : Int32) &&& 31)) &&& (63 : Int32))) T71.heap n0 ((es ++ own_pcts [((240 : Int32) ||| (x2 >>> ((18 : Int32) &&& 31)))]) ++ own_pcts [((128 : Int32) ||| ((x2 >>> ((12 : Int32) &&& 31)) &&& (63 : Int32)))]) B71 gv (by simp only [List.length_append, own_plen, List.length_cons, List.length_nil]; omega)) rfl rfl (fun v72 T72 L72 X72 hQ72 => ?_)
            obtain ⟨rfl, Nq72, K72, B72⟩ := hQ72
            have N72 := Fr.app N71 Nq72
            refine OD.at 192 (fun t k => zsN X72 (bd 101) #[vR va, vI ((Int32.ofNat es.length)), vI x2, vI ((Int32.ofNat (((es ++ own_pcts [((240 : Int32) ||| (x2 >>> ((18 : Int32) &&& 31)))]) ++ own_pcts [((128 : Int32) ||| ((x2 >>> ((12 : Int32) &&& 31)) &&& (63 : Int32)))]) ++ own_pcts [((128 : Int32) ||| ((x2 >>> ((6 : Int32) &&& 31)) &&& (63 : Int32)))]).length))] rfl (zaN X72 (bd 102) rfl rfl (ziN X72 (bd 103) rfl (zcS X72 (bd 104) 128 rfl (ziN X72 (bd 105) rfl (zcB X72 (bd 106) 63 rfl (ziand X72 (bd 107) (zior X72 (bd 108) k)))))))) ?_
            refine OD.cS X72 (bd 109) hZ hown hml Wd254 Wd255 Wd246 Wd256 pd50 (rmPct hw va ((128 : Int32) ||| (x2 &&& (63 : Int32))) T72.heap n0 (((es ++ own_pcts [((240 : Int32) ||| (x2 >>> ((18 : Int32) &&& 31)))]) ++ own_pcts [((128 : Int32) ||| ((x2 >>> ((12 : Int32) &&& 31)) &&& (63 : Int32)))]) ++ own_pcts [((128 : Int32) ||| ((x2 >>> ((6 : Int32) &&& 31)) &&& (63 : Int32)))]) B72 gv (by simp only [List.length_append, own_plen, List.length_cons, List.length_nil]; omega)) rfl rfl (fun v73 T73 L73 X73 hQ73 => ?_)
            obtain ⟨rfl, Nq73, K73, B73⟩ := hQ73
            have N73 := Fr.app N72 Nq73
            refine OD.at 197 (fun t k => zsN X73 (bd 110) #[vR va, vI ((Int32.ofNat es.length)), vI x2, vI ((Int32.ofNat ((((es ++ own_pcts [((240 : Int32) ||| (x2 >>> ((18 : Int32) &&& 31)))]) ++ own_pcts [((128 : Int32) ||| ((x2 >>> ((12 : Int32) &&& 31)) &&& (63 : Int32)))]) ++ own_pcts [((128 : Int32) ||| ((x2 >>> ((6 : Int32) &&& 31)) &&& (63 : Int32)))]) ++ own_pcts [((128 : Int32) ||| (x2 &&& (63 : Int32)))]).length))] rfl (ziN X73 (bd 11) rfl k)) ?_
            have fin : ((((es ++ own_pcts [((240 : Int32) ||| (x2 >>> ((18 : Int32) &&& 31)))]) ++ own_pcts [((128 : Int32) ||| ((x2 >>> ((12 : Int32) &&& 31)) &&& (63 : Int32)))]) ++ own_pcts [((128 : Int32) ||| ((x2 >>> ((6 : Int32) &&& 31)) &&& (63 : Int32)))]) ++ own_pcts [((128 : Int32) ||| (x2 &&& (63 : Int32)))]) = es ++ own_pcts (own_ecp x2) := by unfold own_ecp; rw [if_neg c6_51, if_neg c23_53, if_neg c60_56, if_pos c66_65, if_neg c83_66] <;> simp [own_pcts]
            exact OD.rI X73 (bd 12) hlk hrt rfl ⟨by rw [fin], N73, by exact (((((Keep.refl h0 [va]).trans K70 (allS (Or.inl (mG 0 rfl)) all0)).trans K71 (allS (Or.inl (mG 0 rfl)) all0)).trans K72 (allS (Or.inl (mG 0 rfl)) all0)).trans K73 (allS (Or.inl (mG 0 rfl)) all0)), by rw [← fin]; exact B73⟩
        · refine OD.at 73 (fun t k => zkN X0 (bd 113) (flt c66_65).2.2.1 (zaN X0 (bd 114) rfl rfl (ziN X0 (bd 115) rfl (zcB X0 (bd 116) 63 rfl k)))) ?_
          refine OD.cS X0 (bd 117) hZ hown hml Wd254 Wd255 Wd246 Wd256 pd50 (rmPct hw va (63 : Int32) h0 n0 es HB gv (by omega)) e0 rfl (fun v74 T74 L74 X74 hQ74 => ?_)
          obtain ⟨rfl, Nq74, K74, B74⟩ := hQ74
          have N74 := Fr.app N0 Nq74
          refine OD.at 197 (fun t k => zsN X74 (bd 118) #[vR va, vI ((Int32.ofNat es.length)), vI x2, vI ((Int32.ofNat (es ++ own_pcts [(63 : Int32)]).length))] rfl (zgO X74 (bd 119) 196 (ziN X74 (bd 11) rfl k))) ?_
          have fin : (es ++ own_pcts [(63 : Int32)]) = es ++ own_pcts (own_ecp x2) := by unfold own_ecp; rw [if_neg c6_51, if_neg c23_53, if_neg c60_56, if_neg c66_65] <;> simp [own_pcts]
          exact OD.rI X74 (bd 12) hlk hrt rfl ⟨by rw [fin], N74, by exact ((Keep.refl h0 [va]).trans K74 (allS (Or.inl (mG 0 rfl)) all0)), by rw [← fin]; exact B74⟩
def Q_rmOne (Z : State) (va : Addr) (x2 : Int32) (h0 : Heap) (n0 : Nat) (es : List Int32) (ks : List Int32) : QT := fun v h L => v = some (.int (Int32.ofNat (es ++ own_one ks x2).length)) ∧ Fr n0 L ∧ Keep h0 h [va] ∧ Buf Z h va (es ++ own_one ks x2)
theorem rmOne (va : Addr) (x2 : Int32) (x3 : Int32) (x4 : Int32) (h0 : Heap) (n0 : Nat) (es : List Int32) (HB : Buf Z h0 va es) (gv : n0 ≤ va) (hl : es.length ≤ 9) (u0 : 0 ≤ x2.toInt) (w0 : x2.toInt ≤ 65535) (ks : List Int32) (hks : (x4 = (0 : Int32) ∧ ks = []) ∨ (x4 = (1 : Int32) ∧ ks = [x3])) :
    MF l hw ⟨zZ5, "one", "([CICCZ)I"⟩ method_5_code 5 (some .int) (rO 3 0 0 53) #[(.ref va), (.int (Int32.ofNat es.length)), (.int x2), (.int x3), (.int x4)] h0 (Q_rmOne Z va x2 h0 n0 es ks) := by
  refine MF.of (pF pn11) (ef35 · va (Int32.ofNat es.length) x2 x3 x4) dP50 ?_
  intro p e s m below meth c s₁ bd hlk hml hown hnm hrt hZ X0 e0
  have hx := (bd 0).1
  have N0 := Fr.nil n0
  refine OD.at 4 (fun t k => ziN X0 (bd 0) rfl (ziN X0 (bd 1) rfl (ziL X0 (bd 2) rfl k))) ?_
  refine OD.cS X0 (bd 3) hZ hown hml Wd248 Wd249 Wd246 Wd250 pd51 (rmKC hw x2 x3 x4 h0 ks hks) e0 rfl (fun v51 T51 L51 X51 hQ51 => ?_)
  obtain ⟨rfl, rfl, e51⟩ := hQ51
  try rw [List.append_nil] at X51
  by_cases c7_52 : (own_isk ks x2) = (0 : Int32)
  · refine OD.at 21 (fun t k => zjY X51 (bd 4) 18 (teq c7_52).1 (zaN X51 (bd 5) rfl rfl (ziN X51 (bd 6) rfl (ziN X51 (bd 7) rfl k)))) ?_
    refine OD.cS X51 (bd 8) hZ hown hml Wd251 Wd252 Wd246 Wd253 pd50 (rmEcp hw va x2 h0 n0 es HB gv hl (fun q => by omega)) e51 rfl (fun v53 T53 L53 X53 hQ53 => ?_)
    obtain ⟨rfl, Nq53, K53, B53⟩ := hQ53
    have N53 := Fr.app N0 Nq53
    have fin : own_one ks x2 = own_pcts (own_ecp x2) := if_pos c7_52
    exact OD.rI X53 (bd 9) hlk hrt rfl ⟨by rw [fin], N53, by exact ((Keep.refl h0 [va]).trans K53 (allS (Or.inl (mG 0 rfl)) all0)), by rw [fin]; exact B53⟩
  · refine OD.at 10 (fun t k => zjN X51 (bd 4) (feq c7_52).1 k) ?_
    obtain ⟨-, kb, G, Ab, hG⟩ := HB
    refine OD.at 13 (fun t k => zaN X51 (bd 10) rfl rfl (ziN X51 (bd 11) rfl (ziN X51 (bd 12) rfl k))) ?_
    obtain ⟨cl55, Ar55, q55, S55, M55, H55, G55⟩ := id Ab
    obtain ⟨T55, h55, X55, e55, W55, st55⟩ := stC X51 hx hZ e51 Ar55 (j := (Int32.ofNat es.length)) (inb_of S55 (own_in18 (by omega))) (g := (mkF m 13 #[vR va, vI ((Int32.ofNat es.length)), vI x2, vI x3, vI x4] [(.int x2), (.int (Int32.ofNat es.length)), (.ref va)])) rfl rfl (bd 13).2
    rw [(own_nc u0 w0)] at W55
    have V55 : Arv Z h55 va kb .char (18 : Int32) (own_rg (18 : Int32).toNatClampNeg (fun x => .int ((own_up G (Int32.ofNat es.length) x2) x))) (.int 0) := own_put (fun x => .int ((own_up G (Int32.ofNat es.length) x2) x)) Ar55 q55 S55 M55 H55 G55 ((own_nc u0 w0) ▸ fits_nar_char _) W55 (own_in18 (by omega)) (congrArg Value.int (own_up_at _ _ _)) (fun x q => congrArg Value.int (own_up_ne _ _ q))
    have N55 := Fr.snoc X55 N0 gv
    refine OD.go (B := (T55.setTop (mkF m 14 #[vR va, vI ((Int32.ofNat es.length)), vI x2, vI x3, vI x4] []))) st55 ?_
    refine OD.at 17 (fun t k => ziN X55 (bd 14) rfl (zcI X55 (bd 15) 1 rfl (ziadd X55 (bd 16) k))) ?_
    have fin : own_one ks x2 = [x2] := if_neg c7_52
    rw [own_suc]
    exact OD.rI X55 (bd 17) hlk hrt rfl ⟨by rw [fin, List.length_append]; rfl, N55, by rw [e55]; exact ((Keep.refl h0 [va]).wr W55 (Or.inl (mG 0 rfl))), by rw [fin]; simp only [List.length_append, own_plen, List.length_cons, List.length_nil]; omega, _, _, by rw [e55]; exact V55, by rw [fin]; exact own_fupd (by omega) hG⟩
theorem rmAt (a1 : Addr) (va : Addr) (x3 : Int32) (h0 : Heap) (n0 : Nat) (X00 : Old Z n0 h0) (SS : STs Z zc fm u8 hxa kh) (t1 : Addr) (es : List Int32) (HS : Strg Z h0 a1 t1 es) (HB : Buf Z h0 va es) (h1 : 0 ≤ x3.toInt) (h2 : x3.toInt ≤ 17) :
    MF l hw ⟨zZ5, "at", zZ63⟩ method_3_code 4 (some .boolean) (rO 5 0 0 86) #[(.ref a1), (.ref va), (.int (Int32.ofNat es.length)), (.int x3)] h0 (Pu (some (.int 1)) h0) := by
  refine MF.of (pF pn11) (ef36 · a1 va (Int32.ofNat es.length) x3) dP55 ?_
  intro p e s m below meth c s₁ bd hlk hml hown hnm hrt hZ X0 e0
  have hx := (bd 0).1
  obtain ⟨he, kb, G, Ab, hG⟩ := HB
  have ee := own_on (i := es.length) (by omega)
  have ec := own_clamp h1
  refine OD.at 2 (fun t k => ziN X0 (bd 0) rfl (ziN X0 (bd 1) rfl k)) ?_
  by_cases c2_51 : x3 < (Int32.ofNat es.length)
  · refine OD.at 7 (fun t k => zkN X0 (bd 2) (tlt c2_51).2.1 (zaN X0 (bd 3) rfl rfl (ziN X0 (bd 4) rfl k))) ?_
    refine OD.cV X0 (bd 5) hZ hown hml Wd264 Wd265 (nfs hZ (Wd267 hw)) Wd267 Wd266 Wd3 Wd268 pd19 (rmCA hw a1 x3 h0 n0 X00 SS t1 es HS (by omega) h1 (by have := own_lt c2_51; omega)) e0 HS.1 rfl (fun v52 T52 L52 X52 hQ52 => ?_)
    obtain ⟨rfl, rfl, e52⟩ := hQ52
    refine OD.at 12 (fun t k => zaN X52 (bd 6) rfl rfl (ziN X52 (bd 7) rfl k)) ?_
    obtain ⟨cl53, Ar53, hi53, ha53⟩ := own_at Ab (j := x3) (v := (.int (G x3))) (own_in h1 (by have := own_lt c2_51; have : (18 : Int32).toInt = 18 := rfl; omega)) (own_rg_at (own_in h1 (by have := own_lt c2_51; have : (18 : Int32).toInt = 18 := rfl; omega)) _ _)
    refine OD.at 21 (fun t k => X52.caload hx (j := x3) (v := (.int (G x3))) (by rw [e52]; exact Ar53.1) (State.isArrayOf_alike hZ.alike Ar53.2.1) Ar53.2.2 hi53 ha53 (g := (mkF m 12 #[vR a1, vR va, vI ((Int32.ofNat es.length)), vI x3] [(.int x3), (.ref va), (.int (es.getD x3.toNatClampNeg 0))])) rfl rfl (bd 8).2 _ (zkN X52 (bd 9) (teq (by have q := hG x3.toNatClampNeg (by have := own_lt c2_51; omega); rw [own_ofc h1] at q; exact q.symm)).2 (zcI X52 (bd 10) 1 rfl (zgO X52 (bd 11) 21 k)))) ?_
    exact OD.rZ X52 (bd 12) hlk hrt rfl ⟨rfl, rfl, e52⟩
  · refine OD.at 21 (fun t k => zkY X0 (bd 2) 16 (flt c2_51).2.1 (zcI X0 (bd 10) 1 rfl (zgO X0 (bd 11) 21 k))) ?_
    exact OD.rZ X0 (bd 12) hlk hrt rfl ⟨rfl, rfl, e0⟩
def Q_rmE4 (Z : State) (a1 : Addr) (a2 : Addr) (h0 : Heap) (n0 : Nat) (v : Option Value) (h : Heap) (L : List Loc) : Prop := v = none ∧ Fr n0 L ∧ Keep h0 h [a1] ∧ Exa Z h a1 zZ0 ∧ Fld Z h a1 zZ0 "coder" "B" (.int 0) ∧ ∃ (b : Addr) (k : ClassId), b ≠ a1 ∧ Fld Z h a1 zZ0 "value" "[B" (.ref b) ∧ Arv Z h b k .byte (0 : Int32) [] (.int 0)
set_option maxRecDepth 65536 in
set_option maxHeartbeats 40000000 in
theorem rmE4 {l : Launch} {Z : State} {a0 : Array Value} (hw : HW a0 Z) (a1 : Addr) (a2 : Addr) (h0 : Heap) (n0 : Nat) (Z0 : n0 ≤ h0.size) (E1 : Exa Z h0 a1 zZ0) (F1 : Fld Z h0 a1 zZ0 "value" "[B" .null) (F2 : Fld Z h0 a1 zZ0 "coder" "B" (.int 0)) (g1 : n0 ≤ a1) :
    MetFree l ⟨zZ0, "<init>", zZ25⟩ (head1 (Jvm.Cond.code ⟨zZ0, "<init>", zZ25⟩ kQ49 6 none :: []) (rO 1 4 8 12)) (fun a U => a = #[(.ref a1), (.ref a2), (.int 0), (.int 0), .null] ∧ Z.Warmed39 U.vm ∧ U.heap = h0 ∧ CHv Z own_EL U.vm h0) (fun _ _ _ _ _ => True) (fun _ U o U' => ∃ v L, o = .returned v ∧ Q_rmE4 Z a1 a2 h0 n0 v U'.heap L ∧ CHr Z own_EL U.vm U.heap U'.vm U'.heap ∧ ReturnedEndW U o U' L (rO 1 4 8 12).cells (rO 1 4 8 12).slots) := by
  refine MetFree.of_bodySF (pF pn3) hisR ?_
  intro p e s m args below meth c s₁ Bd hml0 hP hK
  obtain ⟨rfl, hZ, hh, hH0⟩ := hP
  have hx := Bd.exec
  have hby := Bd.bytes
  have hlk : meth.locks = false := Bd.notSynchronized
  have hml : c.maxLocals = 6 := hml0
  have hown : s.vm.findClass zZ0 = some m.cls := findClass_of_methodNamed Bd.named
  have hnm := (name_of_methodNamed Bd.named Bd.method).1
  have X0 : Stand p l e (rO 1 4 8 12) s m #[(.ref a1), (.ref a2), (.int 0), (.int 0), .null] below meth c s₁ [] 0 0 := Stand.of_body Bd
  have e0 : s₁.heap = h0 := by rw [← hh, Bd.state]; rfl
  have hS0 : s.Since s.vm s.heap.size := (State.WarmedH.refl s).since _
  have hk0 : s.heap.size ≤ h0.size := Nat.le_of_eq (by rw [hh])
  have X0 : Stand p l e (rO 1 4 8 12) (s.setVm s.vm) m #[(.ref a1), (.ref a2), (.int 0), (.int 0), .null] below meth c s₁ [] 0 0 := X0
  have hZ : Z.Warmed39 (s.setVm s.vm).vm := hZ
  have hown : (s.setVm s.vm).vm.findClass zZ0 = some m.cls := hown
  have ch0 : CHr Z own_EL s.vm s.heap s.vm h0 := by have q := CHr.refl hH0; rw [← hh] at q ⊢; exact q
  have N0 := Fr.nil n0
  have bd : ∀ k, DX p c (dG dT2 k) := fun k => ⟨hx, hb hby (dk dP2 k)⟩
  have hrt := Bd.returns
  suffices hgo : ODH Z own_EL p e s below (Q_rmE4 Z a1 a2 h0 n0) (rO 1 4 8 12).cells (rO 1 4 8 12).slots (s₁.setTop (mkF m 0 #[vR a1, vR a2, vI 0, vI 0, .val .null, .unset] [])) by
    obtain ⟨s₂, o, hgo1, hgo2⟩ := hgo
    exact ⟨s₂, o, castTop (ef20 m a1 a2 (0 : Int32) (0 : Int32)) hgo1, hgo2⟩
  refine ODH.at 1 (fun t k => zaN X0 (bd 0) rfl rfl k) ?_
  obtain ⟨T51, X51, e51, st51⟩ := initO X0 hx hZ hown (Wd11 hw) (Wd12 hw) (Wd13 hw) e0 (g := (mkF m 1 #[vR a1, vR a2, vI 0, vI 0, .val .null, .unset] [(.ref a1)])) rfl (by rw [hml]; rfl) rfl (bd 1).2 (by decide) (W := 0) (by show 2 * 0 + _ ≤ _; exact Nat.le_of_eq rfl) (by decide)
  refine ODH.go (B := (T51.setTop (mkF m 4 #[vR a1, vR a2, vI 0, vI 0, .val .null, .unset] []))) st51 ?_
  refine ODH.at 9 (fun t k => ziN X51 (bd 2) rfl (zjN X51 (bd 3) (teq (by decide : (0 : Int32) = (0 : Int32))).2 (zaN X51 (bd 20) rfl rfl k))) ?_
  obtain ⟨b52, T52, h52, k52, t52, kb52, X52, e52, E52, hS52, hk52, hZ, hown, Ea52, Ca52, Va52, Ab52, la52, lb52, cr52, -, ns52, st52⟩ := ldcCH X51 hx hZ hown (Wd289 hw) (wS_in hw) e51 hS0 hk0 (EL_in hw) (mG 1 rfl) ch0.1 (vs := []) (z := (0 : Int32)) ⟨by decide, by decide⟩ (by decide) (by decide) (g := (mkF m 9 #[vR a1, vR a2, vI 0, vI 0, .val .null, .unset] [(.ref a1)])) rfl (bd 21).2 (n := 0) (by decide) (by decide) (nl rfl) (nl rfl)
  have ch52 := ch0.trans cr52
  have na52_a1 := ns52 a1 (own_safeNull hZ.alike (E1.ext E52) (F1.ext E52))
  refine ODH.go (B := (T52.setTop (mkF m 11 #[vR a1, vR a2, vI 0, vI 0, .val .null, .unset] [(.ref b52), (.ref a1)]))) st52 ?_
  refine ODH.gF X52 (bd 22) hZ hown hw Wd28 Via.refl e52 Va52 (fun T53 X53 e53 => ?_)
  have f54 := (F1.ext E52)
  have f55 := (E1.ext E52)
  obtain ⟨T56, h56, X56, e56, W56, st56⟩ := putF X53 hx hZ hown (host := "") (Or.inl (Wd28 hw)) Via.refl e53 f54 f55 (Or.inr ⟨(Wd29 hw), rfl, hnm⟩) (Wd2 hw) (ty := (.array .byte)) (by decide) rfl rfl (g := (mkF m 14 #[vR a1, vR a2, vI 0, vI 0, .val .null, .unset] [(.ref t52), (.ref a1)])) rfl rfl (bd 23).2
  have Fx56 := f54.same W56
  have N56 := Fr.snoc X56 N0 g1
  refine ODH.go (B := (T56.setTop (mkF m 17 #[vR a1, vR a2, vI 0, vI 0, .val .null, .unset] []))) st56 ?_
  have sfch57_a1 := Safe.wr W56 (own_safeNull hZ.alike (E1.ext E52) (F1.ext E52)) ch52.1 (own_safeNull hZ.alike (E1.ext E52) (F1.ext E52))
  have ch57 := ch52.trans (CHr.wr W56 (own_safeNull hZ.alike (E1.ext E52) (F1.ext E52)) ch52.1)
  refine ODH.at 18 (fun t k => zaN X56 (bd 24) rfl rfl k) ?_
  obtain ⟨b58, T58, h58, k58, t58, kb58, X58, e58, E58, hS58, hk58, hZ, hown, Ea58, Ca58, Va58, Ab58, la58, lb58, cr58, -, ns58, st58⟩ := ldcCH X56 hx hZ hown (Wd289 hw) (wS_in hw) e56 hS52 (nT hk52 (Keep.of_wr W56).1) (EL_in hw) (mG 1 rfl) ch57.1 (vs := []) (z := (0 : Int32)) ⟨by decide, by decide⟩ (by decide) (by decide) (g := (mkF m 18 #[vR a1, vR a2, vI 0, vI 0, .val .null, .unset] [(.ref a1)])) rfl (bd 25).2 (n := 0) (by decide) (by decide) (nl rfl) (nl rfl)
  have ch58 := ch57.trans cr58
  have sf58_a1 := cr58.safe (nU (nU E1.lt E52.1) (Keep.of_wr W56).1) sfch57_a1
  have na58_a1 := ns58 a1 sf58_a1
  refine ODH.go (B := (T58.setTop (mkF m 20 #[vR a1, vR a2, vI 0, vI 0, .val .null, .unset] [(.ref b58), (.ref a1)]))) st58 ?_
  refine ODH.gF X58 (bd 26) hZ hown hw Wd26 Via.refl e58 Ca58 (fun T59 X59 e59 => ?_)
  have f60 := (((F2.ext E52).other W56 (Or.inr (slot_ne (Or.inr (Wd27 hw)) (Or.inr (Wd29 hw)) (by decide) (t := .byte) (t' := (.array .byte)) (by decide) (by decide)))).ext E58)
  have f61 := ((f55.wr W56).ext E58)
  obtain ⟨T62, h62, X62, e62, W62, st62⟩ := putFN X59 hx hZ hown (Wd26 hw) Via.refl e59 f60 f61 (Or.inr ⟨(Wd27 hw), rfl, hnm⟩) (Wd2 hw) (ty := .byte) (v' := (.int 0)) (by decide) rfl (by decide) (g := (mkF m 23 #[vR a1, vR a2, vI 0, vI 0, .val .null, .unset] [(.int 0), (.ref a1)])) rfl rfl (bd 27).2
  have Fx62 := f60.same W62
  have N62 := Fr.snoc X62 N56 g1
  refine ODH.go (B := (T62.setTop (mkF m 26 #[vR a1, vR a2, vI 0, vI 0, .val .null, .unset] []))) st62 ?_
  have sfch63_a1 := Safe.wr W62 sf58_a1 ch58.1 sf58_a1
  have ch63 := ch58.trans (CHr.wr W62 sf58_a1 ch58.1)
  exact ODH.retV X62 hx hlk hS58 (by rw [e62]; exact (nT hk58 (Keep.of_wr W62).1)) (by rw [e62]; exact ch63.trans (CHv.at X62 hZ (EL_in hw) ch63.1)) Bd.returns (bd 28).2 (nl rfl) (nl rfl) ⟨rfl, N62, by rw [e62]; exact (((((Keep.refl h0 [a1]).ext E52).wr W56 (Or.inl (mG 0 rfl))).ext E58).wr W62 (Or.inl (mG 0 rfl))), by rw [e62]; exact (f61.wr W62), by rw [e62]; exact Fx62, _, _, (Ne.symm na52_a1.2), by rw [e62]; exact ((Fx56.ext E58).other W62 (Or.inr (slot_ne (Or.inr (Wd29 hw)) (Or.inr (Wd27 hw)) (by decide) (t := (.array .byte)) (t' := .byte) (by decide) (by decide)))), by rw [e62]; exact (((Ab52.other W56 (Ne.symm na52_a1.2)).ext E58).other W62 (Ne.symm na52_a1.2))⟩
def Q_rmE1 (Z : State) (a1 : Addr) (a2 : Addr) (h0 : Heap) (n0 : Nat) (v : Option Value) (h : Heap) (L : List Loc) : Prop := v = none ∧ Fr n0 L ∧ Keep h0 h [a1] ∧ Exa Z h a1 zZ0 ∧ Fld Z h a1 zZ0 "coder" "B" (.int 0) ∧ ∃ (b : Addr) (k : ClassId), b ≠ a1 ∧ Fld Z h a1 zZ0 "value" "[B" (.ref b) ∧ Arv Z h b k .byte (0 : Int32) [] (.int 0)
set_option maxRecDepth 65536 in
set_option maxHeartbeats 40000000 in
theorem rmE1 {l : Launch} {Z : State} {a0 : Array Value} (hw : HW a0 Z) (a1 : Addr) (a2 : Addr) (h0 : Heap) (n0 : Nat) (Z0 : n0 ≤ h0.size) (E1 : Exa Z h0 a1 zZ0) (F1 : Fld Z h0 a1 zZ0 "value" "[B" .null) (F2 : Fld Z h0 a1 zZ0 "coder" "B" (.int 0)) (g1 : n0 ≤ a1) (k2 : ClassId) (A2 : Arv Z h0 a2 k2 .char (0 : Int32) [] (.int 0)) :
    MetFree l ⟨zZ0, "<init>", "([C)V"⟩ (head1 (Jvm.Cond.code ⟨zZ0, "<init>", "([C)V"⟩ kQ50 2 none :: []) (rO 3 4 8 48)) (fun a U => a = #[(.ref a1), (.ref a2)] ∧ Z.Warmed39 U.vm ∧ U.heap = h0 ∧ CHv Z own_EL U.vm h0) (fun _ _ _ _ _ => True) (fun _ U o U' => ∃ v L, o = .returned v ∧ Q_rmE1 Z a1 a2 h0 n0 v U'.heap L ∧ CHr Z own_EL U.vm U.heap U'.vm U'.heap ∧ ReturnedEndW U o U' L (rO 3 4 8 48).cells (rO 3 4 8 48).slots) := by
  refine MetFree.of_bodySF (pF pn3) hisR ?_
  intro p e s m args below meth c s₁ Bd hml0 hP hK
  obtain ⟨rfl, hZ, hh, hH0⟩ := hP
  have hx := Bd.exec
  have hby := Bd.bytes
  have hlk : meth.locks = false := Bd.notSynchronized
  have hml : c.maxLocals = 2 := hml0
  have hown : s.vm.findClass zZ0 = some m.cls := findClass_of_methodNamed Bd.named
  have hnm := (name_of_methodNamed Bd.named Bd.method).1
  have X0 : Stand p l e (rO 3 4 8 48) s m #[(.ref a1), (.ref a2)] below meth c s₁ [] 0 0 := Stand.of_body Bd
  have e0 : s₁.heap = h0 := by rw [← hh, Bd.state]; rfl
  have hS0 : s.Since s.vm s.heap.size := (State.WarmedH.refl s).since _
  have hk0 : s.heap.size ≤ h0.size := Nat.le_of_eq (by rw [hh])
  have X0 : Stand p l e (rO 3 4 8 48) (s.setVm s.vm) m #[(.ref a1), (.ref a2)] below meth c s₁ [] 0 0 := X0
  have hZ : Z.Warmed39 (s.setVm s.vm).vm := hZ
  have hown : (s.setVm s.vm).vm.findClass zZ0 = some m.cls := hown
  have ch0 : CHr Z own_EL s.vm s.heap s.vm h0 := by have q := CHr.refl hH0; rw [← hh] at q ⊢; exact q
  have N0 := Fr.nil n0
  have bd : ∀ k, DX p c (dG dT1 k) := fun k => ⟨hx, hb hby (dk dP1 k)⟩
  have hrt := Bd.returns
  suffices hgo : ODH Z own_EL p e s below (Q_rmE1 Z a1 a2 h0 n0) (rO 3 4 8 48).cells (rO 3 4 8 48).slots (s₁.setTop (mkF m 0 #[vR a1, vR a2] [])) by
    obtain ⟨s₂, o, hgo1, hgo2⟩ := hgo
    exact ⟨s₂, o, castTop (ef21 m a1 a2) hgo1, hgo2⟩
  refine ODH.at 6 (fun t k => zaN X0 (bd 0) rfl rfl (zaN X0 (bd 1) rfl rfl (zcI X0 (bd 2) 0 rfl (zaN X0 (bd 3) rfl rfl (zal X0 (bd 4) hZ e0 A2 (XS.aconstNull X0.here hx rfl (bd 5).2 k)))))) ?_
  obtain ⟨_, _, ⟨T51, L51, k51, n51⟩, -, X51, hs51, gr51, ⟨Lc51, hQ51, l51, y51, z51, cr51⟩, st51⟩ := X0.specialBackS hx (y := ⟨zZ0, "<init>", zZ25⟩) rfl hown (mvT hZ (Wd7 hw)) (mvT hZ (Wd8 hw)) (mvT hZ (Wd10 hw)) (by decide) (backOfSH (W := 0) (rmE4 hw a1 a2 h0 n0 Z0 E1 F1 F2 g1) hZ (Wd10 hw) (Wd3 hw) (by decide) (by decide) (EL_in hw) ch0.1) (g := (mkF m 6 #[vR a1, vR a2] [.null, (.int 0), (.int 0), (.ref a2), (.ref a1)])) rfl (by rw [hml]; rfl) (Steps.refl _) (a := a1) (argsL := [(.ref a2), (.int 0), (.int 0), .null]) (rest := []) (lenOf pd26 rfl) rfl (by show 2 * 0 + _ ≤ _; exact Nat.le_of_eq rfl) (bd 6).2 (fun _ _ => ⟨rfl, e0, (nl rfl), (nl rfl)⟩)
  dsimp only [Pt.U, Pt.locs, Pt.cells, Pt.slots] at X51 l51 y51 z51 st51 hQ51 hs51 gr51 cr51
  subst l51 y51 z51
  have X51 : Stand p l e _ (s.setVm T51.vm) m _ below meth c T51 _ _ _ := X51
  have hZ : Z.Warmed39 (s.setVm T51.vm).vm := State.Warmed39.trans (t := (s.setVm s.vm)) hZ hs51.1
  have hown : (s.setVm T51.vm).vm.findClass zZ0 = some m.cls := by rw [show (s.setVm T51.vm).vm = T51.vm from rfl, hs51.1.alike.findClass]; exact hown
  have hS51 : s.Since T51.vm T51.heap.size := hS0.trans hs51 (nT (by rw [e0]; exact hk0) gr51)
  have hk51 : T51.heap.size ≤ T51.heap.size := Nat.le_refl _
  have ch51 := ch0.trans cr51
  obtain ⟨rfl, Nq51, K51, E51, C51, t51, kb51, nt51, V51, A51⟩ := hQ51
  have N51 := Fr.app N0 Nq51
  refine ODH.via (B := (T51.setTop (mkF m 9 #[vR a1, vR a2] []))) st51 ?_
  exact ODH.retV X51 hx hlk hS51 hk51 (ch51.trans (CHv.at X51 hZ (EL_in hw) ch51.1)) Bd.returns (bd 7).2 (nl rfl) (nl rfl) ⟨rfl, N51, by exact ((Keep.refl h0 [a1]).trans K51 (allS (Or.inl (mG 0 rfl)) all0)), by exact E51, by exact C51, _, _, nt51, by exact V51, by exact A51⟩
def Q_rm0 (Z : State) (p0 : Int32) (p1 : Int32) (p2 : Int32) (p3 : Int32) (h0 : Heap) (v : Option Value) (h : Heap) (L : List Loc) : Prop := v = some (.int 1) ∧ Fr h0.size L
set_option maxRecDepth 65536 in
set_option maxHeartbeats 40000000 in
theorem rm0 (l : Launch) (Z : State) (a0 : Array Value) (hw : ∀ d ∈ tables_1, d.before a0 Z = true) (ws : List Jvm.Cond) (p0 : Int32) (p1 : Int32) (p2 : Int32) (p3 : Int32) (h0 : Heap) (X00 : Old Z h0.size h0) (SS : STs Z zc fm u8 hxa kh)  :
    MetFree l x (head1 (Jvm.Cond.code x code maxLocals ret :: ws) room_1) (fun a U => a = #[(.int p0), (.int p1), (.int p2), (.int p3)] ∧ Z.Warmed39 U.vm ∧ U.heap = h0 ∧ CHv Z own_EL U.vm h0) (fun _ _ _ _ _ => True) (fun _ U o U' => ∃ v L, o = .returned v ∧ Q_rm0 Z p0 p1 p2 p3 h0 v U'.heap L ∧ CHr Z own_EL U.vm U.heap U'.vm U'.heap ∧ ReturnedEndW U o U' L 72 2432) := by
  refine MetFree.of_bodySF (pF pn11) hisR ?_
  intro p e s m args below meth c s₁ Bd hml0 hP hK
  obtain ⟨rfl, hZ, hh, hH0⟩ := hP
  have hx := Bd.exec
  have hby := Bd.bytes
  have hlk : meth.locks = false := Bd.notSynchronized
  have hml : c.maxLocals = 16 := hml0
  have hown : s.vm.findClass zZ5 = some m.cls := findClass_of_methodNamed Bd.named
  have hnm := (name_of_methodNamed Bd.named Bd.method).1
  have X0 : Stand p l e room_1 s m #[(.int p0), (.int p1), (.int p2), (.int p3)] below meth c s₁ [] 0 0 := Stand.of_body Bd
  have e0 : s₁.heap = h0 := by rw [← hh, Bd.state]; rfl
  have hS0 : s.Since s.vm s.heap.size := (State.WarmedH.refl s).since _
  have hk0 : s.heap.size ≤ h0.size := Nat.le_of_eq (by rw [hh])
  have X0 : Stand p l e room_1 (s.setVm s.vm) m #[(.int p0), (.int p1), (.int p2), (.int p3)] below meth c s₁ [] 0 0 := X0
  have hZ : Z.Warmed39 (s.setVm s.vm).vm := hZ
  have hown : (s.setVm s.vm).vm.findClass zZ5 = some m.cls := hown
  have ch0 : CHr Z own_EL s.vm s.heap s.vm h0 := by have q := CHr.refl hH0; rw [← hh] at q ⊢; exact q
  have N0 := Fr.nil h0.size
  have bx : ∀ {pc r}, decode code pc = .ok r → DX p c (pc, r) := fun q => ⟨hx, hb hby q⟩
  have hrt := Bd.returns
  suffices hgo : ODH Z own_EL p e s below (Q_rm0 Z p0 p1 p2 p3 h0) 72 2432 (s₁.setTop (mkF m 0 #[vI p0, vI p1, vI p2, vI p3, .unset, .unset, .unset, .unset, .unset, .unset, .unset, .unset, .unset, .unset, .unset, .unset] [])) by
    obtain ⟨s₂, o, hgo1, hgo2⟩ := hgo
    exact ⟨s₂, o, castTop (ef37 m p0 p1 p2 p3) hgo1, hgo2⟩
  refine ODH.at 4 (fun t k => ziN X0 (bx at_0) rfl (zi2c X0 (bx at_1) (zsI X0 (bx at_2) #[vI p0, vI p1, vI p2, vI p3, vI (p0.toUInt32.toUInt16.toUInt32.toInt32), .unset, .unset, .unset, .unset, .unset, .unset, .unset, .unset, .unset, .unset, .unset] rfl k))) ?_
  generalize hu2_51 : p0.toUInt32.toUInt16.toUInt32.toInt32 = u2_51
  refine ODH.at 8 (fun t k => ziN X0 (bx at_4) rfl (zi2c X0 (bx at_5) (zsI X0 (bx at_6) #[vI p0, vI p1, vI p2, vI p3, vI u2_51, vI (p1.toUInt32.toUInt16.toUInt32.toInt32), .unset, .unset, .unset, .unset, .unset, .unset, .unset, .unset, .unset, .unset] rfl k))) ?_
  generalize hu6_52 : p1.toUInt32.toUInt16.toUInt32.toInt32 = u6_52
  refine ODH.at 12 (fun t k => ziN X0 (bx at_8) rfl (zi2c X0 (bx at_9) (zsI X0 (bx at_10) #[vI p0, vI p1, vI p2, vI p3, vI u2_51, vI u6_52, vI (p2.toUInt32.toUInt16.toUInt32.toInt32), .unset, .unset, .unset, .unset, .unset, .unset, .unset, .unset, .unset] rfl k))) ?_
  generalize hu10_53 : p2.toUInt32.toUInt16.toUInt32.toInt32 = u10_53
  have ru2_51 : Rg u2_51 := by rw [← hu2_51]; exact own_i2cR _
  have ru6_52 : Rg u6_52 := by rw [← hu6_52]; exact own_i2cR _
  have ru10_53 : Rg u10_53 := by rw [← hu10_53]; exact own_i2cR _
  refine ODH.at 16 (fun t k => ziN X0 (bx at_12) rfl (zcB X0 (bx at_13) 16 rfl (ziand X0 (bx at_15) k))) ?_
  obtain ⟨v33_54, hv33_54⟩ : ∃ z : Int32, z = (if (p3 &&& (16 : Int32)) = (0 : Int32) then u2_51 else (p0 &&& (127 : Int32)).toUInt32.toUInt16.toUInt32.toInt32) := ⟨_, rfl⟩
  obtain ⟨v33_55, hv33_55⟩ : ∃ z : Int32, z = (if (p3 &&& (16 : Int32)) = (0 : Int32) then u6_52 else (p1 &&& (127 : Int32)).toUInt32.toUInt16.toUInt32.toInt32) := ⟨_, rfl⟩
  refine ODH.cut (B := (s₁.setTop (mkF m 33 #[vI p0, vI p1, vI p2, vI p3, vI v33_54, vI v33_55, vI u10_53, .unset, .unset, .unset, .unset, .unset, .unset, .unset, .unset, .unset] []))) (fun J33_56 => ?_) ?_
  · skip
    by_cases c16_57 : (p3 &&& (16 : Int32)) = (0 : Int32)
    · refine ODH.at 33 (fun t k => zjY X0 (bx at_16) 33 (teq c16_57).1 k) ?_
      rw [if_pos c16_57] at hv33_54
      rw [hv33_54] at J33_56
      rw [if_pos c16_57] at hv33_55
      rw [hv33_55] at J33_56
      exact J33_56
    · refine ODH.at 33 (fun t k => zjN X0 (bx at_16) (feq c16_57).1 (ziN X0 (bx at_19) rfl (zcB X0 (bx at_20) 127 rfl (ziand X0 (bx at_22) (zi2c X0 (bx at_23) (zsI X0 (bx at_24) #[vI p0, vI p1, vI p2, vI p3, vI ((p0 &&& (127 : Int32)).toUInt32.toUInt16.toUInt32.toInt32), vI u6_52, vI u10_53, .unset, .unset, .unset, .unset, .unset, .unset, .unset, .unset, .unset] rfl (ziN X0 (bx at_26) rfl (zcB X0 (bx at_27) 127 rfl (ziand X0 (bx at_29) (zi2c X0 (bx at_30) (zsI X0 (bx at_31) #[vI p0, vI p1, vI p2, vI p3, vI ((p0 &&& (127 : Int32)).toUInt32.toUInt16.toUInt32.toInt32), vI ((p1 &&& (127 : Int32)).toUInt32.toUInt16.toUInt32.toInt32), vI u10_53, .unset, .unset, .unset, .unset, .unset, .unset, .unset, .unset, .unset] rfl k))))))))))) ?_
      rw [if_neg c16_57] at hv33_54
      rw [hv33_54] at J33_56
      rw [if_neg c16_57] at hv33_55
      rw [hv33_55] at J33_56
      exact J33_56
  have rv33_54 : Rg v33_54 := by rw [hv33_54]; split <;> first | exact own_i2cR _ | assumption
  have rv33_55 : Rg v33_55 := by rw [hv33_55]; split <;> first | exact own_i2cR _ | assumption
  refine ODH.at 36 (fun t k => ziN X0 (bx at_33) rfl (zcI X0 (bx at_34) 4 rfl (ziand X0 (bx at_35) k))) ?_
  obtain ⟨v61_58, hv61_58⟩ : ∃ z : Int32, z = (if (p3 &&& (4 : Int32)) = (0 : Int32) then v33_54 else ((55296 : Int32) ||| (p0 &&& (1023 : Int32))).toUInt32.toUInt16.toUInt32.toInt32) := ⟨_, rfl⟩
  obtain ⟨v61_59, hv61_59⟩ : ∃ z : Int32, z = (if (p3 &&& (4 : Int32)) = (0 : Int32) then v33_55 else ((56320 : Int32) ||| (p1 &&& (1023 : Int32))).toUInt32.toUInt16.toUInt32.toInt32) := ⟨_, rfl⟩
  refine ODH.cut (B := (s₁.setTop (mkF m 61 #[vI p0, vI p1, vI p2, vI p3, vI v61_58, vI v61_59, vI u10_53, .unset, .unset, .unset, .unset, .unset, .unset, .unset, .unset, .unset] []))) (fun J61_60 => ?_) ?_
  · skip
    by_cases c36_61 : (p3 &&& (4 : Int32)) = (0 : Int32)
    · refine ODH.at 61 (fun t k => zjY X0 (bx at_36) 61 (teq c36_61).1 k) ?_
      rw [if_pos c36_61] at hv61_58
      rw [hv61_58] at J61_60
      rw [if_pos c36_61] at hv61_59
      rw [hv61_59] at J61_60
      exact J61_60
    · refine ODH.go (B := (s₁.setTop (mkF m 57 #[vI p0, vI p1, vI p2, vI p3, vI (((55296 : Int32) ||| (p0 &&& (1023 : Int32))).toUInt32.toUInt16.toUInt32.toInt32), vI v33_55, vI u10_53, .unset, .unset, .unset, .unset, .unset, .unset, .unset, .unset, .unset] [(.int (p1 &&& (1023 : Int32))), (.int 56320)]))) (fun t k => zjN X0 (bx at_36) (feq c36_61).1 (X0.ldcInt hx hown (mv hZ (Wd288 hw)) (g := (mkF m 39 #[vI p0, vI p1, vI p2, vI p3, vI v33_54, vI v33_55, vI u10_53, .unset, .unset, .unset, .unset, .unset, .unset, .unset, .unset, .unset] [])) rfl (bx at_39).2 _ (ziN X0 (bx at_41) rfl (zcS X0 (bx at_42) 1023 rfl (ziand X0 (bx at_45) (zior X0 (bx at_46) (zi2c X0 (bx at_47) (zsI X0 (bx at_48) #[vI p0, vI p1, vI p2, vI p3, vI (((55296 : Int32) ||| (p0 &&& (1023 : Int32))).toUInt32.toUInt16.toUInt32.toInt32), vI v33_55, vI u10_53, .unset, .unset, .unset, .unset, .unset, .unset, .unset, .unset, .unset] rfl (X0.ldcInt hx hown (mv hZ (Wd312 hw)) (g := (mkF m 50 #[vI p0, vI p1, vI p2, vI p3, vI (((55296 : Int32) ||| (p0 &&& (1023 : Int32))).toUInt32.toUInt16.toUInt32.toInt32), vI v33_55, vI u10_53, .unset, .unset, .unset, .unset, .unset, .unset, .unset, .unset, .unset] [])) rfl (bx at_50).2 _ (ziN X0 (bx at_52) rfl (zcS X0 (bx at_53) 1023 rfl (ziand X0 (bx at_56) k)))))))))))) ?_
      refine ODH.at 61 (fun t k => zior X0 (bx at_57) (zi2c X0 (bx at_58) (zsI X0 (bx at_59) #[vI p0, vI p1, vI p2, vI p3, vI (((55296 : Int32) ||| (p0 &&& (1023 : Int32))).toUInt32.toUInt16.toUInt32.toInt32), vI (((56320 : Int32) ||| (p1 &&& (1023 : Int32))).toUInt32.toUInt16.toUInt32.toInt32), vI u10_53, .unset, .unset, .unset, .unset, .unset, .unset, .unset, .unset, .unset] rfl k))) ?_
      rw [if_neg c36_61] at hv61_58
      rw [hv61_58] at J61_60
      rw [if_neg c36_61] at hv61_59
      rw [hv61_59] at J61_60
      exact J61_60
  have rv61_58 : Rg v61_58 := by rw [hv61_58]; split <;> first | exact own_i2cR _ | assumption
  have rv61_59 : Rg v61_59 := by rw [hv61_59]; split <;> first | exact own_i2cR _ | assumption
  refine ODH.at 65 (fun t k => ziN X0 (bx at_61) rfl (zcB X0 (bx at_62) 8 rfl (ziand X0 (bx at_64) k))) ?_
  obtain ⟨v72_62, hv72_62⟩ : ∃ z : Int32, z = (if (p3 &&& (8 : Int32)) = (0 : Int32) then u10_53 else v61_58) := ⟨_, rfl⟩
  refine ODH.cut (B := (s₁.setTop (mkF m 72 #[vI p0, vI p1, vI p2, vI p3, vI v61_58, vI v61_59, vI v72_62, .unset, .unset, .unset, .unset, .unset, .unset, .unset, .unset, .unset] []))) (fun J72_63 => ?_) ?_
  · skip
    by_cases c65_64 : (p3 &&& (8 : Int32)) = (0 : Int32)
    · refine ODH.at 72 (fun t k => zjY X0 (bx at_65) 72 (teq c65_64).1 k) ?_
      rw [if_pos c65_64] at hv72_62
      rw [hv72_62] at J72_63
      exact J72_63
    · refine ODH.at 72 (fun t k => zjN X0 (bx at_65) (feq c65_64).1 (ziL X0 (bx at_68) rfl (zsI X0 (bx at_70) #[vI p0, vI p1, vI p2, vI p3, vI v61_58, vI v61_59, vI v61_58, .unset, .unset, .unset, .unset, .unset, .unset, .unset, .unset, .unset] rfl k))) ?_
      rw [if_neg c65_64] at hv72_62
      rw [hv72_62] at J72_63
      exact J72_63
  have rv72_62 : Rg v72_62 := by rw [hv72_62]; split <;> first | exact own_i2cR _ | assumption
  refine ODH.at 76 (fun t k => ziN X0 (bx at_72) rfl (zcB X0 (bx at_73) 32 rfl (ziand X0 (bx at_75) k))) ?_
  obtain ⟨v84_65, hv84_65⟩ : ∃ z : Int32, z = (if (p3 &&& (32 : Int32)) = (0 : Int32) then (1 : Int32) else (0 : Int32)) := ⟨_, rfl⟩
  refine ODH.cut (B := (s₁.setTop (mkF m 84 #[vI p0, vI p1, vI p2, vI p3, vI v61_58, vI v61_59, vI v72_62, .unset, .unset, .unset, .unset, .unset, .unset, .unset, .unset, .unset] [(.int v84_65)]))) (fun J84_66 => ?_) ?_
  · skip
    by_cases c76_67 : (p3 &&& (32 : Int32)) = (0 : Int32)
    · refine ODH.at 84 (fun t k => zjN X0 (bx at_76) (teq c76_67).2 (zcI X0 (bx at_79) 1 rfl (zgO X0 (bx at_80) 84 k))) ?_
      rw [if_pos c76_67] at hv84_65
      rw [hv84_65] at J84_66
      exact J84_66
    · refine ODH.at 84 (fun t k => zjY X0 (bx at_76) 83 (feq c76_67).2 (zcI X0 (bx at_83) 0 rfl k)) ?_
      rw [if_neg c76_67] at hv84_65
      rw [hv84_65] at J84_66
      exact J84_66
  refine ODH.at 91 (fun t k => zsI X0 (bx at_84) #[vI p0, vI p1, vI p2, vI p3, vI v61_58, vI v61_59, vI v72_62, vI v84_65, .unset, .unset, .unset, .unset, .unset, .unset, .unset, .unset] rfl (ziN X0 (bx at_86) rfl (zcI X0 (bx at_87) 3 rfl (ziand X0 (bx at_88) (zsI X0 (bx at_89) #[vI p0, vI p1, vI p2, vI p3, vI v61_58, vI v61_59, vI v72_62, vI v84_65, vI ((p3 &&& (3 : Int32))), .unset, .unset, .unset, .unset, .unset, .unset, .unset] rfl k))))) ?_
  generalize hu89_68 : (p3 &&& (3 : Int32)) = u89_68
  refine ODH.at 94 (fun t k => ziL X0 (bx at_91) rfl (zcI X0 (bx at_93) 3 rfl k)) ?_
  obtain ⟨v100_69, hv100_69⟩ : ∃ z : Int32, z = (if u89_68 = (3 : Int32) then (2 : Int32) else u89_68) := ⟨_, rfl⟩
  refine ODH.cut (B := (s₁.setTop (mkF m 100 #[vI p0, vI p1, vI p2, vI p3, vI v61_58, vI v61_59, vI v72_62, vI v84_65, vI v100_69, .unset, .unset, .unset, .unset, .unset, .unset, .unset] []))) (fun J100_70 => ?_) ?_
  · skip
    by_cases c94_71 : u89_68 = (3 : Int32)
    · refine ODH.at 100 (fun t k => zkN X0 (bx at_94) (teq c94_71).2 (zcI X0 (bx at_97) 2 rfl (zsI X0 (bx at_98) #[vI p0, vI p1, vI p2, vI p3, vI v61_58, vI v61_59, vI v72_62, vI v84_65, vI 2, .unset, .unset, .unset, .unset, .unset, .unset, .unset] rfl k))) ?_
      rw [if_pos c94_71] at hv100_69
      rw [hv100_69] at J100_70
      exact J100_70
    · refine ODH.at 100 (fun t k => zkY X0 (bx at_94) 100 (feq c94_71).2 k) ?_
      rw [if_neg c94_71] at hv100_69
      rw [hv100_69] at J100_70
      exact J100_70
  have hon : v84_65 = (0 : Int32) ∨ v84_65 = (1 : Int32) := by rw [hv84_65]; split; exact Or.inr rfl; exact Or.inl rfl
  have tail : ∀ (cn sn kq : Nat) (cs ks : List Int32) (xs xt ys yt : Addr) (nz : Int32) (s9 : Slot) (vq : Vm) (Tq : State) (hq : Heap) (Lq : List Loc), ((nz = (0 : Int32) ∧ cs = []) ∨ (nz = (1 : Int32) ∧ cs = [v61_58]) ∨ (nz = (2 : Int32) ∧ cs = [v61_58, v61_59])) → ((v84_65 = (0 : Int32) ∧ ks = []) ∨ (v84_65 = (1 : Int32) ∧ ks = [v72_62])) → cn ≤ 22 → sn ≤ 400 → Stand p l e room_1 (s.setVm vq) m #[(.int p0), (.int p1), (.int p2), (.int p3)] below meth c Tq Lq cn sn → Tq.heap = hq → Z.Warmed39 (s.setVm vq).vm → (s.setVm vq).vm.findClass zZ5 = some m.cls → s.Since vq kq → kq ≤ hq.size → CHr Z own_EL s.vm s.heap vq hq → Fr h0.size Lq → Old Z h0.size hq → h0.size ≤ hq.size → Strg Z hq xs xt cs → Strg Z hq ys yt ks → ODH Z own_EL p e s below (Q_rm0 Z p0 p1 p2 p3 h0) 72 2432 (Tq.setTop (mkF m 193 #[vI p0, vI p1, vI p2, vI p3, vI v61_58, vI v61_59, vI v72_62, vI v84_65, vI nz, s9, vR xs, vR ys, .unset, .unset, .unset, .unset] [])) := by
    intro cn sn kq cs ks xs xt ys yt nz s9 vq Tq hq Lq HN HO hcn hsn Xq eq hZ hown hSq hkq chq Nq Oq Zq Sx Sy
    have hc2 := own_hnl HN
    have hk1 := own_hkl HO
    refine ODH.at 195 (fun t k => zcB Xq (bx at_193) 18 rfl k) ?_
    obtain ⟨T72, h72, k72, X72, e72, E72, A72, st72⟩ := newP Xq hx hZ (aty := .char) (Wd0 hw) eq (g := (mkF m 195 #[vI p0, vI p1, vI p2, vI p3, vI v61_58, vI v61_59, vI v72_62, vI v84_65, vI nz, s9, vR xs, vR ys, .unset, .unset, .unset, .unset] [(.int 18)])) rfl (bx at_195).2 rfl (by decide) (cap := 18) (by decide) (by decide) (by first | omega | (dsimp only [rO, room_1, Pt.cells, Pt.slots]; omega)) (by first | omega | (dsimp only [rO, room_1, Pt.cells, Pt.slots]; omega))
    obtain ⟨b72, g72⟩ : ∃ z, z = hq.size := ⟨_, rfl⟩
    rw [← g72] at A72 st72
    have V72 : Arv Z h72 b72 k72 .char (18 : Int32) [(.int 0), (.int 0), (.int 0), (.int 0), (.int 0), (.int 0), (.int 0), (.int 0), (.int 0), (.int 0), (.int 0), (.int 0), (.int 0), (.int 0), (.int 0), (.int 0), (.int 0), (.int 0)] (.int 0) := (Arv.new A72 (by decide)).pad (pad_rep [] (.int 0) 18)
    refine ODH.go (B := (T72.setTop (mkF m 197 #[vI p0, vI p1, vI p2, vI p3, vI v61_58, vI v61_59, vI v72_62, vI v84_65, vI nz, s9, vR xs, vR ys, .unset, .unset, .unset, .unset] [(.ref b72)]))) st72 ?_
    have ch73 := chq.trans (CHr.ext E72 chq.1)
    have Bf72 : Buf Z h72 b72 [] := ⟨Nat.zero_le _, _, own_z, own_fill (Arv.new A72 (by decide)), fun i hi => absurd hi (Nat.not_lt_zero i)⟩
    refine ODH.at 203 (fun t k => zaS X72 (bx at_197) rfl #[vI p0, vI p1, vI p2, vI p3, vI v61_58, vI v61_59, vI v72_62, vI v84_65, vI nz, s9, vR xs, vR ys, vR b72, .unset, .unset, .unset] rfl (zaL X72 (bx at_199) rfl rfl (zaL X72 (bx at_201) rfl rfl k))) ?_
    have f74 := (Sx.ext E72)
    have f75 := (Sy.ext E72)
    obtain ⟨_, _, ⟨T76, L76, k76, n76⟩, -, X76, hs76, gr76, ⟨Lc76, hQ76, l76, y76, z76, cr76⟩, st76⟩ := callSS X72 hx (y := ⟨zZ6, "encode", zZ38⟩) hown (mvT hZ (Wd30 hw)) (mvT hZ (Wd31 hw)) (mvT hZ (Wd32 hw)) (mvT hZ (Wd33 hw)) (by decide) (backOfSH (W := 0) (rmENC hw xs ys h72 h0.size (Oq.ext E72) SS (nT Zq E72.1) xt cs f74 hc2 yt ks f75 hk1) hZ (Wd33 hw) (Wd32 hw) (by decide) (by decide) (EL_in hw) ch73.1) (g := (mkF m 203 #[vI p0, vI p1, vI p2, vI p3, vI v61_58, vI v61_59, vI v72_62, vI v84_65, vI nz, s9, vR xs, vR ys, vR b72, .unset, .unset, .unset] [(.ref ys), (.ref xs)])) rfl (by rw [hml]; rfl) (argsL := [(.ref xs), (.ref ys)]) (rest := []) (lenOf pd52 rfl) rfl (by show 2 * 0 + _ ≤ _; exact Nat.le_of_eq rfl) (bx at_203).2 (fun _ _ => ⟨rfl, e72, (by first | omega | (dsimp only [rO, room_1, Pt.cells, Pt.slots]; omega)), (by first | omega | (dsimp only [rO, room_1, Pt.cells, Pt.slots]; omega))⟩)
    dsimp only [Pt.U, Pt.locs, Pt.cells, Pt.slots] at X76 l76 y76 z76 st76 hQ76 hs76 gr76 cr76
    subst l76 y76 z76
    have X76 : Stand p l e _ (s.setVm T76.vm) m _ below meth c T76 _ _ _ := X76
    have hZ : Z.Warmed39 (s.setVm T76.vm).vm := State.Warmed39.trans (t := (s.setVm vq)) hZ hs76.1
    have hown : (s.setVm T76.vm).vm.findClass zZ5 = some m.cls := by rw [show (s.setVm T76.vm).vm = T76.vm from rfl, hs76.1.alike.findClass]; exact hown
    have hS76 : s.Since T76.vm T76.heap.size := hSq.trans hs76 (nT (by rw [e72]; exact (nT hkq E72.1)) gr76)
    have hk76 : T76.heap.size ≤ T76.heap.size := Nat.le_refl _
    have ch76 := ch73.trans cr76
    obtain ⟨r76, t76, rfl, Nq76, K76, oa76, ob76, S76⟩ := hQ76
    have N76 := Fr.app Nq Nq76
    have gbt76 : h0.size ≤ t76 := nT (nT Zq E72.1) ob76
    have gbr76 : h0.size ≤ r76 := nT (nT Zq E72.1) oa76
    refine ODH.via (B := (T76.setTop (mkF m 206 #[vI p0, vI p1, vI p2, vI p3, vI v61_58, vI v61_59, vI v72_62, vI v84_65, vI nz, s9, vR xs, vR ys, vR b72, .unset, .unset, .unset] [(.ref r76)]))) st76 ?_
    refine ODH.at 208 (fun t k => zaS X76 (bx at_206) rfl #[vI p0, vI p1, vI p2, vI p3, vI v61_58, vI v61_59, vI v72_62, vI v84_65, vI nz, s9, vR xs, vR ys, vR b72, vR r76, .unset, .unset] rfl k) ?_
    have tail2 : ∀ (cm sm : Nat) (es : List Int32) (sl : Slot) (Tr : State) (hr : Heap) (Lr : List Loc), cm ≤ 72 → sm ≤ 2432 → Stand p l e room_1 (s.setVm T76.vm) m #[(.int p0), (.int p1), (.int p2), (.int p3)] below meth c Tr Lr cm sm → Tr.heap = hr → T76.heap.size ≤ hr.size → CHr Z own_EL s.vm s.heap T76.vm hr → Fr h0.size Lr → Old Z h0.size hr → h0.size ≤ hr.size → Strg Z hr r76 t76 es → Buf Z hr b72 es → ODH Z own_EL p e s below (Q_rm0 Z p0 p1 p2 p3 h0) 72 2432 (Tr.setTop (mkF m 329 #[vI p0, vI p1, vI p2, vI p3, vI v61_58, vI v61_59, vI v72_62, vI v84_65, vI nz, s9, vR xs, vR ys, vR b72, vR r76, vI ((Int32.ofNat es.length)), sl] [])) := by
      intro cm sm es sl Tr hr Lr hcm hsm Xr er hkr chr_ Nr Or_ Zr Sr Br
      refine ODH.at 331 (fun t k => zaL Xr (bx at_329) rfl rfl k) ?_
      refine ODH.cV Xr (bx at_331) hZ hown hml Wd260 Wd38 (nfs hZ (Wd40 hw)) Wd40 Wd39 Wd3 Wd41 pd11 (rmLn hw r76 hr h0.size Or_ SS t76 es Sr (nT Br.1 (by decide))) er Sr.1 rfl (fun v77 T77 L77 X77 hQ77 => ?_)
      obtain ⟨rfl, rfl, e77⟩ := hQ77
      try simp only [List.append_nil] at X77
      refine ODH.at 346 (fun t k => ziL X77 (bx at_334) rfl (zkN X77 (bx at_336) (teq rfl).2 (zaL X77 (bx at_339) rfl rfl (zaL X77 (bx at_341) rfl rfl (ziL X77 (bx at_343) rfl (zcI X77 (bx at_345) 0 rfl k)))))) ?_
      refine ODH.cS X77 (bx at_346) hZ hown hml Wd261 Wd262 Wd246 Wd263 pd53 (rmAt hw r76 b72 (0 : Int32) hr h0.size Or_ SS t76 es Sr Br (by decide) (by decide)) e77 rfl (fun v78 T78 L78 X78 hQ78 => ?_)
      obtain ⟨rfl, rfl, e78⟩ := hQ78
      try simp only [List.append_nil] at X78
      refine ODH.at 359 (fun t k => zjN X78 (bx at_349) (feq (by decide : ¬ (1 : Int32) = (0 : Int32))).1 (zaL X78 (bx at_352) rfl rfl (zaL X78 (bx at_354) rfl rfl (ziL X78 (bx at_356) rfl (zcI X78 (bx at_358) 1 rfl k))))) ?_
      refine ODH.cS X78 (bx at_359) hZ hown hml Wd261 Wd262 Wd246 Wd263 pd53 (rmAt hw r76 b72 (1 : Int32) hr h0.size Or_ SS t76 es Sr Br (by decide) (by decide)) e78 rfl (fun v79 T79 L79 X79 hQ79 => ?_)
      obtain ⟨rfl, rfl, e79⟩ := hQ79
      try simp only [List.append_nil] at X79
      refine ODH.at 372 (fun t k => zjN X79 (bx at_362) (feq (by decide : ¬ (1 : Int32) = (0 : Int32))).1 (zaL X79 (bx at_365) rfl rfl (zaL X79 (bx at_367) rfl rfl (ziL X79 (bx at_369) rfl (zcI X79 (bx at_371) 2 rfl k))))) ?_
      refine ODH.cS X79 (bx at_372) hZ hown hml Wd261 Wd262 Wd246 Wd263 pd53 (rmAt hw r76 b72 (2 : Int32) hr h0.size Or_ SS t76 es Sr Br (by decide) (by decide)) e79 rfl (fun v80 T80 L80 X80 hQ80 => ?_)
      obtain ⟨rfl, rfl, e80⟩ := hQ80
      try simp only [List.append_nil] at X80
      refine ODH.at 385 (fun t k => zjN X80 (bx at_375) (feq (by decide : ¬ (1 : Int32) = (0 : Int32))).1 (zaL X80 (bx at_378) rfl rfl (zaL X80 (bx at_380) rfl rfl (ziL X80 (bx at_382) rfl (zcI X80 (bx at_384) 3 rfl k))))) ?_
      refine ODH.cS X80 (bx at_385) hZ hown hml Wd261 Wd262 Wd246 Wd263 pd53 (rmAt hw r76 b72 (3 : Int32) hr h0.size Or_ SS t76 es Sr Br (by decide) (by decide)) e80 rfl (fun v81 T81 L81 X81 hQ81 => ?_)
      obtain ⟨rfl, rfl, e81⟩ := hQ81
      try simp only [List.append_nil] at X81
      refine ODH.at 398 (fun t k => zjN X81 (bx at_388) (feq (by decide : ¬ (1 : Int32) = (0 : Int32))).1 (zaL X81 (bx at_391) rfl rfl (zaL X81 (bx at_393) rfl rfl (ziL X81 (bx at_395) rfl (zcI X81 (bx at_397) 4 rfl k))))) ?_
      refine ODH.cS X81 (bx at_398) hZ hown hml Wd261 Wd262 Wd246 Wd263 pd53 (rmAt hw r76 b72 (4 : Int32) hr h0.size Or_ SS t76 es Sr Br (by decide) (by decide)) e81 rfl (fun v82 T82 L82 X82 hQ82 => ?_)
      obtain ⟨rfl, rfl, e82⟩ := hQ82
      try simp only [List.append_nil] at X82
      refine ODH.at 411 (fun t k => zjN X82 (bx at_401) (feq (by decide : ¬ (1 : Int32) = (0 : Int32))).1 (zaL X82 (bx at_404) rfl rfl (zaL X82 (bx at_406) rfl rfl (ziL X82 (bx at_408) rfl (zcI X82 (bx at_410) 5 rfl k))))) ?_
      refine ODH.cS X82 (bx at_411) hZ hown hml Wd261 Wd262 Wd246 Wd263 pd53 (rmAt hw r76 b72 (5 : Int32) hr h0.size Or_ SS t76 es Sr Br (by decide) (by decide)) e82 rfl (fun v83 T83 L83 X83 hQ83 => ?_)
      obtain ⟨rfl, rfl, e83⟩ := hQ83
      try simp only [List.append_nil] at X83
      refine ODH.at 425 (fun t k => zjN X83 (bx at_414) (feq (by decide : ¬ (1 : Int32) = (0 : Int32))).1 (zaL X83 (bx at_417) rfl rfl (zaL X83 (bx at_419) rfl rfl (ziL X83 (bx at_421) rfl (zcB X83 (bx at_423) 6 rfl k))))) ?_
      refine ODH.cS X83 (bx at_425) hZ hown hml Wd261 Wd262 Wd246 Wd263 pd53 (rmAt hw r76 b72 (6 : Int32) hr h0.size Or_ SS t76 es Sr Br (by decide) (by decide)) e83 rfl (fun v84 T84 L84 X84 hQ84 => ?_)
      obtain ⟨rfl, rfl, e84⟩ := hQ84
      try simp only [List.append_nil] at X84
      refine ODH.at 439 (fun t k => zjN X84 (bx at_428) (feq (by decide : ¬ (1 : Int32) = (0 : Int32))).1 (zaL X84 (bx at_431) rfl rfl (zaL X84 (bx at_433) rfl rfl (ziL X84 (bx at_435) rfl (zcB X84 (bx at_437) 7 rfl k))))) ?_
      refine ODH.cS X84 (bx at_439) hZ hown hml Wd261 Wd262 Wd246 Wd263 pd53 (rmAt hw r76 b72 (7 : Int32) hr h0.size Or_ SS t76 es Sr Br (by decide) (by decide)) e84 rfl (fun v85 T85 L85 X85 hQ85 => ?_)
      obtain ⟨rfl, rfl, e85⟩ := hQ85
      try simp only [List.append_nil] at X85
      refine ODH.at 453 (fun t k => zjN X85 (bx at_442) (feq (by decide : ¬ (1 : Int32) = (0 : Int32))).1 (zaL X85 (bx at_445) rfl rfl (zaL X85 (bx at_447) rfl rfl (ziL X85 (bx at_449) rfl (zcB X85 (bx at_451) 8 rfl k))))) ?_
      refine ODH.cS X85 (bx at_453) hZ hown hml Wd261 Wd262 Wd246 Wd263 pd53 (rmAt hw r76 b72 (8 : Int32) hr h0.size Or_ SS t76 es Sr Br (by decide) (by decide)) e85 rfl (fun v86 T86 L86 X86 hQ86 => ?_)
      obtain ⟨rfl, rfl, e86⟩ := hQ86
      try simp only [List.append_nil] at X86
      refine ODH.at 467 (fun t k => zjN X86 (bx at_456) (feq (by decide : ¬ (1 : Int32) = (0 : Int32))).1 (zaL X86 (bx at_459) rfl rfl (zaL X86 (bx at_461) rfl rfl (ziL X86 (bx at_463) rfl (zcB X86 (bx at_465) 9 rfl k))))) ?_
      refine ODH.cS X86 (bx at_467) hZ hown hml Wd261 Wd262 Wd246 Wd263 pd53 (rmAt hw r76 b72 (9 : Int32) hr h0.size Or_ SS t76 es Sr Br (by decide) (by decide)) e86 rfl (fun v87 T87 L87 X87 hQ87 => ?_)
      obtain ⟨rfl, rfl, e87⟩ := hQ87
      try simp only [List.append_nil] at X87
      refine ODH.at 481 (fun t k => zjN X87 (bx at_470) (feq (by decide : ¬ (1 : Int32) = (0 : Int32))).1 (zaL X87 (bx at_473) rfl rfl (zaL X87 (bx at_475) rfl rfl (ziL X87 (bx at_477) rfl (zcB X87 (bx at_479) 10 rfl k))))) ?_
      refine ODH.cS X87 (bx at_481) hZ hown hml Wd261 Wd262 Wd246 Wd263 pd53 (rmAt hw r76 b72 (10 : Int32) hr h0.size Or_ SS t76 es Sr Br (by decide) (by decide)) e87 rfl (fun v88 T88 L88 X88 hQ88 => ?_)
      obtain ⟨rfl, rfl, e88⟩ := hQ88
      try simp only [List.append_nil] at X88
      refine ODH.at 495 (fun t k => zjN X88 (bx at_484) (feq (by decide : ¬ (1 : Int32) = (0 : Int32))).1 (zaL X88 (bx at_487) rfl rfl (zaL X88 (bx at_489) rfl rfl (ziL X88 (bx at_491) rfl (zcB X88 (bx at_493) 11 rfl k))))) ?_
      refine ODH.cS X88 (bx at_495) hZ hown hml Wd261 Wd262 Wd246 Wd263 pd53 (rmAt hw r76 b72 (11 : Int32) hr h0.size Or_ SS t76 es Sr Br (by decide) (by decide)) e88 rfl (fun v89 T89 L89 X89 hQ89 => ?_)
      obtain ⟨rfl, rfl, e89⟩ := hQ89
      try simp only [List.append_nil] at X89
      refine ODH.at 509 (fun t k => zjN X89 (bx at_498) (feq (by decide : ¬ (1 : Int32) = (0 : Int32))).1 (zaL X89 (bx at_501) rfl rfl (zaL X89 (bx at_503) rfl rfl (ziL X89 (bx at_505) rfl (zcB X89 (bx at_507) 12 rfl k))))) ?_
      refine ODH.cS X89 (bx at_509) hZ hown hml Wd261 Wd262 Wd246 Wd263 pd53 (rmAt hw r76 b72 (12 : Int32) hr h0.size Or_ SS t76 es Sr Br (by decide) (by decide)) e89 rfl (fun v90 T90 L90 X90 hQ90 => ?_)
      obtain ⟨rfl, rfl, e90⟩ := hQ90
      try simp only [List.append_nil] at X90
      refine ODH.at 523 (fun t k => zjN X90 (bx at_512) (feq (by decide : ¬ (1 : Int32) = (0 : Int32))).1 (zaL X90 (bx at_515) rfl rfl (zaL X90 (bx at_517) rfl rfl (ziL X90 (bx at_519) rfl (zcB X90 (bx at_521) 13 rfl k))))) ?_
      refine ODH.cS X90 (bx at_523) hZ hown hml Wd261 Wd262 Wd246 Wd263 pd53 (rmAt hw r76 b72 (13 : Int32) hr h0.size Or_ SS t76 es Sr Br (by decide) (by decide)) e90 rfl (fun v91 T91 L91 X91 hQ91 => ?_)
      obtain ⟨rfl, rfl, e91⟩ := hQ91
      try simp only [List.append_nil] at X91
      refine ODH.at 537 (fun t k => zjN X91 (bx at_526) (feq (by decide : ¬ (1 : Int32) = (0 : Int32))).1 (zaL X91 (bx at_529) rfl rfl (zaL X91 (bx at_531) rfl rfl (ziL X91 (bx at_533) rfl (zcB X91 (bx at_535) 14 rfl k))))) ?_
      refine ODH.cS X91 (bx at_537) hZ hown hml Wd261 Wd262 Wd246 Wd263 pd53 (rmAt hw r76 b72 (14 : Int32) hr h0.size Or_ SS t76 es Sr Br (by decide) (by decide)) e91 rfl (fun v92 T92 L92 X92 hQ92 => ?_)
      obtain ⟨rfl, rfl, e92⟩ := hQ92
      try simp only [List.append_nil] at X92
      refine ODH.at 551 (fun t k => zjN X92 (bx at_540) (feq (by decide : ¬ (1 : Int32) = (0 : Int32))).1 (zaL X92 (bx at_543) rfl rfl (zaL X92 (bx at_545) rfl rfl (ziL X92 (bx at_547) rfl (zcB X92 (bx at_549) 15 rfl k))))) ?_
      refine ODH.cS X92 (bx at_551) hZ hown hml Wd261 Wd262 Wd246 Wd263 pd53 (rmAt hw r76 b72 (15 : Int32) hr h0.size Or_ SS t76 es Sr Br (by decide) (by decide)) e92 rfl (fun v93 T93 L93 X93 hQ93 => ?_)
      obtain ⟨rfl, rfl, e93⟩ := hQ93
      try simp only [List.append_nil] at X93
      refine ODH.at 565 (fun t k => zjN X93 (bx at_554) (feq (by decide : ¬ (1 : Int32) = (0 : Int32))).1 (zaL X93 (bx at_557) rfl rfl (zaL X93 (bx at_559) rfl rfl (ziL X93 (bx at_561) rfl (zcB X93 (bx at_563) 16 rfl k))))) ?_
      refine ODH.cS X93 (bx at_565) hZ hown hml Wd261 Wd262 Wd246 Wd263 pd53 (rmAt hw r76 b72 (16 : Int32) hr h0.size Or_ SS t76 es Sr Br (by decide) (by decide)) e93 rfl (fun v94 T94 L94 X94 hQ94 => ?_)
      obtain ⟨rfl, rfl, e94⟩ := hQ94
      try simp only [List.append_nil] at X94
      refine ODH.at 579 (fun t k => zjN X94 (bx at_568) (feq (by decide : ¬ (1 : Int32) = (0 : Int32))).1 (zaL X94 (bx at_571) rfl rfl (zaL X94 (bx at_573) rfl rfl (ziL X94 (bx at_575) rfl (zcB X94 (bx at_577) 17 rfl k))))) ?_
      refine ODH.cS X94 (bx at_579) hZ hown hml Wd261 Wd262 Wd246 Wd263 pd53 (rmAt hw r76 b72 (17 : Int32) hr h0.size Or_ SS t76 es Sr Br (by decide) (by decide)) e94 rfl (fun v95 T95 L95 X95 hQ95 => ?_)
      obtain ⟨rfl, rfl, e95⟩ := hQ95
      try simp only [List.append_nil] at X95
      refine ODH.at 590 (fun t k => zjN X95 (bx at_582) (feq (by decide : ¬ (1 : Int32) = (0 : Int32))).1 (zcI X95 (bx at_585) 1 rfl (zgO X95 (bx at_586) 590 k))) ?_
      exact ODH.ret X95 hx hlk hS76 (by rw [e95]; exact hkr) (by rw [e95]; exact chr_.trans (CHv.at X95 hZ (EL_in hw) chr_.1)) (t := .boolean) Bd.returns rfl (Or.inl ⟨rfl, Or.inr (Or.inl rfl), _, rfl⟩) (bx at_590).2 (by first | omega | (dsimp only [rO, room_1, Pt.cells, Pt.slots]; omega)) (by first | omega | (dsimp only [rO, room_1, Pt.cells, Pt.slots]; omega)) ⟨rfl, Nr⟩
    refine ODH.at 214 (fun t k => zcI X76 (bx at_208) 0 rfl (zsI X76 (bx at_209) #[vI p0, vI p1, vI p2, vI p3, vI v61_58, vI v61_59, vI v72_62, vI v84_65, vI nz, s9, vR xs, vR ys, vR b72, vR r76, vI 0, .unset] rfl (ziL X76 (bx at_211) rfl (zcI X76 (bx at_213) 1 rfl k)))) ?_
    by_cases c214_96 : nz = (1 : Int32)
    · refine ODH.at 226 (fun t k => zkN X76 (bx at_214) (teq c214_96).2 (zaL X76 (bx at_217) rfl rfl (zcI X76 (bx at_219) 0 rfl (ziL X76 (bx at_220) rfl (ziL X76 (bx at_222) rfl (ziL X76 (bx at_224) rfl k)))))) ?_
      have f97 := (Bf72.keep K76 nin0)
      refine ODH.cS X76 (bx at_226) hZ hown hml Wd244 Wd245 Wd246 Wd247 pd54 (rmOne hw b72 v61_58 v72_62 v84_65 T76.heap h0.size ([] : List Int32) f97 (nT Zq (nE g72)) (Nat.zero_le _) rv61_58.1 rv61_58.2 ks HO) rfl rfl (fun v98 T98 L98 X98 hQ98 => ?_)
      obtain ⟨rfl, Nq98, K98, B98⟩ := hQ98
      have N98 := Fr.app N76 Nq98
      have ch99 := ch76.trans (CHr.keep K98 (fun x hx => by simp only [List.mem_cons, List.not_mem_nil, or_false] at hx; rcases hx with rfl <;> first | exact (own_safeBuf hZ.alike (Bf72.keep K76 nin0))) ch76.1)
      refine ODH.at 329 (fun t k => zsI X98 (bx at_229) #[vI p0, vI p1, vI p2, vI p3, vI v61_58, vI v61_59, vI v72_62, vI v84_65, vI nz, s9, vR xs, vR ys, vR b72, vR r76, vI ((Int32.ofNat (([] : List Int32) ++ own_one ks v61_58).length)), .unset] rfl (zgO X98 (bx at_231) 329 k)) ?_
      have hO : own_outF ks cs 3 0 = (([] : List Int32) ++ own_one ks v61_58) := by rw [own_hn1 HN c214_96]; exact own_M1 rv61_58
      exact tail2 _ _ (([] : List Int32) ++ own_one ks v61_58) _ _ _ _ (by first | omega | (dsimp only [rO, room_1, Pt.cells, Pt.slots]; omega)) (by first | omega | (dsimp only [rO, room_1, Pt.cells, Pt.slots]; omega)) X98 rfl (nT hk76 K98.1) ch99 N98 (((Oq.ext E72).keep K76 all0).keep K98 (allS (nT Zq (nE g72)) all0)) (nT (nT (nT Zq E72.1) K76.1) K98.1) (by rw [← hO]; exact (S76.keep K98 (ninS (Ne.symm (nN Bf72.lt oa76)) nin0) (ninS (Ne.symm (nN Bf72.lt ob76)) nin0))) B98
    · refine ODH.at 237 (fun t k => zkY X76 (bx at_214) 234 (feq c214_96).2 (ziL X76 (bx at_234) rfl (zcI X76 (bx at_236) 2 rfl k))) ?_
      by_cases c237_100 : nz = (2 : Int32)
      · refine ODH.at 240 (fun t k => zkN X76 (bx at_237) (teq c237_100).2 k) ?_
        have e55296 : (55296 : Int32).toInt = 55296 := rfl
        have e56319 : (56319 : Int32).toInt = 56319 := rfl
        have e56320 : (56320 : Int32).toInt = 56320 := rfl
        have e57343 : (57343 : Int32).toInt = 57343 := rfl
        have P300 : ¬ ((55296 ≤ v61_58.toInt ∧ v61_58.toInt ≤ 56319) ∧ (56320 ≤ v61_59.toInt ∧ v61_59.toInt ≤ 57343)) → ODH Z own_EL p e s below (Q_rm0 Z p0 p1 p2 p3 h0) 72 2432 (T76.setTop (mkF m 300 #[vI p0, vI p1, vI p2, vI p3, vI v61_58, vI v61_59, vI v72_62, vI v84_65, vI nz, s9, vR xs, vR ys, vR b72, vR r76, vI 0, .unset] [])) := by
          intro hnp
          refine ODH.at 309 (fun t k => zaL X76 (bx at_300) rfl rfl (zcI X76 (bx at_302) 0 rfl (ziL X76 (bx at_303) rfl (ziL X76 (bx at_305) rfl (ziL X76 (bx at_307) rfl k))))) ?_
          have f101 := (Bf72.keep K76 nin0)
          refine ODH.cS X76 (bx at_309) hZ hown hml Wd244 Wd245 Wd246 Wd247 pd54 (rmOne hw b72 v61_58 v72_62 v84_65 T76.heap h0.size ([] : List Int32) f101 (nT Zq (nE g72)) (Nat.zero_le _) rv61_58.1 rv61_58.2 ks HO) rfl rfl (fun v102 T102 L102 X102 hQ102 => ?_)
          obtain ⟨rfl, Nq102, K102, B102⟩ := hQ102
          have N102 := Fr.app N76 Nq102
          have ch103 := ch76.trans (CHr.keep K102 (fun x hx => by simp only [List.mem_cons, List.not_mem_nil, or_false] at hx; rcases hx with rfl <;> first | exact (own_safeBuf hZ.alike (Bf72.keep K76 nin0))) ch76.1)
          refine ODH.at 324 (fun t k => zsI X102 (bx at_312) #[vI p0, vI p1, vI p2, vI p3, vI v61_58, vI v61_59, vI v72_62, vI v84_65, vI nz, s9, vR xs, vR ys, vR b72, vR r76, vI ((Int32.ofNat (([] : List Int32) ++ own_one ks v61_58).length)), .unset] rfl (zaL X102 (bx at_314) rfl rfl (ziL X102 (bx at_316) rfl (ziL X102 (bx at_318) rfl (ziL X102 (bx at_320) rfl (ziL X102 (bx at_322) rfl k)))))) ?_
          refine ODH.cS X102 (bx at_324) hZ hown hml Wd244 Wd245 Wd246 Wd247 pd54 (rmOne hw b72 v61_59 v72_62 v84_65 T102.heap h0.size (([] : List Int32) ++ own_one ks v61_58) B102 (nT Zq (nE g72)) (by rw [List.nil_append]; exact own_oneL rv61_58) rv61_59.1 rv61_59.2 ks HO) rfl rfl (fun v104 T104 L104 X104 hQ104 => ?_)
          obtain ⟨rfl, Nq104, K104, B104⟩ := hQ104
          have N104 := Fr.app N102 Nq104
          have ch105 := ch103.trans (CHr.keep K104 (fun x hx => by simp only [List.mem_cons, List.not_mem_nil, or_false] at hx; rcases hx with rfl <;> first | exact (own_safeBuf hZ.alike B102)) ch103.1)
          refine ODH.at 329 (fun t k => zsI X104 (bx at_327) #[vI p0, vI p1, vI p2, vI p3, vI v61_58, vI v61_59, vI v72_62, vI v84_65, vI nz, s9, vR xs, vR ys, vR b72, vR r76, vI ((Int32.ofNat ((([] : List Int32) ++ own_one ks v61_58) ++ own_one ks v61_59).length)), .unset] rfl k) ?_
          have hO : own_outF ks cs 3 0 = ((([] : List Int32) ++ own_one ks v61_58) ++ own_one ks v61_59) := by rw [own_hn2 HN c237_100]; exact own_M2n rv61_58 rv61_59 hnp
          exact tail2 _ _ ((([] : List Int32) ++ own_one ks v61_58) ++ own_one ks v61_59) _ _ _ _ (by first | omega | (dsimp only [rO, room_1, Pt.cells, Pt.slots]; omega)) (by first | omega | (dsimp only [rO, room_1, Pt.cells, Pt.slots]; omega)) X104 rfl (nT (nT hk76 K102.1) K104.1) ch105 N104 ((((Oq.ext E72).keep K76 all0).keep K102 (allS (nT Zq (nE g72)) all0)).keep K104 (allS (nT Zq (nE g72)) all0)) (nT (nT (nT (nT Zq E72.1) K76.1) K102.1) K104.1) (by rw [← hO]; exact ((S76.keep K102 (ninS (Ne.symm (nN Bf72.lt oa76)) nin0) (ninS (Ne.symm (nN Bf72.lt ob76)) nin0)).keep K104 (ninS (Ne.symm (nN Bf72.lt oa76)) nin0) (ninS (Ne.symm (nN Bf72.lt ob76)) nin0))) B104
        refine ODH.go (B := (T76.setTop (mkF m 244 #[vI p0, vI p1, vI p2, vI p3, vI v61_58, vI v61_59, vI v72_62, vI v84_65, vI nz, s9, vR xs, vR ys, vR b72, vR r76, vI 0, .unset] [(.int 55296), (.int v61_58)]))) (fun t k => ziL X76 (bx at_240) rfl (X76.ldcInt hx hown (mv hZ (Wd288 hw)) (g := (mkF m 242 #[vI p0, vI p1, vI p2, vI p3, vI v61_58, vI v61_59, vI v72_62, vI v84_65, vI nz, s9, vR xs, vR ys, vR b72, vR r76, vI 0, .unset] [(.int v61_58)])) rfl (bx at_242).2 _ k)) ?_
        by_cases c244_106 : v61_58 < (55296 : Int32)
        · refine ODH.at 300 (fun t k => zkY X76 (bx at_244) 300 (tlt c244_106).1 k) ?_
          exact P300 (fun hp => by have := own_lt c244_106; omega)
        · refine ODH.go (B := (T76.setTop (mkF m 251 #[vI p0, vI p1, vI p2, vI p3, vI v61_58, vI v61_59, vI v72_62, vI v84_65, vI nz, s9, vR xs, vR ys, vR b72, vR r76, vI 0, .unset] [(.int 56319), (.int v61_58)]))) (fun t k => zkN X76 (bx at_244) (flt c244_106).1 (ziL X76 (bx at_247) rfl (X76.ldcInt hx hown (mv hZ (Wd356 hw)) (g := (mkF m 249 #[vI p0, vI p1, vI p2, vI p3, vI v61_58, vI v61_59, vI v72_62, vI v84_65, vI nz, s9, vR xs, vR ys, vR b72, vR r76, vI 0, .unset] [(.int v61_58)])) rfl (bx at_249).2 _ k))) ?_
          by_cases c251_107 : (56319 : Int32) < v61_58
          · refine ODH.at 300 (fun t k => zkY X76 (bx at_251) 300 (tlt c251_107).2.2.1 k) ?_
            exact P300 (fun hp => by have := own_lt c251_107; omega)
          · refine ODH.go (B := (T76.setTop (mkF m 258 #[vI p0, vI p1, vI p2, vI p3, vI v61_58, vI v61_59, vI v72_62, vI v84_65, vI nz, s9, vR xs, vR ys, vR b72, vR r76, vI 0, .unset] [(.int 56320), (.int v61_59)]))) (fun t k => zkN X76 (bx at_251) (flt c251_107).2.2.1 (ziL X76 (bx at_254) rfl (X76.ldcInt hx hown (mv hZ (Wd312 hw)) (g := (mkF m 256 #[vI p0, vI p1, vI p2, vI p3, vI v61_58, vI v61_59, vI v72_62, vI v84_65, vI nz, s9, vR xs, vR ys, vR b72, vR r76, vI 0, .unset] [(.int v61_59)])) rfl (bx at_256).2 _ k))) ?_
            by_cases c258_108 : v61_59 < (56320 : Int32)
            · refine ODH.at 300 (fun t k => zkY X76 (bx at_258) 300 (tlt c258_108).1 k) ?_
              exact P300 (fun hp => by have := own_lt c258_108; omega)
            · refine ODH.go (B := (T76.setTop (mkF m 265 #[vI p0, vI p1, vI p2, vI p3, vI v61_58, vI v61_59, vI v72_62, vI v84_65, vI nz, s9, vR xs, vR ys, vR b72, vR r76, vI 0, .unset] [(.int 57343), (.int v61_59)]))) (fun t k => zkN X76 (bx at_258) (flt c258_108).1 (ziL X76 (bx at_261) rfl (X76.ldcInt hx hown (mv hZ (Wd357 hw)) (g := (mkF m 263 #[vI p0, vI p1, vI p2, vI p3, vI v61_58, vI v61_59, vI v72_62, vI v84_65, vI nz, s9, vR xs, vR ys, vR b72, vR r76, vI 0, .unset] [(.int v61_59)])) rfl (bx at_263).2 _ k))) ?_
              by_cases c265_109 : (57343 : Int32) < v61_59
              · refine ODH.at 300 (fun t k => zkY X76 (bx at_265) 300 (tlt c265_109).2.2.1 k) ?_
                exact P300 (fun hp => by have := own_lt c265_109; omega)
              · refine ODH.at 268 (fun t k => zkN X76 (bx at_265) (flt c265_109).2.2.1 k) ?_
                have hp : ((55296 ≤ v61_58.toInt ∧ v61_58.toInt ≤ 56319) ∧ (56320 ≤ v61_59.toInt ∧ v61_59.toInt ≤ 57343)) := ⟨⟨by have := own_le c244_106; omega, by have := own_le c251_107; omega⟩, by have := own_le c258_108; omega, by have := own_le c265_109; omega⟩
                refine ODH.go (B := (T76.setTop (mkF m 287 #[vI p0, vI p1, vI p2, vI p3, vI v61_58, vI v61_59, vI v72_62, vI v84_65, vI nz, s9, vR xs, vR ys, vR b72, vR r76, vI 0, vI ((((65536 : Int32) + ((v61_58 - (55296 : Int32)) <<< ((10 : Int32) &&& 31))) + (v61_59 - (56320 : Int32))))] []))) (fun t k => X76.ldcInt hx hown (mv hZ (Wd358 hw)) (g := (mkF m 268 #[vI p0, vI p1, vI p2, vI p3, vI v61_58, vI v61_59, vI v72_62, vI v84_65, vI nz, s9, vR xs, vR ys, vR b72, vR r76, vI 0, .unset] [])) rfl (bx at_268).2 _ (ziL X76 (bx at_270) rfl (X76.ldcInt hx hown (mv hZ (Wd288 hw)) (g := (mkF m 272 #[vI p0, vI p1, vI p2, vI p3, vI v61_58, vI v61_59, vI v72_62, vI v84_65, vI nz, s9, vR xs, vR ys, vR b72, vR r76, vI 0, .unset] [(.int v61_58), (.int 65536)])) rfl (bx at_272).2 _ (zisub X76 (bx at_274) (zcB X76 (bx at_275) 10 rfl (zishl X76 (bx at_277) (ziadd X76 (bx at_278) (ziL X76 (bx at_279) rfl (X76.ldcInt hx hown (mv hZ (Wd312 hw)) (g := (mkF m 281 #[vI p0, vI p1, vI p2, vI p3, vI v61_58, vI v61_59, vI v72_62, vI v84_65, vI nz, s9, vR xs, vR ys, vR b72, vR r76, vI 0, .unset] [(.int v61_59), (.int ((65536 : Int32) + ((v61_58 - (55296 : Int32)) <<< ((10 : Int32) &&& 31))))])) rfl (bx at_281).2 _ (zisub X76 (bx at_283) (ziadd X76 (bx at_284) (zsI X76 (bx at_285) #[vI p0, vI p1, vI p2, vI p3, vI v61_58, vI v61_59, vI v72_62, vI v84_65, vI nz, s9, vR xs, vR ys, vR b72, vR r76, vI 0, vI ((((65536 : Int32) + ((v61_58 - (55296 : Int32)) <<< ((10 : Int32) &&& 31))) + (v61_59 - (56320 : Int32))))] rfl k)))))))))))) ?_
                generalize hu285_110 : (((65536 : Int32) + ((v61_58 - (55296 : Int32)) <<< ((10 : Int32) &&& 31))) + (v61_59 - (56320 : Int32))) = u285_110
                refine ODH.at 292 (fun t k => zaL X76 (bx at_287) rfl rfl (zcI X76 (bx at_289) 0 rfl (ziL X76 (bx at_290) rfl k))) ?_
                have f111 := (Bf72.keep K76 nin0)
                refine ODH.cS X76 (bx at_292) hZ hown hml Wd251 Wd252 Wd246 Wd253 pd50 (rmEcp hw b72 u285_110 T76.heap h0.size ([] : List Int32) f111 (nT Zq (nE g72)) (Nat.zero_le _) (fun _ => Nat.zero_le _)) rfl rfl (fun v112 T112 L112 X112 hQ112 => ?_)
                obtain ⟨rfl, Nq112, K112, B112⟩ := hQ112
                have N112 := Fr.app N76 Nq112
                have ch113 := ch76.trans (CHr.keep K112 (fun x hx => by simp only [List.mem_cons, List.not_mem_nil, or_false] at hx; rcases hx with rfl <;> first | exact (own_safeBuf hZ.alike (Bf72.keep K76 nin0))) ch76.1)
                refine ODH.at 329 (fun t k => zsI X112 (bx at_295) #[vI p0, vI p1, vI p2, vI p3, vI v61_58, vI v61_59, vI v72_62, vI v84_65, vI nz, s9, vR xs, vR ys, vR b72, vR r76, vI ((Int32.ofNat (([] : List Int32) ++ own_pcts (own_ecp u285_110)).length)), vI u285_110] rfl (zgO X112 (bx at_297) 329 k)) ?_
                have hO : own_outF ks cs 3 0 = (([] : List Int32) ++ own_pcts (own_ecp u285_110)) := by rw [own_hn2 HN c237_100]; exact own_M2p (fun x q => (own_kbm Sy q).2) hp (by rw [← hu285_110]; exact own_cpv hp)
                exact tail2 _ _ (([] : List Int32) ++ own_pcts (own_ecp u285_110)) _ _ _ _ (by first | omega | (dsimp only [rO, room_1, Pt.cells, Pt.slots]; omega)) (by first | omega | (dsimp only [rO, room_1, Pt.cells, Pt.slots]; omega)) X112 rfl (nT hk76 K112.1) ch113 N112 (((Oq.ext E72).keep K76 all0).keep K112 (allS (nT Zq (nE g72)) all0)) (nT (nT (nT Zq E72.1) K76.1) K112.1) (by rw [← hO]; exact (S76.keep K112 (ninS (Ne.symm (nN Bf72.lt oa76)) nin0) (ninS (Ne.symm (nN Bf72.lt ob76)) nin0))) B112
      · refine ODH.at 329 (fun t k => zkY X76 (bx at_237) 329 (feq c237_100).2 k) ?_
        have hO : own_outF ks cs 3 0 = ([] : List Int32) := by rw [own_hn0 HN c214_96 c237_100]; rfl
        exact tail2 _ _ ([] : List Int32) _ _ _ _ (by first | omega | (dsimp only [rO, room_1, Pt.cells, Pt.slots]; omega)) (by first | omega | (dsimp only [rO, room_1, Pt.cells, Pt.slots]; omega)) X76 rfl hk76 ch76 N76 ((Oq.ext E72).keep K76 all0) (nT (nT Zq E72.1) K76.1) (by rw [← hO]; exact S76) (Bf72.keep K76 nin0)
  rcases own_n3 hu89_68 hv100_69 with q | q | q
  · subst q
    refine ODH.at 106 (fun t k => ziL X0 (bx at_100) rfl (zjN X0 (bx at_102) (teq (by decide : (0 : Int32) = (0 : Int32))).2 (zcI X0 (bx at_105) 0 rfl k))) ?_
    obtain ⟨T114, h114, k114, X114, e114, E114, A114, st114⟩ := newP X0 hx hZ (aty := .char) (Wd0 hw) e0 (g := (mkF m 106 #[vI p0, vI p1, vI p2, vI p3, vI v61_58, vI v61_59, vI v72_62, vI v84_65, vI 0, .unset, .unset, .unset, .unset, .unset, .unset, .unset] [(.int 0)])) rfl (bx at_106).2 rfl (by decide) (cap := 0) (by decide) (by decide) (nl rfl) (nl rfl)
    obtain ⟨b114, g114⟩ : ∃ z, z = h0.size := ⟨_, rfl⟩
    rw [← g114] at A114 st114
    have V114 : Arv Z h114 b114 k114 .char (0 : Int32) [] (.int 0) := Arv.new A114 (by decide)
    refine ODH.go (B := (T114.setTop (mkF m 108 #[vI p0, vI p1, vI p2, vI p3, vI v61_58, vI v61_59, vI v72_62, vI v84_65, vI 0, .unset, .unset, .unset, .unset, .unset, .unset, .unset] [(.ref b114)]))) st114 ?_
    have ch115 := ch0.trans (CHr.ext E114 ch0.1)
    refine ODH.at 147 (fun t k => zaS X114 (bx at_108) rfl #[vI p0, vI p1, vI p2, vI p3, vI v61_58, vI v61_59, vI v72_62, vI v84_65, vI 0, vR b114, .unset, .unset, .unset, .unset, .unset, .unset] rfl (zgO X114 (bx at_110) 147 k)) ?_
    obtain ⟨T116, h116, X116, e116, E116, A116, D116, -, st116⟩ := newO X114 hx hZ hown (Wd1 hw) (Wd2 hw) (Wd3 hw) e114 (g := (mkF m 147 #[vI p0, vI p1, vI p2, vI p3, vI v61_58, vI v61_59, vI v72_62, vI v84_65, vI 0, vR b114, .unset, .unset, .unset, .unset, .unset, .unset] [])) rfl (bx at_147).2 (nl rfl) (nl rfl)
    obtain ⟨b116, g116⟩ : ∃ z, z = h114.size := ⟨_, rfl⟩
    rw [← g116] at A116 D116 st116
    have Fn117 : Fld Z h116 b116 zZ0 "coder" "B" (.int 0) := D116 (Or.inr (Wd27 hw)) (ty := .byte) (by decide)
    have Fn118 : Fld Z h116 b116 zZ0 "value" "[B" .null := D116 (Or.inr (Wd29 hw)) (ty := (.array .byte)) (by decide)
    refine ODH.go (B := (T116.setTop (mkF m 150 #[vI p0, vI p1, vI p2, vI p3, vI v61_58, vI v61_59, vI v72_62, vI v84_65, vI 0, vR b114, .unset, .unset, .unset, .unset, .unset, .unset] [(.ref b116)]))) st116 ?_
    have ch119 := ch115.trans (CHr.ext E116 ch115.1)
    refine ODH.at 153 (fun t k => XS.dup X116.here hx rfl (bx at_150).2 rfl rfl (zaL X116 (bx at_151) rfl rfl k)) ?_
    have f120 := (V114.ext E116)
    obtain ⟨_, _, ⟨T121, L121, k121, n121⟩, -, X121, hs121, gr121, ⟨Lc121, hQ121, l121, y121, z121, cr121⟩, st121⟩ := X116.specialBackS hx (y := ⟨zZ0, "<init>", "([C)V"⟩) rfl hown (mvT hZ (Wd4 hw)) (mvT hZ (Wd5 hw)) (mvT hZ (Wd6 hw)) (by decide) (backOfSH (W := 1) (rmE1 hw b116 b114 h116 h0.size (nT (nT Nat.le.refl E114.1) E116.1) A116 Fn118 Fn117 (nT (nT Nat.le.refl E114.1) (nE g116)) k114 f120) hZ (Wd6 hw) (Wd3 hw) (by decide) (by decide) (EL_in hw) ch119.1) (g := (mkF m 153 #[vI p0, vI p1, vI p2, vI p3, vI v61_58, vI v61_59, vI v72_62, vI v84_65, vI 0, vR b114, .unset, .unset, .unset, .unset, .unset, .unset] [(.ref b114), (.ref b116), (.ref b116)])) rfl (by rw [hml]; rfl) (Steps.refl _) (a := b116) (argsL := [(.ref b114)]) (rest := [(.ref b116)]) (lenOf pd44 rfl) rfl (by show 2 * 0 + _ ≤ _; exact Nat.le_of_eq rfl) (bx at_153).2 (fun _ _ => ⟨rfl, e116, (nl rfl), (nl rfl)⟩)
    dsimp only [Pt.U, Pt.locs, Pt.cells, Pt.slots] at X121 l121 y121 z121 st121 hQ121 hs121 gr121 cr121
    subst l121 y121 z121
    have X121 : Stand p l e _ (s.setVm T121.vm) m _ below meth c T121 _ _ _ := X121
    have hZ : Z.Warmed39 (s.setVm T121.vm).vm := State.Warmed39.trans (t := (s.setVm s.vm)) hZ hs121.1
    have hown : (s.setVm T121.vm).vm.findClass zZ5 = some m.cls := by rw [show (s.setVm T121.vm).vm = T121.vm from rfl, hs121.1.alike.findClass]; exact hown
    have hS121 : s.Since T121.vm T121.heap.size := hS0.trans hs121 (nT (by rw [e116]; exact (nT (nT hk0 E114.1) E116.1)) gr121)
    have hk121 : T121.heap.size ≤ T121.heap.size := Nat.le_refl _
    have ch121 := ch119.trans cr121
    obtain ⟨rfl, Nq121, K121, E121, C121, t121, kb121, nt121, V121, A121⟩ := hQ121
    have N121 := Fr.app N0 Nq121
    refine ODH.via (B := (T121.setTop (mkF m 156 #[vI p0, vI p1, vI p2, vI p3, vI v61_58, vI v61_59, vI v72_62, vI v84_65, vI 0, vR b114, .unset, .unset, .unset, .unset, .unset, .unset] [(.ref b116)]))) st121 ?_
    have Se122 : Strg Z T121.heap b116 t121 [] := own_str0 E121 C121 V121 A121
    refine ODH.at 158 (fun t k => zaS X121 (bx at_156) rfl #[vI p0, vI p1, vI p2, vI p3, vI v61_58, vI v61_59, vI v72_62, vI v84_65, vI 0, vR b114, vR b116, .unset, .unset, .unset, .unset, .unset] rfl k) ?_
    rcases hon with q | q
    · subst q
      refine ODH.at 181 (fun t k => ziL X121 (bx at_158) rfl (zjY X121 (bx at_160) 181 (teq (by decide : (0 : Int32) = (0 : Int32))).1 k)) ?_
      obtain ⟨T123, h123, X123, e123, E123, A123, D123, -, st123⟩ := newO X121 hx hZ hown (Wd1 hw) (Wd2 hw) (Wd3 hw) rfl (g := (mkF m 181 #[vI p0, vI p1, vI p2, vI p3, vI v61_58, vI v61_59, vI v72_62, vI 0, vI 0, vR b114, vR b116, .unset, .unset, .unset, .unset, .unset] [])) rfl (bx at_181).2 (nl rfl) (nl rfl)
      obtain ⟨b123, g123⟩ : ∃ z, z = T121.heap.size := ⟨_, rfl⟩
      rw [← g123] at A123 D123 st123
      have Fn124 : Fld Z h123 b123 zZ0 "coder" "B" (.int 0) := D123 (Or.inr (Wd27 hw)) (ty := .byte) (by decide)
      have Fn125 : Fld Z h123 b123 zZ0 "value" "[B" .null := D123 (Or.inr (Wd29 hw)) (ty := (.array .byte)) (by decide)
      refine ODH.go (B := (T123.setTop (mkF m 184 #[vI p0, vI p1, vI p2, vI p3, vI v61_58, vI v61_59, vI v72_62, vI 0, vI 0, vR b114, vR b116, .unset, .unset, .unset, .unset, .unset] [(.ref b123)]))) st123 ?_
      have ch126 := ch121.trans (CHr.ext E123 ch121.1)
      refine ODH.at 186 (fun t k => XS.dup X123.here hx rfl (bx at_184).2 rfl rfl (zcI X123 (bx at_185) 0 rfl k)) ?_
      obtain ⟨T127, h127, k127, X127, e127, E127, A127, st127⟩ := newP X123 hx hZ (aty := .char) (Wd0 hw) e123 (g := (mkF m 186 #[vI p0, vI p1, vI p2, vI p3, vI v61_58, vI v61_59, vI v72_62, vI 0, vI 0, vR b114, vR b116, .unset, .unset, .unset, .unset, .unset] [(.int 0), (.ref b123), (.ref b123)])) rfl (bx at_186).2 rfl (by decide) (cap := 0) (by decide) (by decide) (nl rfl) (nl rfl)
      obtain ⟨b127, g127⟩ : ∃ z, z = h123.size := ⟨_, rfl⟩
      rw [← g127] at A127 st127
      have V127 : Arv Z h127 b127 k127 .char (0 : Int32) [] (.int 0) := Arv.new A127 (by decide)
      refine ODH.go (B := (T127.setTop (mkF m 188 #[vI p0, vI p1, vI p2, vI p3, vI v61_58, vI v61_59, vI v72_62, vI 0, vI 0, vR b114, vR b116, .unset, .unset, .unset, .unset, .unset] [(.ref b127), (.ref b123), (.ref b123)]))) st127 ?_
      have ch128 := ch126.trans (CHr.ext E127 ch126.1)
      have f129 := (A123.ext E127)
      have f130 := (Fn125.ext E127)
      have f131 := (Fn124.ext E127)
      obtain ⟨_, _, ⟨T132, L132, k132, n132⟩, -, X132, hs132, gr132, ⟨Lc132, hQ132, l132, y132, z132, cr132⟩, st132⟩ := X127.specialBackS hx (y := ⟨zZ0, "<init>", "([C)V"⟩) rfl hown (mvT hZ (Wd4 hw)) (mvT hZ (Wd5 hw)) (mvT hZ (Wd6 hw)) (by decide) (backOfSH (W := 1) (rmE1 hw b123 b127 h127 h0.size (nT (nT (nT (nT (nT Nat.le.refl E114.1) E116.1) K121.1) E123.1) E127.1) f129 f130 f131 (nT (nT (nT (nT Nat.le.refl E114.1) E116.1) K121.1) (nE g123)) k127 V127) hZ (Wd6 hw) (Wd3 hw) (by decide) (by decide) (EL_in hw) ch128.1) (g := (mkF m 188 #[vI p0, vI p1, vI p2, vI p3, vI v61_58, vI v61_59, vI v72_62, vI 0, vI 0, vR b114, vR b116, .unset, .unset, .unset, .unset, .unset] [(.ref b127), (.ref b123), (.ref b123)])) rfl (by rw [hml]; rfl) (Steps.refl _) (a := b123) (argsL := [(.ref b127)]) (rest := [(.ref b123)]) (lenOf pd44 rfl) rfl (by show 2 * 0 + _ ≤ _; exact Nat.le_of_eq rfl) (bx at_188).2 (fun _ _ => ⟨rfl, e127, (nl rfl), (nl rfl)⟩)
      dsimp only [Pt.U, Pt.locs, Pt.cells, Pt.slots] at X132 l132 y132 z132 st132 hQ132 hs132 gr132 cr132
      subst l132 y132 z132
      have X132 : Stand p l e _ (s.setVm T132.vm) m _ below meth c T132 _ _ _ := X132
      have hZ : Z.Warmed39 (s.setVm T132.vm).vm := State.Warmed39.trans (t := (s.setVm T121.vm)) hZ hs132.1
      have hown : (s.setVm T132.vm).vm.findClass zZ5 = some m.cls := by rw [show (s.setVm T132.vm).vm = T132.vm from rfl, hs132.1.alike.findClass]; exact hown
      have hS132 : s.Since T132.vm T132.heap.size := hS121.trans hs132 (nT (by rw [e127]; exact (nT (nT hk121 E123.1) E127.1)) gr132)
      have hk132 : T132.heap.size ≤ T132.heap.size := Nat.le_refl _
      have ch132 := ch128.trans cr132
      obtain ⟨rfl, Nq132, K132, E132, C132, t132, kb132, nt132, V132, A132⟩ := hQ132
      have N132 := Fr.app N121 Nq132
      refine ODH.via (B := (T132.setTop (mkF m 191 #[vI p0, vI p1, vI p2, vI p3, vI v61_58, vI v61_59, vI v72_62, vI 0, vI 0, vR b114, vR b116, .unset, .unset, .unset, .unset, .unset] [(.ref b123)]))) st132 ?_
      have Se133 : Strg Z T132.heap b123 t132 [] := own_str0 E132 C132 V132 A132
      refine ODH.at 193 (fun t k => zaS X132 (bx at_191) rfl #[vI p0, vI p1, vI p2, vI p3, vI v61_58, vI v61_59, vI v72_62, vI 0, vI 0, vR b114, vR b116, vR b123, .unset, .unset, .unset, .unset] rfl k) ?_
      exact tail _ _ _ ([] : List Int32) ([] : List Int32) _ _ _ _ _ _ _ _ _ _ (Or.inl ⟨rfl, rfl⟩) (Or.inl ⟨rfl, rfl⟩) (nl rfl) (nl rfl) X132 rfl hZ hown hS132 hk132 ch132 N132 ((((((X00.ext E114).ext E116).keep K121 (allS (nT (nT Nat.le.refl E114.1) (nE g116)) all0)).ext E123).ext E127).keep K132 (allS (nT (nT (nT (nT Nat.le.refl E114.1) E116.1) K121.1) (nE g123)) all0)) (nT (nT (nT (nT (nT (nT Nat.le.refl E114.1) E116.1) K121.1) E123.1) E127.1) K132.1) (((Se122.ext E123).ext E127).keep K132 (ninS (nN (nU A116.lt K121.1) (nE g123)) nin0) (ninS (nN A121.lt (nE g123)) nin0)) Se133
    · subst q
      refine ODH.at 163 (fun t k => ziL X121 (bx at_158) rfl (zjN X121 (bx at_160) (feq (by decide : ¬ (1 : Int32) = (0 : Int32))).1 k)) ?_
      obtain ⟨T134, h134, X134, e134, E134, A134, D134, -, st134⟩ := newO X121 hx hZ hown (Wd1 hw) (Wd2 hw) (Wd3 hw) rfl (g := (mkF m 163 #[vI p0, vI p1, vI p2, vI p3, vI v61_58, vI v61_59, vI v72_62, vI 1, vI 0, vR b114, vR b116, .unset, .unset, .unset, .unset, .unset] [])) rfl (bx at_163).2 (nl rfl) (nl rfl)
      obtain ⟨b134, g134⟩ : ∃ z, z = T121.heap.size := ⟨_, rfl⟩
      rw [← g134] at A134 D134 st134
      have Fn135 : Fld Z h134 b134 zZ0 "coder" "B" (.int 0) := D134 (Or.inr (Wd27 hw)) (ty := .byte) (by decide)
      have Fn136 : Fld Z h134 b134 zZ0 "value" "[B" .null := D134 (Or.inr (Wd29 hw)) (ty := (.array .byte)) (by decide)
      refine ODH.go (B := (T134.setTop (mkF m 166 #[vI p0, vI p1, vI p2, vI p3, vI v61_58, vI v61_59, vI v72_62, vI 1, vI 0, vR b114, vR b116, .unset, .unset, .unset, .unset, .unset] [(.ref b134)]))) st134 ?_
      have ch137 := ch121.trans (CHr.ext E134 ch121.1)
      refine ODH.at 168 (fun t k => XS.dup X134.here hx rfl (bx at_166).2 rfl rfl (zcI X134 (bx at_167) 1 rfl k)) ?_
      obtain ⟨T138, h138, k138, X138, e138, E138, A138, st138⟩ := newP X134 hx hZ (aty := .char) (Wd0 hw) e134 (g := (mkF m 168 #[vI p0, vI p1, vI p2, vI p3, vI v61_58, vI v61_59, vI v72_62, vI 1, vI 0, vR b114, vR b116, .unset, .unset, .unset, .unset, .unset] [(.int 1), (.ref b134), (.ref b134)])) rfl (bx at_168).2 rfl (by decide) (cap := 1) (by decide) (by decide) (nl rfl) (nl rfl)
      obtain ⟨b138, g138⟩ : ∃ z, z = h134.size := ⟨_, rfl⟩
      rw [← g138] at A138 st138
      have V138 : Arv Z h138 b138 k138 .char (1 : Int32) [(.int 0)] (.int 0) := (Arv.new A138 (by decide)).pad (pad_rep [] (.int 0) 1)
      refine ODH.go (B := (T138.setTop (mkF m 170 #[vI p0, vI p1, vI p2, vI p3, vI v61_58, vI v61_59, vI v72_62, vI 1, vI 0, vR b114, vR b116, .unset, .unset, .unset, .unset, .unset] [(.ref b138), (.ref b134), (.ref b134)]))) st138 ?_
      have ch139 := ch137.trans (CHr.ext E138 ch137.1)
      refine ODH.at 174 (fun t k => XS.dup X138.here hx rfl (bx at_170).2 rfl rfl (zcI X138 (bx at_171) 0 rfl (ziL X138 (bx at_172) rfl k))) ?_
      obtain ⟨cl140, Ar140, q140, S140, M140, H140, G140⟩ := id V138
      obtain ⟨T140, h140, X140, e140, W140, st140⟩ := stC X138 hx hZ e138 Ar140 (j := (0 : Int32)) (inb_of S140 ⟨by decide, by decide⟩) (g := (mkF m 174 #[vI p0, vI p1, vI p2, vI p3, vI v61_58, vI v61_59, vI v72_62, vI 1, vI 0, vR b114, vR b116, .unset, .unset, .unset, .unset, .unset] [(.int v72_62), (.int 0), (.ref b138), (.ref b138), (.ref b134), (.ref b134)])) rfl rfl (bx at_174).2
      rw [(own_nc rv72_62.1 rv72_62.2)] at W140
      have V140 : Arv Z h140 b138 k138 .char (1 : Int32) [(.int v72_62)] (.int 0) := Arv.set Ar140 q140 S140 M140 H140 G140 ((own_nc rv72_62.1 rv72_62.2) ▸ fits_nar_char _) W140 0 rfl (nl rfl)
      have N140 := Fr.snoc X140 N121 (nT (nT (nT (nT (nT Nat.le.refl E114.1) E116.1) K121.1) E134.1) (nE g138))
      refine ODH.go (B := (T140.setTop (mkF m 175 #[vI p0, vI p1, vI p2, vI p3, vI v61_58, vI v61_59, vI v72_62, vI 1, vI 0, vR b114, vR b116, .unset, .unset, .unset, .unset, .unset] [(.ref b138), (.ref b134), (.ref b134)]))) st140 ?_
      have ch141 := ch139.trans (CHr.wr W140 (own_safeArv hZ.alike V138 (by decide)) ch139.1)
      have f142 := ((A134.ext E138).wr W140)
      have f143 := ((Fn136.ext E138).other W140 (Or.inl (nN A134.lt (nE g138))))
      have f144 := ((Fn135.ext E138).other W140 (Or.inl (nN A134.lt (nE g138))))
      refine ODH.cI X140 (bx at_175) hZ hown hml Wd4 Wd5 Wd3 Wd6 pd44 (rmS1_1 hw b134 b138 h140 h0.size ((((((X00.ext E114).ext E116).keep K121 (allS (nT (nT Nat.le.refl E114.1) (nE g116)) all0)).ext E134).ext E138).wr W140 (nT (nT (nT (nT (nT Nat.le.refl E114.1) E116.1) K121.1) E134.1) (nE g138))) SS (nT (nT (nT (nT (nT (nT Nat.le.refl E114.1) E116.1) K121.1) E134.1) E138.1) (Keep.of_wr W140).1) f142 f143 f144 (nT (nT (nT (nT Nat.le.refl E114.1) E116.1) K121.1) (nE g134)) k138 v72_62 V140 rv72_62.1 rv72_62.2) e140 rfl (fun v145 T145 L145 X145 hQ145 => ?_)
      obtain ⟨rfl, Nq145, K145, t145, ob145, S145⟩ := hQ145
      have N145 := Fr.app N140 Nq145
      have gbt145 : h0.size ≤ t145 := nT (nT (nT (nT (nT (nT (nT Nat.le.refl E114.1) E116.1) K121.1) E134.1) E138.1) (Keep.of_wr W140).1) ob145
      have ch146 := ch141.trans (CHr.keep K145 (fun x hx => by simp only [List.mem_cons, List.not_mem_nil, or_false] at hx; rcases hx with rfl <;> first | exact (own_safeNull hZ.alike ((A134.ext E138).wr W140) ((Fn136.ext E138).other W140 (Or.inl (nN A134.lt (nE g138)))))) ch141.1)
      refine ODH.at 193 (fun t k => zgO X145 (bx at_178) 191 (zaS X145 (bx at_191) rfl #[vI p0, vI p1, vI p2, vI p3, vI v61_58, vI v61_59, vI v72_62, vI 1, vI 0, vR b114, vR b116, vR b134, .unset, .unset, .unset, .unset] rfl k)) ?_
      exact tail _ _ _ ([] : List Int32) ([v72_62] : List Int32) _ _ _ _ _ _ _ _ _ _ (Or.inl ⟨rfl, rfl⟩) (Or.inr ⟨rfl, rfl⟩) (nl rfl) (nl rfl) X145 rfl hZ hown hS121 (nT (nT (nT (nT hk121 E134.1) E138.1) (Keep.of_wr W140).1) K145.1) ch146 N145 (((((((X00.ext E114).ext E116).keep K121 (allS (nT (nT Nat.le.refl E114.1) (nE g116)) all0)).ext E134).ext E138).wr W140 (nT (nT (nT (nT (nT Nat.le.refl E114.1) E116.1) K121.1) E134.1) (nE g138))).keep K145 (allS (nT (nT (nT (nT Nat.le.refl E114.1) E116.1) K121.1) (nE g134)) all0)) (nT (nT (nT (nT (nT (nT (nT Nat.le.refl E114.1) E116.1) K121.1) E134.1) E138.1) (Keep.of_wr W140).1) K145.1) ((((Se122.ext E134).ext E138).wr W140 (nN (nU (nU A116.lt K121.1) E134.1) (nE g138)) (nN (nU A121.lt E134.1) (nE g138))).keep K145 (ninS (nN (nU A116.lt K121.1) (nE g134)) nin0) (ninS (nN A121.lt (nE g134)) nin0)) S145
  · subst q
    refine ODH.at 120 (fun t k => ziL X0 (bx at_100) rfl (zjY X0 (bx at_102) 113 (feq (by decide : ¬ (1 : Int32) = (0 : Int32))).2 (ziL X0 (bx at_113) rfl (zcI X0 (bx at_115) 1 rfl (zkN X0 (bx at_116) (teq (by decide : (1 : Int32) = (1 : Int32))).2 (zcI X0 (bx at_119) 1 rfl k)))))) ?_
    obtain ⟨T147, h147, k147, X147, e147, E147, A147, st147⟩ := newP X0 hx hZ (aty := .char) (Wd0 hw) e0 (g := (mkF m 120 #[vI p0, vI p1, vI p2, vI p3, vI v61_58, vI v61_59, vI v72_62, vI v84_65, vI 1, .unset, .unset, .unset, .unset, .unset, .unset, .unset] [(.int 1)])) rfl (bx at_120).2 rfl (by decide) (cap := 1) (by decide) (by decide) (nl rfl) (nl rfl)
    obtain ⟨b147, g147⟩ : ∃ z, z = h0.size := ⟨_, rfl⟩
    rw [← g147] at A147 st147
    have V147 : Arv Z h147 b147 k147 .char (1 : Int32) [(.int 0)] (.int 0) := (Arv.new A147 (by decide)).pad (pad_rep [] (.int 0) 1)
    refine ODH.go (B := (T147.setTop (mkF m 122 #[vI p0, vI p1, vI p2, vI p3, vI v61_58, vI v61_59, vI v72_62, vI v84_65, vI 1, .unset, .unset, .unset, .unset, .unset, .unset, .unset] [(.ref b147)]))) st147 ?_
    have ch148 := ch0.trans (CHr.ext E147 ch0.1)
    refine ODH.at 126 (fun t k => XS.dup X147.here hx rfl (bx at_122).2 rfl rfl (zcI X147 (bx at_123) 0 rfl (ziL X147 (bx at_124) rfl k))) ?_
    obtain ⟨cl149, Ar149, q149, S149, M149, H149, G149⟩ := id V147
    obtain ⟨T149, h149, X149, e149, W149, st149⟩ := stC X147 hx hZ e147 Ar149 (j := (0 : Int32)) (inb_of S149 ⟨by decide, by decide⟩) (g := (mkF m 126 #[vI p0, vI p1, vI p2, vI p3, vI v61_58, vI v61_59, vI v72_62, vI v84_65, vI 1, .unset, .unset, .unset, .unset, .unset, .unset, .unset] [(.int v61_58), (.int 0), (.ref b147), (.ref b147)])) rfl rfl (bx at_126).2
    rw [(own_nc rv61_58.1 rv61_58.2)] at W149
    have V149 : Arv Z h149 b147 k147 .char (1 : Int32) [(.int v61_58)] (.int 0) := Arv.set Ar149 q149 S149 M149 H149 G149 ((own_nc rv61_58.1 rv61_58.2) ▸ fits_nar_char _) W149 0 rfl (nl rfl)
    have N149 := Fr.snoc X149 N0 (nT Nat.le.refl (nE g147))
    refine ODH.go (B := (T149.setTop (mkF m 127 #[vI p0, vI p1, vI p2, vI p3, vI v61_58, vI v61_59, vI v72_62, vI v84_65, vI 1, .unset, .unset, .unset, .unset, .unset, .unset, .unset] [(.ref b147)]))) st149 ?_
    have ch150 := ch148.trans (CHr.wr W149 (own_safeArv hZ.alike V147 (by decide)) ch148.1)
    refine ODH.at 147 (fun t k => zaS X149 (bx at_127) rfl #[vI p0, vI p1, vI p2, vI p3, vI v61_58, vI v61_59, vI v72_62, vI v84_65, vI 1, vR b147, .unset, .unset, .unset, .unset, .unset, .unset] rfl (zgO X149 (bx at_129) 147 k)) ?_
    obtain ⟨T151, h151, X151, e151, E151, A151, D151, -, st151⟩ := newO X149 hx hZ hown (Wd1 hw) (Wd2 hw) (Wd3 hw) e149 (g := (mkF m 147 #[vI p0, vI p1, vI p2, vI p3, vI v61_58, vI v61_59, vI v72_62, vI v84_65, vI 1, vR b147, .unset, .unset, .unset, .unset, .unset, .unset] [])) rfl (bx at_147).2 (nl rfl) (nl rfl)
    obtain ⟨b151, g151⟩ : ∃ z, z = h149.size := ⟨_, rfl⟩
    rw [← g151] at A151 D151 st151
    have Fn152 : Fld Z h151 b151 zZ0 "coder" "B" (.int 0) := D151 (Or.inr (Wd27 hw)) (ty := .byte) (by decide)
    have Fn153 : Fld Z h151 b151 zZ0 "value" "[B" .null := D151 (Or.inr (Wd29 hw)) (ty := (.array .byte)) (by decide)
    refine ODH.go (B := (T151.setTop (mkF m 150 #[vI p0, vI p1, vI p2, vI p3, vI v61_58, vI v61_59, vI v72_62, vI v84_65, vI 1, vR b147, .unset, .unset, .unset, .unset, .unset, .unset] [(.ref b151)]))) st151 ?_
    have ch154 := ch150.trans (CHr.ext E151 ch150.1)
    refine ODH.at 153 (fun t k => XS.dup X151.here hx rfl (bx at_150).2 rfl rfl (zaL X151 (bx at_151) rfl rfl k)) ?_
    have f155 := (V149.ext E151)
    refine ODH.cI X151 (bx at_153) hZ hown hml Wd4 Wd5 Wd3 Wd6 pd44 (rmS1_1 hw b151 b147 h151 h0.size (((X00.ext E147).wr W149 (nT Nat.le.refl (nE g147))).ext E151) SS (nT (nT (nT Nat.le.refl E147.1) (Keep.of_wr W149).1) E151.1) A151 Fn153 Fn152 (nT (nT (nT Nat.le.refl E147.1) (Keep.of_wr W149).1) (nE g151)) k147 v61_58 f155 rv61_58.1 rv61_58.2) e151 rfl (fun v156 T156 L156 X156 hQ156 => ?_)
    obtain ⟨rfl, Nq156, K156, t156, ob156, S156⟩ := hQ156
    have N156 := Fr.app N149 Nq156
    have gbt156 : h0.size ≤ t156 := nT (nT (nT (nT Nat.le.refl E147.1) (Keep.of_wr W149).1) E151.1) ob156
    have ch157 := ch154.trans (CHr.keep K156 (fun x hx => by simp only [List.mem_cons, List.not_mem_nil, or_false] at hx; rcases hx with rfl <;> first | exact (own_safeNull hZ.alike A151 Fn153)) ch154.1)
    refine ODH.at 158 (fun t k => zaS X156 (bx at_156) rfl #[vI p0, vI p1, vI p2, vI p3, vI v61_58, vI v61_59, vI v72_62, vI v84_65, vI 1, vR b147, vR b151, .unset, .unset, .unset, .unset, .unset] rfl k) ?_
    rcases hon with q | q
    · subst q
      refine ODH.at 181 (fun t k => ziL X156 (bx at_158) rfl (zjY X156 (bx at_160) 181 (teq (by decide : (0 : Int32) = (0 : Int32))).1 k)) ?_
      obtain ⟨T158, h158, X158, e158, E158, A158, D158, -, st158⟩ := newO X156 hx hZ hown (Wd1 hw) (Wd2 hw) (Wd3 hw) rfl (g := (mkF m 181 #[vI p0, vI p1, vI p2, vI p3, vI v61_58, vI v61_59, vI v72_62, vI 0, vI 1, vR b147, vR b151, .unset, .unset, .unset, .unset, .unset] [])) rfl (bx at_181).2 (nl rfl) (nl rfl)
      obtain ⟨b158, g158⟩ : ∃ z, z = T156.heap.size := ⟨_, rfl⟩
      rw [← g158] at A158 D158 st158
      have Fn159 : Fld Z h158 b158 zZ0 "coder" "B" (.int 0) := D158 (Or.inr (Wd27 hw)) (ty := .byte) (by decide)
      have Fn160 : Fld Z h158 b158 zZ0 "value" "[B" .null := D158 (Or.inr (Wd29 hw)) (ty := (.array .byte)) (by decide)
      refine ODH.go (B := (T158.setTop (mkF m 184 #[vI p0, vI p1, vI p2, vI p3, vI v61_58, vI v61_59, vI v72_62, vI 0, vI 1, vR b147, vR b151, .unset, .unset, .unset, .unset, .unset] [(.ref b158)]))) st158 ?_
      have ch161 := ch157.trans (CHr.ext E158 ch157.1)
      refine ODH.at 186 (fun t k => XS.dup X158.here hx rfl (bx at_184).2 rfl rfl (zcI X158 (bx at_185) 0 rfl k)) ?_
      obtain ⟨T162, h162, k162, X162, e162, E162, A162, st162⟩ := newP X158 hx hZ (aty := .char) (Wd0 hw) e158 (g := (mkF m 186 #[vI p0, vI p1, vI p2, vI p3, vI v61_58, vI v61_59, vI v72_62, vI 0, vI 1, vR b147, vR b151, .unset, .unset, .unset, .unset, .unset] [(.int 0), (.ref b158), (.ref b158)])) rfl (bx at_186).2 rfl (by decide) (cap := 0) (by decide) (by decide) (nl rfl) (nl rfl)
      obtain ⟨b162, g162⟩ : ∃ z, z = h158.size := ⟨_, rfl⟩
      rw [← g162] at A162 st162
      have V162 : Arv Z h162 b162 k162 .char (0 : Int32) [] (.int 0) := Arv.new A162 (by decide)
      refine ODH.go (B := (T162.setTop (mkF m 188 #[vI p0, vI p1, vI p2, vI p3, vI v61_58, vI v61_59, vI v72_62, vI 0, vI 1, vR b147, vR b151, .unset, .unset, .unset, .unset, .unset] [(.ref b162), (.ref b158), (.ref b158)]))) st162 ?_
      have ch163 := ch161.trans (CHr.ext E162 ch161.1)
      have f164 := (A158.ext E162)
      have f165 := (Fn160.ext E162)
      have f166 := (Fn159.ext E162)
      obtain ⟨_, _, ⟨T167, L167, k167, n167⟩, -, X167, hs167, gr167, ⟨Lc167, hQ167, l167, y167, z167, cr167⟩, st167⟩ := X162.specialBackS hx (y := ⟨zZ0, "<init>", "([C)V"⟩) rfl hown (mvT hZ (Wd4 hw)) (mvT hZ (Wd5 hw)) (mvT hZ (Wd6 hw)) (by decide) (backOfSH (W := 1) (rmE1 hw b158 b162 h162 h0.size (nT (nT (nT (nT (nT (nT Nat.le.refl E147.1) (Keep.of_wr W149).1) E151.1) K156.1) E158.1) E162.1) f164 f165 f166 (nT (nT (nT (nT (nT Nat.le.refl E147.1) (Keep.of_wr W149).1) E151.1) K156.1) (nE g158)) k162 V162) hZ (Wd6 hw) (Wd3 hw) (by decide) (by decide) (EL_in hw) ch163.1) (g := (mkF m 188 #[vI p0, vI p1, vI p2, vI p3, vI v61_58, vI v61_59, vI v72_62, vI 0, vI 1, vR b147, vR b151, .unset, .unset, .unset, .unset, .unset] [(.ref b162), (.ref b158), (.ref b158)])) rfl (by rw [hml]; rfl) (Steps.refl _) (a := b158) (argsL := [(.ref b162)]) (rest := [(.ref b158)]) (lenOf pd44 rfl) rfl (by show 2 * 0 + _ ≤ _; exact Nat.le_of_eq rfl) (bx at_188).2 (fun _ _ => ⟨rfl, e162, (nl rfl), (nl rfl)⟩)
      dsimp only [Pt.U, Pt.locs, Pt.cells, Pt.slots] at X167 l167 y167 z167 st167 hQ167 hs167 gr167 cr167
      subst l167 y167 z167
      have X167 : Stand p l e _ (s.setVm T167.vm) m _ below meth c T167 _ _ _ := X167
      have hZ : Z.Warmed39 (s.setVm T167.vm).vm := State.Warmed39.trans (t := (s.setVm s.vm)) hZ hs167.1
      have hown : (s.setVm T167.vm).vm.findClass zZ5 = some m.cls := by rw [show (s.setVm T167.vm).vm = T167.vm from rfl, hs167.1.alike.findClass]; exact hown
      have hS167 : s.Since T167.vm T167.heap.size := hS0.trans hs167 (nT (by rw [e162]; exact (nT (nT (nT (nT (nT (nT hk0 E147.1) (Keep.of_wr W149).1) E151.1) K156.1) E158.1) E162.1)) gr167)
      have hk167 : T167.heap.size ≤ T167.heap.size := Nat.le_refl _
      have ch167 := ch163.trans cr167
      obtain ⟨rfl, Nq167, K167, E167, C167, t167, kb167, nt167, V167, A167⟩ := hQ167
      have N167 := Fr.app N156 Nq167
      refine ODH.via (B := (T167.setTop (mkF m 191 #[vI p0, vI p1, vI p2, vI p3, vI v61_58, vI v61_59, vI v72_62, vI 0, vI 1, vR b147, vR b151, .unset, .unset, .unset, .unset, .unset] [(.ref b158)]))) st167 ?_
      have Se168 : Strg Z T167.heap b158 t167 [] := own_str0 E167 C167 V167 A167
      refine ODH.at 193 (fun t k => zaS X167 (bx at_191) rfl #[vI p0, vI p1, vI p2, vI p3, vI v61_58, vI v61_59, vI v72_62, vI 0, vI 1, vR b147, vR b151, vR b158, .unset, .unset, .unset, .unset] rfl k) ?_
      exact tail _ _ _ ([v61_58] : List Int32) ([] : List Int32) _ _ _ _ _ _ _ _ _ _ (Or.inr (Or.inl ⟨rfl, rfl⟩)) (Or.inl ⟨rfl, rfl⟩) (nl rfl) (nl rfl) X167 rfl hZ hown hS167 hk167 ch167 N167 (((((((X00.ext E147).wr W149 (nT Nat.le.refl (nE g147))).ext E151).keep K156 (allS (nT (nT (nT Nat.le.refl E147.1) (Keep.of_wr W149).1) (nE g151)) all0)).ext E158).ext E162).keep K167 (allS (nT (nT (nT (nT (nT Nat.le.refl E147.1) (Keep.of_wr W149).1) E151.1) K156.1) (nE g158)) all0)) (nT (nT (nT (nT (nT (nT (nT Nat.le.refl E147.1) (Keep.of_wr W149).1) E151.1) K156.1) E158.1) E162.1) K167.1) (((S156.ext E158).ext E162).keep K167 (ninS (nN (nU A151.lt K156.1) (nE g158)) nin0) (ninS (nN (Strg.two S156).lt (nE g158)) nin0)) Se168
    · subst q
      refine ODH.at 163 (fun t k => ziL X156 (bx at_158) rfl (zjN X156 (bx at_160) (feq (by decide : ¬ (1 : Int32) = (0 : Int32))).1 k)) ?_
      obtain ⟨T169, h169, X169, e169, E169, A169, D169, -, st169⟩ := newO X156 hx hZ hown (Wd1 hw) (Wd2 hw) (Wd3 hw) rfl (g := (mkF m 163 #[vI p0, vI p1, vI p2, vI p3, vI v61_58, vI v61_59, vI v72_62, vI 1, vI 1, vR b147, vR b151, .unset, .unset, .unset, .unset, .unset] [])) rfl (bx at_163).2 (nl rfl) (nl rfl)
      obtain ⟨b169, g169⟩ : ∃ z, z = T156.heap.size := ⟨_, rfl⟩
      rw [← g169] at A169 D169 st169
      have Fn170 : Fld Z h169 b169 zZ0 "coder" "B" (.int 0) := D169 (Or.inr (Wd27 hw)) (ty := .byte) (by decide)
      have Fn171 : Fld Z h169 b169 zZ0 "value" "[B" .null := D169 (Or.inr (Wd29 hw)) (ty := (.array .byte)) (by decide)
      refine ODH.go (B := (T169.setTop (mkF m 166 #[vI p0, vI p1, vI p2, vI p3, vI v61_58, vI v61_59, vI v72_62, vI 1, vI 1, vR b147, vR b151, .unset, .unset, .unset, .unset, .unset] [(.ref b169)]))) st169 ?_
      have ch172 := ch157.trans (CHr.ext E169 ch157.1)
      refine ODH.at 168 (fun t k => XS.dup X169.here hx rfl (bx at_166).2 rfl rfl (zcI X169 (bx at_167) 1 rfl k)) ?_
      obtain ⟨T173, h173, k173, X173, e173, E173, A173, st173⟩ := newP X169 hx hZ (aty := .char) (Wd0 hw) e169 (g := (mkF m 168 #[vI p0, vI p1, vI p2, vI p3, vI v61_58, vI v61_59, vI v72_62, vI 1, vI 1, vR b147, vR b151, .unset, .unset, .unset, .unset, .unset] [(.int 1), (.ref b169), (.ref b169)])) rfl (bx at_168).2 rfl (by decide) (cap := 1) (by decide) (by decide) (nl rfl) (nl rfl)
      obtain ⟨b173, g173⟩ : ∃ z, z = h169.size := ⟨_, rfl⟩
      rw [← g173] at A173 st173
      have V173 : Arv Z h173 b173 k173 .char (1 : Int32) [(.int 0)] (.int 0) := (Arv.new A173 (by decide)).pad (pad_rep [] (.int 0) 1)
      refine ODH.go (B := (T173.setTop (mkF m 170 #[vI p0, vI p1, vI p2, vI p3, vI v61_58, vI v61_59, vI v72_62, vI 1, vI 1, vR b147, vR b151, .unset, .unset, .unset, .unset, .unset] [(.ref b173), (.ref b169), (.ref b169)]))) st173 ?_
      have ch174 := ch172.trans (CHr.ext E173 ch172.1)
      refine ODH.at 174 (fun t k => XS.dup X173.here hx rfl (bx at_170).2 rfl rfl (zcI X173 (bx at_171) 0 rfl (ziL X173 (bx at_172) rfl k))) ?_
      obtain ⟨cl175, Ar175, q175, S175, M175, H175, G175⟩ := id V173
      obtain ⟨T175, h175, X175, e175, W175, st175⟩ := stC X173 hx hZ e173 Ar175 (j := (0 : Int32)) (inb_of S175 ⟨by decide, by decide⟩) (g := (mkF m 174 #[vI p0, vI p1, vI p2, vI p3, vI v61_58, vI v61_59, vI v72_62, vI 1, vI 1, vR b147, vR b151, .unset, .unset, .unset, .unset, .unset] [(.int v72_62), (.int 0), (.ref b173), (.ref b173), (.ref b169), (.ref b169)])) rfl rfl (bx at_174).2
      rw [(own_nc rv72_62.1 rv72_62.2)] at W175
      have V175 : Arv Z h175 b173 k173 .char (1 : Int32) [(.int v72_62)] (.int 0) := Arv.set Ar175 q175 S175 M175 H175 G175 ((own_nc rv72_62.1 rv72_62.2) ▸ fits_nar_char _) W175 0 rfl (nl rfl)
      have N175 := Fr.snoc X175 N156 (nT (nT (nT (nT (nT (nT Nat.le.refl E147.1) (Keep.of_wr W149).1) E151.1) K156.1) E169.1) (nE g173))
      refine ODH.go (B := (T175.setTop (mkF m 175 #[vI p0, vI p1, vI p2, vI p3, vI v61_58, vI v61_59, vI v72_62, vI 1, vI 1, vR b147, vR b151, .unset, .unset, .unset, .unset, .unset] [(.ref b173), (.ref b169), (.ref b169)]))) st175 ?_
      have ch176 := ch174.trans (CHr.wr W175 (own_safeArv hZ.alike V173 (by decide)) ch174.1)
      have f177 := ((A169.ext E173).wr W175)
      have f178 := ((Fn171.ext E173).other W175 (Or.inl (nN A169.lt (nE g173))))
      have f179 := ((Fn170.ext E173).other W175 (Or.inl (nN A169.lt (nE g173))))
      refine ODH.cI X175 (bx at_175) hZ hown hml Wd4 Wd5 Wd3 Wd6 pd44 (rmS1_1 hw b169 b173 h175 h0.size (((((((X00.ext E147).wr W149 (nT Nat.le.refl (nE g147))).ext E151).keep K156 (allS (nT (nT (nT Nat.le.refl E147.1) (Keep.of_wr W149).1) (nE g151)) all0)).ext E169).ext E173).wr W175 (nT (nT (nT (nT (nT (nT Nat.le.refl E147.1) (Keep.of_wr W149).1) E151.1) K156.1) E169.1) (nE g173))) SS (nT (nT (nT (nT (nT (nT (nT Nat.le.refl E147.1) (Keep.of_wr W149).1) E151.1) K156.1) E169.1) E173.1) (Keep.of_wr W175).1) f177 f178 f179 (nT (nT (nT (nT (nT Nat.le.refl E147.1) (Keep.of_wr W149).1) E151.1) K156.1) (nE g169)) k173 v72_62 V175 rv72_62.1 rv72_62.2) e175 rfl (fun v180 T180 L180 X180 hQ180 => ?_)
      obtain ⟨rfl, Nq180, K180, t180, ob180, S180⟩ := hQ180
      have N180 := Fr.app N175 Nq180
      have gbt180 : h0.size ≤ t180 := nT (nT (nT (nT (nT (nT (nT (nT Nat.le.refl E147.1) (Keep.of_wr W149).1) E151.1) K156.1) E169.1) E173.1) (Keep.of_wr W175).1) ob180
      have ch181 := ch176.trans (CHr.keep K180 (fun x hx => by simp only [List.mem_cons, List.not_mem_nil, or_false] at hx; rcases hx with rfl <;> first | exact (own_safeNull hZ.alike ((A169.ext E173).wr W175) ((Fn171.ext E173).other W175 (Or.inl (nN A169.lt (nE g173)))))) ch176.1)
      refine ODH.at 193 (fun t k => zgO X180 (bx at_178) 191 (zaS X180 (bx at_191) rfl #[vI p0, vI p1, vI p2, vI p3, vI v61_58, vI v61_59, vI v72_62, vI 1, vI 1, vR b147, vR b151, vR b169, .unset, .unset, .unset, .unset] rfl k)) ?_
      exact tail _ _ _ ([v61_58] : List Int32) ([v72_62] : List Int32) _ _ _ _ _ _ _ _ _ _ (Or.inr (Or.inl ⟨rfl, rfl⟩)) (Or.inr ⟨rfl, rfl⟩) (nl rfl) (nl rfl) X180 rfl hZ hown hS0 (nT (nT (nT (nT (nT (nT (nT (nT hk0 E147.1) (Keep.of_wr W149).1) E151.1) K156.1) E169.1) E173.1) (Keep.of_wr W175).1) K180.1) ch181 N180 ((((((((X00.ext E147).wr W149 (nT Nat.le.refl (nE g147))).ext E151).keep K156 (allS (nT (nT (nT Nat.le.refl E147.1) (Keep.of_wr W149).1) (nE g151)) all0)).ext E169).ext E173).wr W175 (nT (nT (nT (nT (nT (nT Nat.le.refl E147.1) (Keep.of_wr W149).1) E151.1) K156.1) E169.1) (nE g173))).keep K180 (allS (nT (nT (nT (nT (nT Nat.le.refl E147.1) (Keep.of_wr W149).1) E151.1) K156.1) (nE g169)) all0)) (nT (nT (nT (nT (nT (nT (nT (nT Nat.le.refl E147.1) (Keep.of_wr W149).1) E151.1) K156.1) E169.1) E173.1) (Keep.of_wr W175).1) K180.1) ((((S156.ext E169).ext E173).wr W175 (nN (nU (nU A151.lt K156.1) E169.1) (nE g173)) (nN (nU (Strg.two S156).lt E169.1) (nE g173))).keep K180 (ninS (nN (nU A151.lt K156.1) (nE g169)) nin0) (ninS (nN (Strg.two S156).lt (nE g169)) nin0)) S180
  · subst q
    refine ODH.at 133 (fun t k => ziL X0 (bx at_100) rfl (zjY X0 (bx at_102) 113 (feq (by decide : ¬ (2 : Int32) = (0 : Int32))).2 (ziL X0 (bx at_113) rfl (zcI X0 (bx at_115) 1 rfl (zkY X0 (bx at_116) 132 (feq (by decide : ¬ (2 : Int32) = (1 : Int32))).2 (zcI X0 (bx at_132) 2 rfl k)))))) ?_
    obtain ⟨T182, h182, k182, X182, e182, E182, A182, st182⟩ := newP X0 hx hZ (aty := .char) (Wd0 hw) e0 (g := (mkF m 133 #[vI p0, vI p1, vI p2, vI p3, vI v61_58, vI v61_59, vI v72_62, vI v84_65, vI 2, .unset, .unset, .unset, .unset, .unset, .unset, .unset] [(.int 2)])) rfl (bx at_133).2 rfl (by decide) (cap := 2) (by decide) (by decide) (nl rfl) (nl rfl)
    obtain ⟨b182, g182⟩ : ∃ z, z = h0.size := ⟨_, rfl⟩
    rw [← g182] at A182 st182
    have V182 : Arv Z h182 b182 k182 .char (2 : Int32) [(.int 0), (.int 0)] (.int 0) := (Arv.new A182 (by decide)).pad (pad_rep [] (.int 0) 2)
    refine ODH.go (B := (T182.setTop (mkF m 135 #[vI p0, vI p1, vI p2, vI p3, vI v61_58, vI v61_59, vI v72_62, vI v84_65, vI 2, .unset, .unset, .unset, .unset, .unset, .unset, .unset] [(.ref b182)]))) st182 ?_
    have ch183 := ch0.trans (CHr.ext E182 ch0.1)
    refine ODH.at 139 (fun t k => XS.dup X182.here hx rfl (bx at_135).2 rfl rfl (zcI X182 (bx at_136) 0 rfl (ziL X182 (bx at_137) rfl k))) ?_
    obtain ⟨cl184, Ar184, q184, S184, M184, H184, G184⟩ := id V182
    obtain ⟨T184, h184, X184, e184, W184, st184⟩ := stC X182 hx hZ e182 Ar184 (j := (0 : Int32)) (inb_of S184 ⟨by decide, by decide⟩) (g := (mkF m 139 #[vI p0, vI p1, vI p2, vI p3, vI v61_58, vI v61_59, vI v72_62, vI v84_65, vI 2, .unset, .unset, .unset, .unset, .unset, .unset, .unset] [(.int v61_58), (.int 0), (.ref b182), (.ref b182)])) rfl rfl (bx at_139).2
    rw [(own_nc rv61_58.1 rv61_58.2)] at W184
    have V184 : Arv Z h184 b182 k182 .char (2 : Int32) [(.int v61_58), (.int 0)] (.int 0) := Arv.set Ar184 q184 S184 M184 H184 G184 ((own_nc rv61_58.1 rv61_58.2) ▸ fits_nar_char _) W184 0 rfl (nl rfl)
    have N184 := Fr.snoc X184 N0 (nT Nat.le.refl (nE g182))
    refine ODH.go (B := (T184.setTop (mkF m 140 #[vI p0, vI p1, vI p2, vI p3, vI v61_58, vI v61_59, vI v72_62, vI v84_65, vI 2, .unset, .unset, .unset, .unset, .unset, .unset, .unset] [(.ref b182)]))) st184 ?_
    have ch185 := ch183.trans (CHr.wr W184 (own_safeArv hZ.alike V182 (by decide)) ch183.1)
    refine ODH.at 144 (fun t k => XS.dup X184.here hx rfl (bx at_140).2 rfl rfl (zcI X184 (bx at_141) 1 rfl (ziL X184 (bx at_142) rfl k))) ?_
    obtain ⟨cl186, Ar186, q186, S186, M186, H186, G186⟩ := id V184
    obtain ⟨T186, h186, X186, e186, W186, st186⟩ := stC X184 hx hZ e184 Ar186 (j := (1 : Int32)) (inb_of S186 ⟨by decide, by decide⟩) (g := (mkF m 144 #[vI p0, vI p1, vI p2, vI p3, vI v61_58, vI v61_59, vI v72_62, vI v84_65, vI 2, .unset, .unset, .unset, .unset, .unset, .unset, .unset] [(.int v61_59), (.int 1), (.ref b182), (.ref b182)])) rfl rfl (bx at_144).2
    rw [(own_nc rv61_59.1 rv61_59.2)] at W186
    have V186 : Arv Z h186 b182 k182 .char (2 : Int32) [(.int v61_58), (.int v61_59)] (.int 0) := Arv.set Ar186 q186 S186 M186 H186 G186 ((own_nc rv61_59.1 rv61_59.2) ▸ fits_nar_char _) W186 1 rfl (nl rfl)
    have N186 := Fr.snoc X186 N184 (nT Nat.le.refl (nE g182))
    refine ODH.go (B := (T186.setTop (mkF m 145 #[vI p0, vI p1, vI p2, vI p3, vI v61_58, vI v61_59, vI v72_62, vI v84_65, vI 2, .unset, .unset, .unset, .unset, .unset, .unset, .unset] [(.ref b182)]))) st186 ?_
    have ch187 := ch185.trans (CHr.wr W186 (own_safeArv hZ.alike V184 (by decide)) ch185.1)
    refine ODH.at 147 (fun t k => zaS X186 (bx at_145) rfl #[vI p0, vI p1, vI p2, vI p3, vI v61_58, vI v61_59, vI v72_62, vI v84_65, vI 2, vR b182, .unset, .unset, .unset, .unset, .unset, .unset] rfl k) ?_
    obtain ⟨T188, h188, X188, e188, E188, A188, D188, -, st188⟩ := newO X186 hx hZ hown (Wd1 hw) (Wd2 hw) (Wd3 hw) e186 (g := (mkF m 147 #[vI p0, vI p1, vI p2, vI p3, vI v61_58, vI v61_59, vI v72_62, vI v84_65, vI 2, vR b182, .unset, .unset, .unset, .unset, .unset, .unset] [])) rfl (bx at_147).2 (nl rfl) (nl rfl)
    obtain ⟨b188, g188⟩ : ∃ z, z = h186.size := ⟨_, rfl⟩
    rw [← g188] at A188 D188 st188
    have Fn189 : Fld Z h188 b188 zZ0 "coder" "B" (.int 0) := D188 (Or.inr (Wd27 hw)) (ty := .byte) (by decide)
    have Fn190 : Fld Z h188 b188 zZ0 "value" "[B" .null := D188 (Or.inr (Wd29 hw)) (ty := (.array .byte)) (by decide)
    refine ODH.go (B := (T188.setTop (mkF m 150 #[vI p0, vI p1, vI p2, vI p3, vI v61_58, vI v61_59, vI v72_62, vI v84_65, vI 2, vR b182, .unset, .unset, .unset, .unset, .unset, .unset] [(.ref b188)]))) st188 ?_
    have ch191 := ch187.trans (CHr.ext E188 ch187.1)
    refine ODH.at 153 (fun t k => XS.dup X188.here hx rfl (bx at_150).2 rfl rfl (zaL X188 (bx at_151) rfl rfl k)) ?_
    have f192 := (V186.ext E188)
    refine ODH.cI X188 (bx at_153) hZ hown hml Wd4 Wd5 Wd3 Wd6 pd44 (rmS1_2 hw b188 b182 h188 h0.size ((((X00.ext E182).wr W184 (nT Nat.le.refl (nE g182))).wr W186 (nT Nat.le.refl (nE g182))).ext E188) SS (nT (nT (nT (nT Nat.le.refl E182.1) (Keep.of_wr W184).1) (Keep.of_wr W186).1) E188.1) A188 Fn190 Fn189 (nT (nT (nT (nT Nat.le.refl E182.1) (Keep.of_wr W184).1) (Keep.of_wr W186).1) (nE g188)) k182 v61_58 v61_59 f192 rv61_58.1 rv61_58.2 rv61_59.1 rv61_59.2) e188 rfl (fun v193 T193 L193 X193 hQ193 => ?_)
    obtain ⟨rfl, Nq193, K193, t193, ob193, S193⟩ := hQ193
    have N193 := Fr.app N186 Nq193
    have gbt193 : h0.size ≤ t193 := nT (nT (nT (nT (nT Nat.le.refl E182.1) (Keep.of_wr W184).1) (Keep.of_wr W186).1) E188.1) ob193
    have ch194 := ch191.trans (CHr.keep K193 (fun x hx => by simp only [List.mem_cons, List.not_mem_nil, or_false] at hx; rcases hx with rfl <;> first | exact (own_safeNull hZ.alike A188 Fn190)) ch191.1)
    refine ODH.at 158 (fun t k => zaS X193 (bx at_156) rfl #[vI p0, vI p1, vI p2, vI p3, vI v61_58, vI v61_59, vI v72_62, vI v84_65, vI 2, vR b182, vR b188, .unset, .unset, .unset, .unset, .unset] rfl k) ?_
    rcases hon with q | q
    · subst q
      refine ODH.at 181 (fun t k => ziL X193 (bx at_158) rfl (zjY X193 (bx at_160) 181 (teq (by decide : (0 : Int32) = (0 : Int32))).1 k)) ?_
      obtain ⟨T195, h195, X195, e195, E195, A195, D195, -, st195⟩ := newO X193 hx hZ hown (Wd1 hw) (Wd2 hw) (Wd3 hw) rfl (g := (mkF m 181 #[vI p0, vI p1, vI p2, vI p3, vI v61_58, vI v61_59, vI v72_62, vI 0, vI 2, vR b182, vR b188, .unset, .unset, .unset, .unset, .unset] [])) rfl (bx at_181).2 (nl rfl) (nl rfl)
      obtain ⟨b195, g195⟩ : ∃ z, z = T193.heap.size := ⟨_, rfl⟩
      rw [← g195] at A195 D195 st195
      have Fn196 : Fld Z h195 b195 zZ0 "coder" "B" (.int 0) := D195 (Or.inr (Wd27 hw)) (ty := .byte) (by decide)
      have Fn197 : Fld Z h195 b195 zZ0 "value" "[B" .null := D195 (Or.inr (Wd29 hw)) (ty := (.array .byte)) (by decide)
      refine ODH.go (B := (T195.setTop (mkF m 184 #[vI p0, vI p1, vI p2, vI p3, vI v61_58, vI v61_59, vI v72_62, vI 0, vI 2, vR b182, vR b188, .unset, .unset, .unset, .unset, .unset] [(.ref b195)]))) st195 ?_
      have ch198 := ch194.trans (CHr.ext E195 ch194.1)
      refine ODH.at 186 (fun t k => XS.dup X195.here hx rfl (bx at_184).2 rfl rfl (zcI X195 (bx at_185) 0 rfl k)) ?_
      obtain ⟨T199, h199, k199, X199, e199, E199, A199, st199⟩ := newP X195 hx hZ (aty := .char) (Wd0 hw) e195 (g := (mkF m 186 #[vI p0, vI p1, vI p2, vI p3, vI v61_58, vI v61_59, vI v72_62, vI 0, vI 2, vR b182, vR b188, .unset, .unset, .unset, .unset, .unset] [(.int 0), (.ref b195), (.ref b195)])) rfl (bx at_186).2 rfl (by decide) (cap := 0) (by decide) (by decide) (nl rfl) (nl rfl)
      obtain ⟨b199, g199⟩ : ∃ z, z = h195.size := ⟨_, rfl⟩
      rw [← g199] at A199 st199
      have V199 : Arv Z h199 b199 k199 .char (0 : Int32) [] (.int 0) := Arv.new A199 (by decide)
      refine ODH.go (B := (T199.setTop (mkF m 188 #[vI p0, vI p1, vI p2, vI p3, vI v61_58, vI v61_59, vI v72_62, vI 0, vI 2, vR b182, vR b188, .unset, .unset, .unset, .unset, .unset] [(.ref b199), (.ref b195), (.ref b195)]))) st199 ?_
      have ch200 := ch198.trans (CHr.ext E199 ch198.1)
      have f201 := (A195.ext E199)
      have f202 := (Fn197.ext E199)
      have f203 := (Fn196.ext E199)
      obtain ⟨_, _, ⟨T204, L204, k204, n204⟩, -, X204, hs204, gr204, ⟨Lc204, hQ204, l204, y204, z204, cr204⟩, st204⟩ := X199.specialBackS hx (y := ⟨zZ0, "<init>", "([C)V"⟩) rfl hown (mvT hZ (Wd4 hw)) (mvT hZ (Wd5 hw)) (mvT hZ (Wd6 hw)) (by decide) (backOfSH (W := 1) (rmE1 hw b195 b199 h199 h0.size (nT (nT (nT (nT (nT (nT (nT Nat.le.refl E182.1) (Keep.of_wr W184).1) (Keep.of_wr W186).1) E188.1) K193.1) E195.1) E199.1) f201 f202 f203 (nT (nT (nT (nT (nT (nT Nat.le.refl E182.1) (Keep.of_wr W184).1) (Keep.of_wr W186).1) E188.1) K193.1) (nE g195)) k199 V199) hZ (Wd6 hw) (Wd3 hw) (by decide) (by decide) (EL_in hw) ch200.1) (g := (mkF m 188 #[vI p0, vI p1, vI p2, vI p3, vI v61_58, vI v61_59, vI v72_62, vI 0, vI 2, vR b182, vR b188, .unset, .unset, .unset, .unset, .unset] [(.ref b199), (.ref b195), (.ref b195)])) rfl (by rw [hml]; rfl) (Steps.refl _) (a := b195) (argsL := [(.ref b199)]) (rest := [(.ref b195)]) (lenOf pd44 rfl) rfl (by show 2 * 0 + _ ≤ _; exact Nat.le_of_eq rfl) (bx at_188).2 (fun _ _ => ⟨rfl, e199, (nl rfl), (nl rfl)⟩)
      dsimp only [Pt.U, Pt.locs, Pt.cells, Pt.slots] at X204 l204 y204 z204 st204 hQ204 hs204 gr204 cr204
      subst l204 y204 z204
      have X204 : Stand p l e _ (s.setVm T204.vm) m _ below meth c T204 _ _ _ := X204
      have hZ : Z.Warmed39 (s.setVm T204.vm).vm := State.Warmed39.trans (t := (s.setVm s.vm)) hZ hs204.1
      have hown : (s.setVm T204.vm).vm.findClass zZ5 = some m.cls := by rw [show (s.setVm T204.vm).vm = T204.vm from rfl, hs204.1.alike.findClass]; exact hown
      have hS204 : s.Since T204.vm T204.heap.size := hS0.trans hs204 (nT (by rw [e199]; exact (nT (nT (nT (nT (nT (nT (nT hk0 E182.1) (Keep.of_wr W184).1) (Keep.of_wr W186).1) E188.1) K193.1) E195.1) E199.1)) gr204)
      have hk204 : T204.heap.size ≤ T204.heap.size := Nat.le_refl _
      have ch204 := ch200.trans cr204
      obtain ⟨rfl, Nq204, K204, E204, C204, t204, kb204, nt204, V204, A204⟩ := hQ204
      have N204 := Fr.app N193 Nq204
      refine ODH.via (B := (T204.setTop (mkF m 191 #[vI p0, vI p1, vI p2, vI p3, vI v61_58, vI v61_59, vI v72_62, vI 0, vI 2, vR b182, vR b188, .unset, .unset, .unset, .unset, .unset] [(.ref b195)]))) st204 ?_
      have Se205 : Strg Z T204.heap b195 t204 [] := own_str0 E204 C204 V204 A204
      refine ODH.at 193 (fun t k => zaS X204 (bx at_191) rfl #[vI p0, vI p1, vI p2, vI p3, vI v61_58, vI v61_59, vI v72_62, vI 0, vI 2, vR b182, vR b188, vR b195, .unset, .unset, .unset, .unset] rfl k) ?_
      exact tail _ _ _ ([v61_58, v61_59] : List Int32) ([] : List Int32) _ _ _ _ _ _ _ _ _ _ (Or.inr (Or.inr ⟨rfl, rfl⟩)) (Or.inl ⟨rfl, rfl⟩) (nl rfl) (nl rfl) X204 rfl hZ hown hS204 hk204 ch204 N204 ((((((((X00.ext E182).wr W184 (nT Nat.le.refl (nE g182))).wr W186 (nT Nat.le.refl (nE g182))).ext E188).keep K193 (allS (nT (nT (nT (nT Nat.le.refl E182.1) (Keep.of_wr W184).1) (Keep.of_wr W186).1) (nE g188)) all0)).ext E195).ext E199).keep K204 (allS (nT (nT (nT (nT (nT (nT Nat.le.refl E182.1) (Keep.of_wr W184).1) (Keep.of_wr W186).1) E188.1) K193.1) (nE g195)) all0)) (nT (nT (nT (nT (nT (nT (nT (nT Nat.le.refl E182.1) (Keep.of_wr W184).1) (Keep.of_wr W186).1) E188.1) K193.1) E195.1) E199.1) K204.1) (((S193.ext E195).ext E199).keep K204 (ninS (nN (nU A188.lt K193.1) (nE g195)) nin0) (ninS (nN (Strg.two S193).lt (nE g195)) nin0)) Se205
    · subst q
      refine ODH.at 163 (fun t k => ziL X193 (bx at_158) rfl (zjN X193 (bx at_160) (feq (by decide : ¬ (1 : Int32) = (0 : Int32))).1 k)) ?_
      obtain ⟨T206, h206, X206, e206, E206, A206, D206, -, st206⟩ := newO X193 hx hZ hown (Wd1 hw) (Wd2 hw) (Wd3 hw) rfl (g := (mkF m 163 #[vI p0, vI p1, vI p2, vI p3, vI v61_58, vI v61_59, vI v72_62, vI 1, vI 2, vR b182, vR b188, .unset, .unset, .unset, .unset, .unset] [])) rfl (bx at_163).2 (nl rfl) (nl rfl)
      obtain ⟨b206, g206⟩ : ∃ z, z = T193.heap.size := ⟨_, rfl⟩
      rw [← g206] at A206 D206 st206
      have Fn207 : Fld Z h206 b206 zZ0 "coder" "B" (.int 0) := D206 (Or.inr (Wd27 hw)) (ty := .byte) (by decide)
      have Fn208 : Fld Z h206 b206 zZ0 "value" "[B" .null := D206 (Or.inr (Wd29 hw)) (ty := (.array .byte)) (by decide)
      refine ODH.go (B := (T206.setTop (mkF m 166 #[vI p0, vI p1, vI p2, vI p3, vI v61_58, vI v61_59, vI v72_62, vI 1, vI 2, vR b182, vR b188, .unset, .unset, .unset, .unset, .unset] [(.ref b206)]))) st206 ?_
      have ch209 := ch194.trans (CHr.ext E206 ch194.1)
      refine ODH.at 168 (fun t k => XS.dup X206.here hx rfl (bx at_166).2 rfl rfl (zcI X206 (bx at_167) 1 rfl k)) ?_
      obtain ⟨T210, h210, k210, X210, e210, E210, A210, st210⟩ := newP X206 hx hZ (aty := .char) (Wd0 hw) e206 (g := (mkF m 168 #[vI p0, vI p1, vI p2, vI p3, vI v61_58, vI v61_59, vI v72_62, vI 1, vI 2, vR b182, vR b188, .unset, .unset, .unset, .unset, .unset] [(.int 1), (.ref b206), (.ref b206)])) rfl (bx at_168).2 rfl (by decide) (cap := 1) (by decide) (by decide) (nl rfl) (nl rfl)
      obtain ⟨b210, g210⟩ : ∃ z, z = h206.size := ⟨_, rfl⟩
      rw [← g210] at A210 st210
      have V210 : Arv Z h210 b210 k210 .char (1 : Int32) [(.int 0)] (.int 0) := (Arv.new A210 (by decide)).pad (pad_rep [] (.int 0) 1)
      refine ODH.go (B := (T210.setTop (mkF m 170 #[vI p0, vI p1, vI p2, vI p3, vI v61_58, vI v61_59, vI v72_62, vI 1, vI 2, vR b182, vR b188, .unset, .unset, .unset, .unset, .unset] [(.ref b210), (.ref b206), (.ref b206)]))) st210 ?_
      have ch211 := ch209.trans (CHr.ext E210 ch209.1)
      refine ODH.at 174 (fun t k => XS.dup X210.here hx rfl (bx at_170).2 rfl rfl (zcI X210 (bx at_171) 0 rfl (ziL X210 (bx at_172) rfl k))) ?_
      obtain ⟨cl212, Ar212, q212, S212, M212, H212, G212⟩ := id V210
      obtain ⟨T212, h212, X212, e212, W212, st212⟩ := stC X210 hx hZ e210 Ar212 (j := (0 : Int32)) (inb_of S212 ⟨by decide, by decide⟩) (g := (mkF m 174 #[vI p0, vI p1, vI p2, vI p3, vI v61_58, vI v61_59, vI v72_62, vI 1, vI 2, vR b182, vR b188, .unset, .unset, .unset, .unset, .unset] [(.int v72_62), (.int 0), (.ref b210), (.ref b210), (.ref b206), (.ref b206)])) rfl rfl (bx at_174).2
      rw [(own_nc rv72_62.1 rv72_62.2)] at W212
      have V212 : Arv Z h212 b210 k210 .char (1 : Int32) [(.int v72_62)] (.int 0) := Arv.set Ar212 q212 S212 M212 H212 G212 ((own_nc rv72_62.1 rv72_62.2) ▸ fits_nar_char _) W212 0 rfl (nl rfl)
      have N212 := Fr.snoc X212 N193 (nT (nT (nT (nT (nT (nT (nT Nat.le.refl E182.1) (Keep.of_wr W184).1) (Keep.of_wr W186).1) E188.1) K193.1) E206.1) (nE g210))
      refine ODH.go (B := (T212.setTop (mkF m 175 #[vI p0, vI p1, vI p2, vI p3, vI v61_58, vI v61_59, vI v72_62, vI 1, vI 2, vR b182, vR b188, .unset, .unset, .unset, .unset, .unset] [(.ref b210), (.ref b206), (.ref b206)]))) st212 ?_
      have ch213 := ch211.trans (CHr.wr W212 (own_safeArv hZ.alike V210 (by decide)) ch211.1)
      have f214 := ((A206.ext E210).wr W212)
      have f215 := ((Fn208.ext E210).other W212 (Or.inl (nN A206.lt (nE g210))))
      have f216 := ((Fn207.ext E210).other W212 (Or.inl (nN A206.lt (nE g210))))
      refine ODH.cI X212 (bx at_175) hZ hown hml Wd4 Wd5 Wd3 Wd6 pd44 (rmS1_1 hw b206 b210 h212 h0.size ((((((((X00.ext E182).wr W184 (nT Nat.le.refl (nE g182))).wr W186 (nT Nat.le.refl (nE g182))).ext E188).keep K193 (allS (nT (nT (nT (nT Nat.le.refl E182.1) (Keep.of_wr W184).1) (Keep.of_wr W186).1) (nE g188)) all0)).ext E206).ext E210).wr W212 (nT (nT (nT (nT (nT (nT (nT Nat.le.refl E182.1) (Keep.of_wr W184).1) (Keep.of_wr W186).1) E188.1) K193.1) E206.1) (nE g210))) SS (nT (nT (nT (nT (nT (nT (nT (nT Nat.le.refl E182.1) (Keep.of_wr W184).1) (Keep.of_wr W186).1) E188.1) K193.1) E206.1) E210.1) (Keep.of_wr W212).1) f214 f215 f216 (nT (nT (nT (nT (nT (nT Nat.le.refl E182.1) (Keep.of_wr W184).1) (Keep.of_wr W186).1) E188.1) K193.1) (nE g206)) k210 v72_62 V212 rv72_62.1 rv72_62.2) e212 rfl (fun v217 T217 L217 X217 hQ217 => ?_)
      obtain ⟨rfl, Nq217, K217, t217, ob217, S217⟩ := hQ217
      have N217 := Fr.app N212 Nq217
      have gbt217 : h0.size ≤ t217 := nT (nT (nT (nT (nT (nT (nT (nT (nT Nat.le.refl E182.1) (Keep.of_wr W184).1) (Keep.of_wr W186).1) E188.1) K193.1) E206.1) E210.1) (Keep.of_wr W212).1) ob217
      have ch218 := ch213.trans (CHr.keep K217 (fun x hx => by simp only [List.mem_cons, List.not_mem_nil, or_false] at hx; rcases hx with rfl <;> first | exact (own_safeNull hZ.alike ((A206.ext E210).wr W212) ((Fn208.ext E210).other W212 (Or.inl (nN A206.lt (nE g210)))))) ch213.1)
      refine ODH.at 193 (fun t k => zgO X217 (bx at_178) 191 (zaS X217 (bx at_191) rfl #[vI p0, vI p1, vI p2, vI p3, vI v61_58, vI v61_59, vI v72_62, vI 1, vI 2, vR b182, vR b188, vR b206, .unset, .unset, .unset, .unset] rfl k)) ?_
      exact tail _ _ _ ([v61_58, v61_59] : List Int32) ([v72_62] : List Int32) _ _ _ _ _ _ _ _ _ _ (Or.inr (Or.inr ⟨rfl, rfl⟩)) (Or.inr ⟨rfl, rfl⟩) (nl rfl) (nl rfl) X217 rfl hZ hown hS0 (nT (nT (nT (nT (nT (nT (nT (nT (nT hk0 E182.1) (Keep.of_wr W184).1) (Keep.of_wr W186).1) E188.1) K193.1) E206.1) E210.1) (Keep.of_wr W212).1) K217.1) ch218 N217 (((((((((X00.ext E182).wr W184 (nT Nat.le.refl (nE g182))).wr W186 (nT Nat.le.refl (nE g182))).ext E188).keep K193 (allS (nT (nT (nT (nT Nat.le.refl E182.1) (Keep.of_wr W184).1) (Keep.of_wr W186).1) (nE g188)) all0)).ext E206).ext E210).wr W212 (nT (nT (nT (nT (nT (nT (nT Nat.le.refl E182.1) (Keep.of_wr W184).1) (Keep.of_wr W186).1) E188.1) K193.1) E206.1) (nE g210))).keep K217 (allS (nT (nT (nT (nT (nT (nT Nat.le.refl E182.1) (Keep.of_wr W184).1) (Keep.of_wr W186).1) E188.1) K193.1) (nE g206)) all0)) (nT (nT (nT (nT (nT (nT (nT (nT (nT Nat.le.refl E182.1) (Keep.of_wr W184).1) (Keep.of_wr W186).1) E188.1) K193.1) E206.1) E210.1) (Keep.of_wr W212).1) K217.1) ((((S193.ext E206).ext E210).wr W212 (nN (nU (nU A188.lt K193.1) E206.1) (nE g210)) (nN (nU (Strg.two S193).lt E206.1) (nE g210))).keep K217 (ninS (nN (nU A188.lt K193.1) (nE g206)) nin0) (ninS (nN (Strg.two S193).lt (nE g206)) nin0)) S217
set_option maxRecDepth 65536 in
set_option maxHeartbeats 40000000 in
theorem comes_1 {Post : Tables → Env → Array Value → State → Outcome → State → Prop} (hpost : ∀ tb e args s v u, (limb_1_1.after args s (.returned v) u = true ∧ limb_1_2.after args s (.returned v) u = true ∧ True) → ReturnedEndW s (.returned v) u (Jvm.fieldLocs frame_1_writes args s ++ Jvm.arrayLocs frame_1_arrays args s ++ Jvm.staticLocs frame_1_statics s) 72 2432 → Post tb e args s (.returned v) u) :
    ArmFor flags0 classFile x code maxLocals ret World_1 tables_1 room_1 Calls_1 rest_1 Pre_1 Post := by
  intro l hfl _ _ p e ha hc hk s m args below hf hA hF happ hP
  obtain ⟨hcalls, hrest, hpre⟩ := hP
  obtain ⟨-, -, -, hnamed, -, -, -, hat⟩ := (Spec.applies_iff hf).mp happ
  obtain ⟨hg, hn⟩ := and_e (Cond.before_iff.mp (show (Jvm.Cond.and given_1 narrow_1).before args s = true from hpre))
  obtain ⟨hg0, hr0⟩ := and_e hg
  obtain ⟨hg1, hr1⟩ := and_e hr0
  obtain ⟨hg2, hr2⟩ := and_e hr1
  obtain ⟨hg3, hr3⟩ := and_e hr2
  obtain ⟨w0, w1, w2, w3, rfl⟩ : ∃ w0 w1 w2 w3 : Value, args = #[w0, w1, w2, w3] := by
    have hs : args.size = 4 := by simpa [Cond.value, given_1] using hg0
    obtain ⟨L⟩ := args
    match L, hs with
    | [w0, w1, w2, w3], _ => exact ⟨w0, w1, w2, w3, rfl⟩
  have hw := fun d (hd : d ∈ tables_1) => atoms_spec (ws := Jvm.Cond.code x code maxLocals ret :: tables_1) hat d (List.mem_cons_of_mem _ hd)
  obtain ⟨i0, ei0⟩ := is_v hg1
  obtain rfl : w0 = (.int i0) := Option.some.inj ei0
  obtain ⟨i1, ei1⟩ := is_v hg2
  obtain rfl : w1 = (.int i1) := Option.some.inj ei1
  obtain ⟨i2, ei2⟩ := is_v hg3
  obtain rfl : w2 = (.int i2) := Option.some.inj ei2
  obtain ⟨i3, ei3⟩ := is_v hr3
  obtain rfl : w3 = (.int i3) := Option.some.inj ei3
  obtain ⟨hsets, hown0⟩ := atoms_of _ (rest_1_c_eq ▸ (show rest_1_c.before _ s = true from hrest))
  have n5 := not_v (Cond.before_iff.mp (hsets _ (mG 2 rfl)))
  obtain ⟨zc, e10⟩ := is_v (Cond.before_iff.mp (hsets _ (mG 1 rfl)))
  have S12 : Sta s s.heap zZ0 zZ17 "Z" (.int zc) := Sta.start e10 (Or.inl (hsets _ (mG 0 rfl)))
  have c17 : ¬ (zc = (0 : Int32)) := gotF (Cond.eq_ints e10 (Term.int_eval (0))) n5
  obtain ⟨fm, e14, r15⟩ := isR_v (Cond.before_iff.mp (hsets _ (mG 8 rfl)))
  have S16 : Sta s s.heap zZ9 "SIOOBE_FORMATTER" zZ64 fm := Sta.start e14 (Or.inl (hsets _ (mG 7 rfl)))
  have hCH : CHv s own_EL s.vm s.heap := CHv.start (EL_in hw) (fun p hp => hcalls.1 p hp) (hsets _ (mG 2 rfl)) (wS_in hw _ (by decide +kernel)) (wS_in hw _ (by decide +kernel))
  have hfit : Fit s := fun {y c} hc i hi => by
    obtain ⟨ha, rfl⟩ := Array.getElem?_eq_some_iff.mp hc
    have q := List.all_eq_true.mp ((Array.all_eq_true_iff_forall_mem.mp hF) _ (Array.getElem_mem ha)) i (List.mem_range.mpr hi)
    simpa [Array.getElem?_eq_getElem hi] using q
  obtain ⟨u8, e8⟩ := exa_v (Cond.before_iff.mp (hsets _ (mG 14 rfl)))
  have Su : Sta s s.heap zZ65 "UTF_8" zZ66 (.ref u8) := Sta.start e8 (Or.inl (hsets _ (mG 10 rfl)))
  obtain ⟨u9, e9⟩ := exa_v (Cond.before_iff.mp (hsets _ (mG 17 rfl)))
  obtain rfl : u8 = u9 := own_eqR e8 e9 (Cond.before_iff.mp (hsets _ (mG 13 rfl)))
  have Si : Sta s s.heap "sun/nio/cs/UTF_8" "INSTANCE" "Lsun/nio/cs/UTF_8;" (.ref u8) := Sta.start e9 (Or.inl (hsets _ (mG 12 rfl)))
  have Sd : Sta s s.heap zZ1 "$assertionsDisabled" "Z" (.int 1) := Sta.start (own_eqI (Cond.before_iff.mp (hsets _ (mG 21 rfl)))) (Or.inl (hsets _ (mG 20 rfl)))
  have Sh : Sta s s.heap zZ1 "HI_BYTE_SHIFT" "I" (.int 0) := Sta.start (own_eqI (Cond.before_iff.mp (hsets _ (mG 24 rfl)))) (Or.inl (hsets _ (mG 23 rfl)))
  have Sl : Sta s s.heap zZ1 "LO_BYTE_SHIFT" "I" (.int 8) := Sta.start (own_eqI (Cond.before_iff.mp (hsets _ (mG 27 rfl)))) (Or.inl (hsets _ (mG 26 rfl)))
  obtain ⟨na, n1⟩ := and_e hn
  obtain ⟨nb, n2⟩ := and_e n1
  obtain ⟨nc, nd⟩ := and_e n2
  obtain ⟨hxa, ex⟩ := arr_v na
  have Sx : Sta s s.heap zZ6 "HEX" "[C" (.ref hxa) := Sta.start ex (Or.inr ⟨(hw _ (mG 32 rfl)), (hw _ (mG 183 rfl))⟩)
  obtain ⟨cx, Ax⟩ := Arr.start ex na
  have Vx := own_hexA hfit ex Ax nb nc nd
  have SS : STs s zc fm u8 hxa cx.cls := ⟨S12, c17, Sd, Sh, Sl, S16, r15, Su, Si, Sx, Vx⟩
  obtain ⟨n, o, h1, h2, h3, _, L, rfl, ⟨rfl, N⟩, -, hq⟩ := rm0 l s _ hw tables_1 i0 i1 i2 i3 s.heap (Old.start s) SS p e ha hc hk s m _ below hf ((Spec.applies_iff_loose hf).mp happ).1 ⟨rfl, State.Warmed39.refl s, rfl, hCH⟩ trivial
  refine ⟨n, _, h1, h2, h3, hpost _ _ _ _ _ _ ⟨Cond.after_iff.mpr rfl, Cond.after_iff.mpr (eq_i res_at (Term.int_eval (1)) rfl), trivial⟩ ⟨hq.1, hq.2.1, hq.2.2.1, (hq.2.2.2.sift fun y hy => Or.inr (N y hy)).mono (by decide) (by decide)⟩⟩
theorem main_1_1 : Claimed_1_1 := comes_1 fun _ _ _ _ _ _ h hF => ⟨h.1, hF⟩
theorem main_1_2 : Claimed_1_2 := comes_1 fun _ _ _ _ _ _ h hF => ⟨h.2.1, hF⟩

end Jvm.Pilot.@@N@@
namespace Jvm.Pilot.@@N@@
open Jvm Jvm.ClassFile Sem Op Lib Jvm.Free Jvm.Stand Jvm.Pilot.@@N@@.Jvm.D
/-! MADE BY PROGRAM (witnessworld.py) out of the Statement's table words and the real class files: 33 classes; the members and pool entries that the words name. The judged class is class 1, her method 1. -/
namespace start1
open Jvm.ClassFile
def u (s : String) : CpInfo := .utf8 (stringToUtf16 s)
/-- a pool by its gaps: so many unusable entries, then the entry; so many at the end -/
def gap : Nat → List CpInfo → List CpInfo
  | 0, r => r
  | n + 1, r => .unusable :: gap n r
def poolList (es : List (Nat × CpInfo)) (last : Nat) : List CpInfo := es.foldr (fun e r => gap e.1 (e.2 :: r)) (gap last [])
def pool (es : List (Nat × CpInfo)) (last : Nat) : Array CpInfo := ⟨poolList es last⟩
def fileOf (pool : Array CpInfo) (this : Nat) (attrs : Array Attribute := #[]) (ms : Array MethodInfo := #[]) (fl : Nat := 33) (sup : Nat := 0) (ifs : Array Nat := #[]) (fds : Array FieldInfo := #[]) : ClassFile where
  minorVersion := 0
  majorVersion := 65
  constantPool := pool
  accessFlags := fl
  thisClass := this
  superClass := sup
  interfaces := ifs
  fields := fds
  methods := ms
  attributes := attrs
def plain (name : String) (sup : Option ClassId) : Class where
  name := name
  kind := .ordinary
  loader := none
  accessFlags := 33
  super := sup
  interfaces := #[]
  cf := none
  fields := #[]
  methods := #[]
  instanceTypes := #[]
  staticTypes := #[]
  resolved := #[]
  callSites := []
  init := .initialized
  statics := none
  mirror := none

def pool0 : Array CpInfo := pool [(5, u "<init>"), (0, u "()V"), (1, .class_ 10), (1, u "java/lang/Object"), (85, u "clone"), (0, u "()Ljava/lang/Object;")] 26

def k0c0 : Code := { maxStack := 0, maxLocals := 1, code := object_method_1_code, exceptionTable := #[], attributes := #[] }
def k0m0 : Method := { name := "<init>", desc := "()V", sig := { parameters := [], returnType := none }, accessFlags := 1, code := some k0c0 }
def k0m1 : Method := { name := "clone", desc := "()Ljava/lang/Object;", sig := { parameters := [], returnType := some (.object "java/lang/Object") }, accessFlags := 260, code := none }
/-- java/lang/Object -/
def k0 : Class := { plain "java/lang/Object" none with
  accessFlags := 33
  interfaces := #[]
  cf := some (fileOf pool0 8 #[] #[{ accessFlags := 1, nameIndex := 5, descriptorIndex := 6, attributes := #[] }, { accessFlags := 260, nameIndex := 96, descriptorIndex := 97, attributes := #[] }] 33 0 #[] #[])
  fields := #[]
  methods := #[k0m0, k0m1]
  instanceTypes := #[]
  staticTypes := #[]
  resolved := Array.replicate 124 none
  statics := none }

def pool1 : Array CpInfo := pool [(2, .class_ 4), (1, u "java/lang/Object"), (0, u "<init>"), (0, u "()V"), (0, .integer 55296), (0, .integer 56320), (0, .class_ 10), (0, u "java/lang/String"), (0, .methodref 9 12), (0, .nameAndType 5 13), (0, u "([C)V"), (0, .methodref 15 16), (0, .class_ 17), (0, .nameAndType 18 19), (0, u "com/example/triad/triad/rest/PercentEncoding"), (0, u "encode"), (0, u "(Ljava/lang/String;Ljava/lang/String;)Ljava/lang/String;"), (0, .methodref 21 22), (0, .class_ 23), (0, .nameAndType 24 25), (0, u "com/example/triad/triad/rest/PercentEncodingEncodePinLaw"), (0, u "one"), (0, u "([CICCZ)I"), (0, .integer 56319), (0, .integer 57343), (0, .integer 65536), (0, .methodref 21 30), (0, .nameAndType 31 32), (0, u "encCp"), (0, u "([CII)I"), (0, .methodref 9 34), (0, .nameAndType 35 36), (0, u "length"), (0, u "()I"), (0, .methodref 21 38), (0, .nameAndType 39 40), (0, u "at"), (0, u "(Ljava/lang/String;[CII)Z"), (0, .methodref 9 42), (0, .nameAndType 43 44), (0, u "charAt"), (0, u "(I)C"), (0, .methodref 21 46), (0, .nameAndType 47 48), (0, u "keptChar"), (0, u "(CCZ)Z"), (0, .methodref 21 50), (0, .nameAndType 51 44), (0, u "hex"), (0, .methodref 21 53), (0, .nameAndType 54 32), (0, u "pct"), (2, u "law"), (0, u "(IIII)Z")] 5

def k1m0 : Method := { name := "<init>", desc := "()V", sig := { parameters := [], returnType := none }, accessFlags := 1, code := none }
def k1c1 : Code := { maxStack := 6, maxLocals := 16, code := code, exceptionTable := #[], attributes := #[] }
def k1m1 : Method := { name := "law", desc := "(IIII)Z", sig := { parameters := [.int, .int, .int, .int], returnType := some .boolean }, accessFlags := 9, code := some k1c1 }
def k1c2 : Code := { maxStack := 3, maxLocals := 4, code := method_3_code, exceptionTable := #[], attributes := #[] }
def k1m2 : Method := { name := "at", desc := "(Ljava/lang/String;[CII)Z", sig := { parameters := [(.object "java/lang/String"), (.array .char), .int, .int], returnType := some .boolean }, accessFlags := 10, code := some k1c2 }
def k1c3 : Code := { maxStack := 2, maxLocals := 3, code := method_4_code, exceptionTable := #[], attributes := #[] }
def k1m3 : Method := { name := "keptChar", desc := "(CCZ)Z", sig := { parameters := [.char, .char, .boolean], returnType := some .boolean }, accessFlags := 10, code := some k1c3 }
def k1c4 : Code := { maxStack := 3, maxLocals := 5, code := method_5_code, exceptionTable := #[], attributes := #[] }
def k1m4 : Method := { name := "one", desc := "([CICCZ)I", sig := { parameters := [(.array .char), .int, .char, .char, .boolean], returnType := some .int }, accessFlags := 10, code := some k1c4 }
def k1c5 : Code := { maxStack := 2, maxLocals := 1, code := method_6_code, exceptionTable := #[], attributes := #[] }
def k1m5 : Method := { name := "hex", desc := "(I)C", sig := { parameters := [.int], returnType := some .char }, accessFlags := 10, code := some k1c5 }
def k1c6 : Code := { maxStack := 4, maxLocals := 3, code := method_7_code, exceptionTable := #[], attributes := #[] }
def k1m6 : Method := { name := "pct", desc := "([CII)I", sig := { parameters := [(.array .char), .int, .int], returnType := some .int }, accessFlags := 10, code := some k1c6 }
def k1c7 : Code := { maxStack := 5, maxLocals := 4, code := method_8_code, exceptionTable := #[], attributes := #[] }
def k1m7 : Method := { name := "encCp", desc := "([CII)I", sig := { parameters := [(.array .char), .int, .int], returnType := some .int }, accessFlags := 10, code := some k1c7 }
/-- com/example/triad/triad/rest/PercentEncodingEncodePinLaw -/
def k1 : Class := { plain "com/example/triad/triad/rest/PercentEncodingEncodePinLaw" (some 0) with
  accessFlags := 49
  interfaces := #[]
  cf := some (fileOf pool1 21 #[] #[{ accessFlags := 1, nameIndex := 5, descriptorIndex := 6, attributes := #[] }, { accessFlags := 9, nameIndex := 57, descriptorIndex := 58, attributes := #[] }, { accessFlags := 10, nameIndex := 39, descriptorIndex := 40, attributes := #[] }, { accessFlags := 10, nameIndex := 47, descriptorIndex := 48, attributes := #[] }, { accessFlags := 10, nameIndex := 24, descriptorIndex := 25, attributes := #[] }, { accessFlags := 10, nameIndex := 51, descriptorIndex := 44, attributes := #[] }, { accessFlags := 10, nameIndex := 54, descriptorIndex := 32, attributes := #[] }, { accessFlags := 10, nameIndex := 31, descriptorIndex := 32, attributes := #[] }] 49 2 #[] #[])
  fields := #[]
  methods := #[k1m0, k1m1, k1m2, k1m3, k1m4, k1m5, k1m6, k1m7]
  instanceTypes := #[]
  staticTypes := #[]
  resolved := Array.replicate 64 none
  statics := none }

def pool2 : Array CpInfo := pool [(1, .class_ 2), (0, u "java/io/Serializable"), (0, .class_ 4), (0, u "java/lang/Object")] 2

/-- java/io/Serializable -/
def k2 : Class := { plain "java/io/Serializable" (some 0) with
  accessFlags := 1537
  interfaces := #[]
  cf := some (fileOf pool2 1 #[] #[] 1537 3 #[] #[])
  fields := #[]
  methods := #[]
  instanceTypes := #[]
  staticTypes := #[]
  resolved := Array.replicate 7 none
  statics := none }

def pool3 : Array CpInfo := pool [(1, .class_ 2), (0, u "java/lang/Comparable"), (0, .class_ 4), (0, u "java/lang/Object")] 7

/-- java/lang/Comparable -/
def k3 : Class := { plain "java/lang/Comparable" (some 0) with
  accessFlags := 1537
  interfaces := #[]
  cf := some (fileOf pool3 1 #[] #[] 1537 3 #[] #[])
  fields := #[]
  methods := #[]
  instanceTypes := #[]
  staticTypes := #[]
  resolved := Array.replicate 12 none
  statics := none }

def pool4 : Array CpInfo := pool [(2, .class_ 4), (1, u "java/lang/CharSequence"), (42, .class_ 48), (0, u "java/lang/CharSequence$1CodePointIterator"), (10, .class_ 60), (0, u "java/lang/CharSequence$1CharIterator"), (5, .class_ 67), (0, u "java/lang/Object")] 63

/-- java/lang/CharSequence -/
def k4 : Class := { plain "java/lang/CharSequence" (some 0) with
  accessFlags := 1537
  interfaces := #[]
  cf := some (fileOf pool4 2 #[.nestMembers #[47, 59]] #[] 1537 66 #[] #[])
  fields := #[]
  methods := #[]
  instanceTypes := #[]
  staticTypes := #[]
  resolved := Array.replicate 131 none
  statics := none }

def pool5 : Array CpInfo := pool [(1, .class_ 2), (0, u "java/lang/constant/Constable"), (0, .class_ 4), (0, u "java/lang/Object")] 6

/-- java/lang/constant/Constable -/
def k5 : Class := { plain "java/lang/constant/Constable" (some 0) with
  accessFlags := 1537
  interfaces := #[]
  cf := some (fileOf pool5 1 #[] #[] 1537 3 #[] #[])
  fields := #[]
  methods := #[]
  instanceTypes := #[]
  staticTypes := #[]
  resolved := Array.replicate 11 none
  statics := none }

def pool6 : Array CpInfo := pool [(1, .class_ 2), (0, u "java/lang/constant/ConstantDesc"), (0, .class_ 4), (0, u "java/lang/Object")] 32

/-- java/lang/constant/ConstantDesc -/
def k6 : Class := { plain "java/lang/constant/ConstantDesc" (some 0) with
  accessFlags := 1537
  interfaces := #[]
  cf := some (fileOf pool6 1 #[] #[] 1537 3 #[] #[])
  fields := #[]
  methods := #[]
  instanceTypes := #[]
  staticTypes := #[]
  resolved := Array.replicate 37 none
  statics := none }

def pool7 : Array CpInfo := pool [(1, .methodref 2 3), (0, .class_ 4), (0, .nameAndType 5 6), (0, u "java/lang/Object"), (0, u "<init>"), (0, u "()V"), (0, .string 8), (0, u ""), (0, .fieldref 10 11), (0, .class_ 12), (0, .nameAndType 13 14), (0, u "java/lang/String"), (0, u "value"), (0, u "[B"), (0, .fieldref 10 16), (0, .nameAndType 17 18), (0, u "coder"), (0, u "B"), (2, u "hash"), (0, u "I"), (2, u "hashIsZero"), (0, u "Z"), (0, .methodref 10 28), (0, .nameAndType 5 29), (0, u "([CIILjava/lang/Void;)V"), (6, u "checkBoundsOffCount"), (0, u "(III)I"), (0, .fieldref 10 39), (0, .nameAndType 40 26), (0, u "COMPACT_STRINGS"), (1, .class_ 44), (1, u "java/lang/StringUTF16"), (0, u "compress"), (1, .methodref 42 48), (0, .nameAndType 49 50), (0, u "coderFromArrayLen"), (0, u "([BI)B"), (3, .methodref 55 56), (0, .class_ 57), (0, .nameAndType 58 59), (0, u "java/util/Arrays"), (0, u "copyOfRange"), (0, u "([BII)[B"), (0, .methodref 42 61), (0, .nameAndType 62 63), (0, u "newBytesFor"), (0, u "(I)[B"), (22, .fieldref 87 88), (0, .class_ 89), (0, .nameAndType 90 91), (0, u "sun/nio/cs/UTF_8"), (0, u "INSTANCE"), (0, u "Lsun/nio/cs/UTF_8;"), (1, .class_ 95), (1, u "java/lang/StringCoding"), (1, u "([BII)I"), (4, .methodref 55 103), (0, .nameAndType 104 105), (0, u "copyOf"), (0, u "([BI)[B"), (1, .class_ 109), (1, u "java/lang/StringLatin1"), (18, .methodref 93 129), (0, .nameAndType 130 131), (0, u "hasNegatives"), (0, u "([BII)Z"), (10, u "()Z"), (34, .methodref 42 178), (0, .nameAndType 45 179), (0, u "([CII)[B"), (72, .methodref 10 253), (0, .nameAndType 254 255), (0, u "encodeUTF8"), (0, u "(B[BZ)[B"), (23, .methodref 280 281), (0, .class_ 14), (0, .nameAndType 282 283), (0, u "clone"), (0, u "()Ljava/lang/Object;"), (33, u "encode"), (16, u "()I"), (0, .methodref 10 336), (0, .nameAndType 17 337), (0, u "()B"), (2, u "()[B"), (19, .methodref 42 361), (0, .nameAndType 362 363), (0, u "getChar"), (0, u "([BI)C"), (0, .methodref 365 366), (0, .class_ 367), (0, .nameAndType 368 369), (0, u "java/lang/Character"), (0, u "isHighSurrogate"), (0, u "(C)Z"), (0, .methodref 365 371), (0, .nameAndType 372 369), (0, u "isLowSurrogate"), (18, u "(II)V"), (12, .methodref 365 405), (0, .nameAndType 406 369), (0, u "isSurrogate"), (20, u "(I)C"), (45, .methodref 10 474), (0, .nameAndType 475 476), (0, u "encodeUTF8_UTF16"), (0, u "([BZ)[B"), (0, .methodref 365 478), (0, .nameAndType 479 480), (0, u "toCodePoint"), (0, u "(CC)I"), (8, .methodref 10 490), (0, .nameAndType 5 491), (0, u "(Ljava/lang/AbstractStringBuilder;Ljava/lang/Void;)V"), (0, .methodref 10 493), (0, .nameAndType 494 142), (0, u "isLatin1"), (0, .methodref 107 496), (0, .nameAndType 497 363), (0, u "charAt"), (0, .methodref 42 496), (0, .methodref 10 500), (0, .nameAndType 501 391), (0, u "checkIndex"), (0, .methodref 42 503), (0, .nameAndType 504 97), (0, u "codePointAt"), (0, .methodref 10 506), (0, .nameAndType 507 334), (0, u "length"), (5, u "checkFromToIndex"), (9, u "checkBoundsBeginEnd"), (0, u "(III)V"), (7, u "getBytes"), (2, .methodref 10 536), (0, .nameAndType 317 537), (0, u "(Ljava/nio/charset/Charset;B[B)[B"), (11, .methodref 550 506), (0, .class_ 551), (0, u "java/lang/AbstractStringBuilder"), (0, .methodref 550 553), (0, .nameAndType 554 340), (0, u "getValue"), (20, .class_ 576), (0, u "java/lang/CharSequence"), (22, u "CASE_INSENSITIVE_ORDER"), (0, u "Ljava/util/Comparator;"), (32, .methodref 10 634), (0, .nameAndType 635 636), (0, u "indexOf"), (0, u "(II)I"), (0, .methodref 107 638), (0, .nameAndType 635 639), (0, u "([BIII)I"), (0, .methodref 42 638), (124, u "(I)I"), (244, u "([C)V"), (36, .methodref 550 493), (0, .fieldref 550 1049), (0, .nameAndType 1050 26), (0, u "maybeLatin1"), (2, .fieldref 1054 1055), (0, .class_ 1056), (0, .nameAndType 1057 1058), (0, u "jdk/internal/util/Preconditions"), (0, u "SIOOBE_FORMATTER"), (0, u "Ljava/util/function/BiFunction;"), (0, .methodref 1054 1060), (0, .nameAndType 501 1061), (0, u "(IILjava/util/function/BiFunction;)I"), (0, .methodref 1054 1063), (0, .nameAndType 513 1064), (0, u "(IIILjava/util/function/BiFunction;)I"), (0, .methodref 1054 1066), (0, .nameAndType 1067 1064), (0, u "checkFromIndexSize"), (33, u "serialPersistentFields"), (0, u "[Ljava/io/ObjectStreamField;"), (0, .class_ 1104), (0, u "java/lang/String$CaseInsensitiveComparator"), (1, .class_ 1107), (0, u "java/io/Serializable"), (0, .class_ 1109), (0, u "java/lang/Comparable"), (0, .class_ 1111), (0, u "java/lang/constant/Constable"), (0, .class_ 1113), (0, u "java/lang/constant/ConstantDesc"), (2, u "serialVersionUID"), (0, u "J"), (3, u "REPL"), (0, u "C"), (2, u "LATIN1"), (1, u "UTF16"), (105, u "(Ljava/lang/StringBuilder;)V"), (11, u "(Ljava/nio/charset/Charset;)[B")] 205

def k7m0 : Method := { name := "<init>", desc := "()V", sig := { parameters := [], returnType := none }, accessFlags := 1, code := none }
def k7c1 : Code := { maxStack := 5, maxLocals := 2, code := jdk_42_method_3_code, exceptionTable := #[], attributes := #[] }
def k7m1 : Method := { name := "<init>", desc := "([C)V", sig := { parameters := [(.array .char)], returnType := none }, accessFlags := 1, code := some k7c1 }
def k7c2 : Code := { maxStack := 4, maxLocals := 3, code := jdk_42_method_18_code, exceptionTable := #[], attributes := #[] }
def k7m2 : Method := { name := "encode", desc := "(Ljava/nio/charset/Charset;B[B)[B", sig := { parameters := [(.object "java/nio/charset/Charset"), .byte, (.array .byte)], returnType := some (.array .byte) }, accessFlags := 10, code := some k7c2 }
def k7c3 : Code := { maxStack := 5, maxLocals := 9, code := jdk_42_method_46_code, exceptionTable := #[], attributes := #[] }
def k7m3 : Method := { name := "encodeUTF8", desc := "(B[BZ)[B", sig := { parameters := [.byte, (.array .byte), .boolean], returnType := some (.array .byte) }, accessFlags := 10, code := some k7c3 }
def k7c4 : Code := { maxStack := 5, maxLocals := 9, code := jdk_42_method_47_code, exceptionTable := #[], attributes := #[] }
def k7m4 : Method := { name := "encodeUTF8_UTF16", desc := "([BZ)[B", sig := { parameters := [(.array .byte), .boolean], returnType := some (.array .byte) }, accessFlags := 10, code := some k7c4 }
def k7c5 : Code := { maxStack := 3, maxLocals := 2, code := jdk_42_method_53_code, exceptionTable := #[], attributes := #[] }
def k7m5 : Method := { name := "<init>", desc := "(Ljava/lang/StringBuilder;)V", sig := { parameters := [(.object "java/lang/StringBuilder")], returnType := none }, accessFlags := 1, code := some k7c5 }
def k7c6 : Code := { maxStack := 2, maxLocals := 1, code := jdk_42_method_54_code, exceptionTable := #[], attributes := #[] }
def k7m6 : Method := { name := "length", desc := "()I", sig := { parameters := [], returnType := some .int }, accessFlags := 1, code := some k7c6 }
def k7c7 : Code := { maxStack := 2, maxLocals := 2, code := jdk_42_method_56_code, exceptionTable := #[], attributes := #[] }
def k7m7 : Method := { name := "charAt", desc := "(I)C", sig := { parameters := [.int], returnType := some .char }, accessFlags := 1, code := some k7c7 }
def k7c8 : Code := { maxStack := 3, maxLocals := 3, code := jdk_42_method_57_code, exceptionTable := #[], attributes := #[] }
def k7m8 : Method := { name := "codePointAt", desc := "(I)I", sig := { parameters := [.int], returnType := some .int }, accessFlags := 1, code := some k7c8 }
def k7c9 : Code := { maxStack := 3, maxLocals := 2, code := jdk_42_method_64_code, exceptionTable := #[], attributes := #[] }
def k7m9 : Method := { name := "getBytes", desc := "(Ljava/nio/charset/Charset;)[B", sig := { parameters := [(.object "java/nio/charset/Charset")], returnType := some (.array .byte) }, accessFlags := 1, code := some k7c9 }
def k7c10 : Code := { maxStack := 3, maxLocals := 2, code := jdk_42_method_79_code, exceptionTable := #[], attributes := #[] }
def k7m10 : Method := { name := "indexOf", desc := "(I)I", sig := { parameters := [.int], returnType := some .int }, accessFlags := 1, code := some k7c10 }
def k7c11 : Code := { maxStack := 4, maxLocals := 3, code := jdk_42_method_80_code, exceptionTable := #[], attributes := #[] }
def k7m11 : Method := { name := "indexOf", desc := "(II)I", sig := { parameters := [.int, .int], returnType := some .int }, accessFlags := 1, code := some k7c11 }
def k7c12 : Code := { maxStack := 4, maxLocals := 6, code := jdk_42_method_149_code, exceptionTable := #[], attributes := #[] }
def k7m12 : Method := { name := "<init>", desc := "([CIILjava/lang/Void;)V", sig := { parameters := [(.array .char), .int, .int, (.object "java/lang/Void")], returnType := none }, accessFlags := 2, code := some k7c12 }
def k7c13 : Code := { maxStack := 5, maxLocals := 5, code := jdk_42_method_150_code, exceptionTable := #[], attributes := #[] }
def k7m13 : Method := { name := "<init>", desc := "(Ljava/lang/AbstractStringBuilder;Ljava/lang/Void;)V", sig := { parameters := [(.object "java/lang/AbstractStringBuilder"), (.object "java/lang/Void")], returnType := none }, accessFlags := 0, code := some k7c13 }
def k7c14 : Code := { maxStack := 1, maxLocals := 1, code := jdk_42_method_152_code, exceptionTable := #[], attributes := #[] }
def k7m14 : Method := { name := "coder", desc := "()B", sig := { parameters := [], returnType := some .byte }, accessFlags := 0, code := some k7c14 }
def k7c15 : Code := { maxStack := 1, maxLocals := 1, code := jdk_42_method_154_code, exceptionTable := #[], attributes := #[] }
def k7m15 : Method := { name := "isLatin1", desc := "()Z", sig := { parameters := [], returnType := some .boolean }, accessFlags := 0, code := some k7c15 }
def k7c16 : Code := { maxStack := 3, maxLocals := 2, code := jdk_42_method_155_code, exceptionTable := #[], attributes := #[] }
def k7m16 : Method := { name := "checkIndex", desc := "(II)V", sig := { parameters := [.int, .int], returnType := none }, accessFlags := 8, code := some k7c16 }
def k7c17 : Code := { maxStack := 4, maxLocals := 3, code := jdk_42_method_157_code, exceptionTable := #[], attributes := #[] }
def k7m17 : Method := { name := "checkBoundsOffCount", desc := "(III)I", sig := { parameters := [.int, .int, .int], returnType := some .int }, accessFlags := 8, code := some k7c17 }
def k7c18 : Code := { maxStack := 4, maxLocals := 3, code := jdk_42_method_158_code, exceptionTable := #[], attributes := #[] }
def k7m18 : Method := { name := "checkBoundsBeginEnd", desc := "(III)V", sig := { parameters := [.int, .int, .int], returnType := none }, accessFlags := 8, code := some k7c18 }
/-- java/lang/String -/
def k7 : Class := { plain "java/lang/String" (some 0) with
  accessFlags := 49
  interfaces := #[2, 3, 4, 5, 6]
  cf := some (fileOf pool7 10 #[.nestMembers #[1103]] #[{ accessFlags := 1, nameIndex := 5, descriptorIndex := 6, attributes := #[] }, { accessFlags := 1, nameIndex := 5, descriptorIndex := 1010, attributes := #[] }, { accessFlags := 10, nameIndex := 317, descriptorIndex := 537, attributes := #[] }, { accessFlags := 10, nameIndex := 254, descriptorIndex := 255, attributes := #[] }, { accessFlags := 10, nameIndex := 475, descriptorIndex := 476, attributes := #[] }, { accessFlags := 1, nameIndex := 5, descriptorIndex := 1233, attributes := #[] }, { accessFlags := 1, nameIndex := 507, descriptorIndex := 334, attributes := #[] }, { accessFlags := 1, nameIndex := 497, descriptorIndex := 427, attributes := #[] }, { accessFlags := 1, nameIndex := 504, descriptorIndex := 765, attributes := #[] }, { accessFlags := 1, nameIndex := 532, descriptorIndex := 1245, attributes := #[] }, { accessFlags := 1, nameIndex := 635, descriptorIndex := 765, attributes := #[] }, { accessFlags := 1, nameIndex := 635, descriptorIndex := 636, attributes := #[] }, { accessFlags := 2, nameIndex := 5, descriptorIndex := 29, attributes := #[] }, { accessFlags := 0, nameIndex := 5, descriptorIndex := 491, attributes := #[] }, { accessFlags := 0, nameIndex := 17, descriptorIndex := 337, attributes := #[] }, { accessFlags := 0, nameIndex := 494, descriptorIndex := 142, attributes := #[] }, { accessFlags := 8, nameIndex := 501, descriptorIndex := 391, attributes := #[] }, { accessFlags := 8, nameIndex := 36, descriptorIndex := 37, attributes := #[] }, { accessFlags := 8, nameIndex := 523, descriptorIndex := 524, attributes := #[] }] 49 2 #[1106, 1108, 575, 1110, 1112] #[{ accessFlags := 18, nameIndex := 13, descriptorIndex := 14, attributes := #[] }, { accessFlags := 18, nameIndex := 17, descriptorIndex := 18, attributes := #[] }, { accessFlags := 2, nameIndex := 21, descriptorIndex := 22, attributes := #[] }, { accessFlags := 2, nameIndex := 25, descriptorIndex := 26, attributes := #[] }, { accessFlags := 26, nameIndex := 1116, descriptorIndex := 1117, attributes := #[] }, { accessFlags := 24, nameIndex := 40, descriptorIndex := 26, attributes := #[] }, { accessFlags := 26, nameIndex := 1101, descriptorIndex := 1102, attributes := #[] }, { accessFlags := 26, nameIndex := 1121, descriptorIndex := 1122, attributes := #[] }, { accessFlags := 25, nameIndex := 599, descriptorIndex := 600, attributes := #[] }, { accessFlags := 24, nameIndex := 1125, descriptorIndex := 18, attributes := #[] }, { accessFlags := 24, nameIndex := 1127, descriptorIndex := 18, attributes := #[] }])
  fields := #[{ name := "value", type := (.array .byte), accessFlags := 18, slot := 0, constantValue := 0 }, { name := "coder", type := .byte, accessFlags := 18, slot := 1, constantValue := 0 }, { name := "hash", type := .int, accessFlags := 2, slot := 2, constantValue := 0 }, { name := "hashIsZero", type := .boolean, accessFlags := 2, slot := 3, constantValue := 0 }, { name := "serialVersionUID", type := .long, accessFlags := 26, slot := 0, constantValue := 0 }, { name := "COMPACT_STRINGS", type := .boolean, accessFlags := 24, slot := 1, constantValue := 0 }, { name := "serialPersistentFields", type := (.array (.object "java/io/ObjectStreamField")), accessFlags := 26, slot := 2, constantValue := 0 }, { name := "REPL", type := .char, accessFlags := 26, slot := 3, constantValue := 0 }, { name := "CASE_INSENSITIVE_ORDER", type := (.object "java/util/Comparator"), accessFlags := 25, slot := 4, constantValue := 0 }, { name := "LATIN1", type := .byte, accessFlags := 24, slot := 5, constantValue := 0 }, { name := "UTF16", type := .byte, accessFlags := 24, slot := 6, constantValue := 0 }]
  methods := #[k7m0, k7m1, k7m2, k7m3, k7m4, k7m5, k7m6, k7m7, k7m8, k7m9, k7m10, k7m11, k7m12, k7m13, k7m14, k7m15, k7m16, k7m17, k7m18]
  instanceTypes := #[(.array .byte), .byte, .int, .boolean]
  staticTypes := #[.long, .boolean, (.array (.object "java/io/ObjectStreamField")), .char, (.object "java/util/Comparator"), .byte, .byte]
  resolved := Array.replicate 1451 none
  statics := some 0 }

def pool8 : Array CpInfo := pool [(3, .class_ 4), (0, u "java/lang/String"), (1, .class_ 8), (1, u "java/lang/Object"), (0, u "<init>"), (0, u "()V"), (0, .methodref 12 13), (0, .class_ 14), (0, .nameAndType 15 16), (0, u "java/lang/StringUTF16"), (0, u "newBytesLength"), (0, u "(I)I"), (3, .integer 1073741823), (23, .fieldref 12 45), (0, .nameAndType 46 47), (0, u "$assertionsDisabled"), (0, u "Z"), (0, .methodref 12 49), (0, .nameAndType 50 51), (0, u "length"), (0, u "([B)I"), (7, .fieldref 12 60), (0, .nameAndType 61 62), (0, u "HI_BYTE_SHIFT"), (0, u "I"), (0, .fieldref 12 64), (0, .nameAndType 65 62), (0, u "LO_BYTE_SHIFT"), (1, .methodref 12 68), (0, .nameAndType 69 70), (0, u "checkIndex"), (0, u "(I[B)V"), (0, .methodref 12 72), (0, .nameAndType 73 74), (0, u "getChar"), (0, u "([BI)C"), (0, .methodref 76 77), (0, .class_ 78), (0, .nameAndType 79 80), (0, u "java/lang/Character"), (0, u "isHighSurrogate"), (0, u "(C)Z"), (0, .methodref 76 82), (0, .nameAndType 83 80), (0, u "isLowSurrogate"), (0, .methodref 76 85), (0, .nameAndType 86 87), (0, u "toCodePoint"), (0, u "(CC)I"), (0, .methodref 12 89), (0, .nameAndType 90 91), (0, u "codePointAt"), (0, u "([BIIZ)I"), (4, .methodref 12 97), (0, .nameAndType 98 99), (0, u "checkBoundsBeginEnd"), (0, u "(II[B)V"), (7, .methodref 12 108), (0, .nameAndType 109 110), (0, u "newBytesFor"), (0, u "(I)[B"), (0, .methodref 12 112), (0, .nameAndType 113 114), (0, u "putChar"), (0, u "([BII)V"), (0, .methodref 12 116), (0, .nameAndType 117 118), (0, u "compress"), (0, u "([CI[BII)I"), (0, .methodref 12 120), (0, .nameAndType 121 122), (0, u "toBytes"), (0, u "([CII)[B"), (17, u "inflate"), (0, u "([BI[BII)V"), (14, u "(I)Z"), (0, .methodref 76 158), (0, .nameAndType 159 160), (0, u "highSurrogate"), (0, u "(I)C"), (0, .methodref 76 162), (0, .nameAndType 163 160), (0, u "lowSurrogate"), (0, .methodref 76 165), (0, .nameAndType 166 156), (0, u "isValidCodePoint"), (6, .methodref 12 174), (0, .nameAndType 175 99), (0, u "checkBoundsOffCount"), (7, .methodref 184 185), (0, .class_ 186), (0, .nameAndType 187 188), (0, u "java/lang/Math"), (0, u "min"), (0, u "(II)I"), (35, .methodref 184 225), (0, .nameAndType 226 188), (0, u "max"), (0, .integer 65536), (0, .methodref 12 229), (0, .nameAndType 230 231), (0, u "indexOfChar"), (0, u "([BIII)I"), (0, .methodref 12 233), (0, .nameAndType 234 231), (0, u "indexOfSupplementary"), (6, .methodref 3 242), (0, .nameAndType 98 243), (0, u "(III)V"), (0, .methodref 12 245), (0, .nameAndType 246 231), (0, u "indexOfCharUnsafe"), (3, u "([BII)I"), (10, u "coderFromArrayLen"), (0, u "([BI)B"), (5, u "indexOf"), (12, u "(III)I"), (87, .class_ 371), (1, u "java/lang/StringUTF16$LinesSpliterator"), (20, u "charAt"), (21, .methodref 3 415), (0, .nameAndType 69 416), (0, u "(II)V"), (2, .methodref 3 420), (0, .nameAndType 175 281), (9, u "MAX_LENGTH"), (155, u "putCharSB"), (40, .class_ 628), (0, u "java/lang/StringUTF16$CodePointsSpliterator"), (0, .class_ 630), (0, u "java/lang/StringUTF16$CharsSpliterator")] 4

def k8m0 : Method := { name := "<init>", desc := "()V", sig := { parameters := [], returnType := none }, accessFlags := 0, code := none }
def k8c1 : Code := { maxStack := 1, maxLocals := 1, code := jdk_52_method_2_code, exceptionTable := #[], attributes := #[] }
def k8m1 : Method := { name := "newBytesFor", desc := "(I)[B", sig := { parameters := [.int], returnType := some (.array .byte) }, accessFlags := 9, code := some k8c1 }
def k8c2 : Code := { maxStack := 4, maxLocals := 1, code := jdk_52_method_3_code, exceptionTable := #[], attributes := #[] }
def k8m2 : Method := { name := "newBytesLength", desc := "(I)I", sig := { parameters := [.int], returnType := some .int }, accessFlags := 9, code := some k8c2 }
def k8c3 : Code := { maxStack := 4, maxLocals := 3, code := jdk_52_method_4_code, exceptionTable := #[], attributes := #[] }
def k8m3 : Method := { name := "putChar", desc := "([BII)V", sig := { parameters := [(.array .byte), .int, .int], returnType := none }, accessFlags := 8, code := some k8c3 }
def k8c4 : Code := { maxStack := 3, maxLocals := 2, code := jdk_52_method_5_code, exceptionTable := #[], attributes := #[] }
def k8m4 : Method := { name := "getChar", desc := "([BI)C", sig := { parameters := [(.array .byte), .int], returnType := some .char }, accessFlags := 8, code := some k8c4 }
def k8c5 : Code := { maxStack := 2, maxLocals := 1, code := jdk_52_method_6_code, exceptionTable := #[], attributes := #[] }
def k8m5 : Method := { name := "length", desc := "([B)I", sig := { parameters := [(.array .byte)], returnType := some .int }, accessFlags := 9, code := some k8c5 }
def k8c6 : Code := { maxStack := 2, maxLocals := 6, code := jdk_52_method_7_code, exceptionTable := #[], attributes := #[] }
def k8m6 : Method := { name := "codePointAt", desc := "([BIIZ)I", sig := { parameters := [(.array .byte), .int, .int, .boolean], returnType := some .int }, accessFlags := 10, code := some k8c6 }
def k8c7 : Code := { maxStack := 4, maxLocals := 3, code := jdk_52_method_8_code, exceptionTable := #[], attributes := #[] }
def k8m7 : Method := { name := "codePointAt", desc := "([BII)I", sig := { parameters := [(.array .byte), .int, .int], returnType := some .int }, accessFlags := 9, code := some k8c7 }
def k8c8 : Code := { maxStack := 4, maxLocals := 5, code := jdk_52_method_14_code, exceptionTable := #[], attributes := #[] }
def k8m8 : Method := { name := "toBytes", desc := "([CII)[B", sig := { parameters := [(.array .char), .int, .int], returnType := some (.array .byte) }, accessFlags := 9, code := some k8c8 }
def k8c9 : Code := { maxStack := 2, maxLocals := 2, code := jdk_52_method_15_code, exceptionTable := #[], attributes := #[] }
def k8m9 : Method := { name := "coderFromArrayLen", desc := "([BI)B", sig := { parameters := [(.array .byte), .int], returnType := some .byte }, accessFlags := 8, code := some k8c9 }
def k8c10 : Code := { maxStack := 5, maxLocals := 6, code := jdk_52_method_16_code, exceptionTable := #[], attributes := #[] }
def k8m10 : Method := { name := "compress", desc := "([CII)[B", sig := { parameters := [(.array .char), .int, .int], returnType := some (.array .byte) }, accessFlags := 9, code := some k8c10 }
def k8c11 : Code := { maxStack := 3, maxLocals := 7, code := jdk_52_method_21_code, exceptionTable := #[], attributes := #[] }
def k8m11 : Method := { name := "compress", desc := "([CI[BII)I", sig := { parameters := [(.array .char), .int, (.array .byte), .int, .int], returnType := some .int }, accessFlags := 9, code := some k8c11 }
def k8c12 : Code := { maxStack := 4, maxLocals := 4, code := jdk_52_method_40_code, exceptionTable := #[], attributes := #[] }
def k8m12 : Method := { name := "indexOf", desc := "([BIII)I", sig := { parameters := [(.array .byte), .int, .int, .int], returnType := some .int }, accessFlags := 9, code := some k8c12 }
def k8c13 : Code := { maxStack := 4, maxLocals := 4, code := jdk_52_method_47_code, exceptionTable := #[], attributes := #[] }
def k8m13 : Method := { name := "indexOfChar", desc := "([BIII)I", sig := { parameters := [(.array .byte), .int, .int, .int], returnType := some .int }, accessFlags := 10, code := some k8c13 }
def k8c14 : Code := { maxStack := 2, maxLocals := 5, code := jdk_52_method_48_code, exceptionTable := #[], attributes := #[] }
def k8m14 : Method := { name := "indexOfCharUnsafe", desc := "([BIII)I", sig := { parameters := [(.array .byte), .int, .int, .int], returnType := some .int }, accessFlags := 10, code := some k8c14 }
def k8c15 : Code := { maxStack := 3, maxLocals := 7, code := jdk_52_method_49_code, exceptionTable := #[], attributes := #[] }
def k8m15 : Method := { name := "indexOfSupplementary", desc := "([BIII)I", sig := { parameters := [(.array .byte), .int, .int, .int], returnType := some .int }, accessFlags := 10, code := some k8c15 }
def k8c16 : Code := { maxStack := 3, maxLocals := 3, code := jdk_52_method_71_code, exceptionTable := #[], attributes := #[] }
def k8m16 : Method := { name := "putCharSB", desc := "([BII)V", sig := { parameters := [(.array .byte), .int, .int], returnType := none }, accessFlags := 9, code := some k8c16 }
def k8c17 : Code := { maxStack := 2, maxLocals := 2, code := jdk_52_method_83_code, exceptionTable := #[], attributes := #[] }
def k8m17 : Method := { name := "charAt", desc := "([BI)C", sig := { parameters := [(.array .byte), .int], returnType := some .char }, accessFlags := 9, code := some k8c17 }
def k8c18 : Code := { maxStack := 4, maxLocals := 6, code := jdk_52_method_86_code, exceptionTable := #[], attributes := #[] }
def k8m18 : Method := { name := "inflate", desc := "([BI[BII)V", sig := { parameters := [(.array .byte), .int, (.array .byte), .int, .int], returnType := none }, accessFlags := 9, code := some k8c18 }
def k8c19 : Code := { maxStack := 2, maxLocals := 2, code := jdk_52_method_91_code, exceptionTable := #[], attributes := #[] }
def k8m19 : Method := { name := "checkIndex", desc := "(I[B)V", sig := { parameters := [.int, (.array .byte)], returnType := none }, accessFlags := 9, code := some k8c19 }
def k8c20 : Code := { maxStack := 3, maxLocals := 3, code := jdk_52_method_93_code, exceptionTable := #[], attributes := #[] }
def k8m20 : Method := { name := "checkBoundsBeginEnd", desc := "(II[B)V", sig := { parameters := [.int, .int, (.array .byte)], returnType := none }, accessFlags := 9, code := some k8c20 }
def k8c21 : Code := { maxStack := 3, maxLocals := 3, code := jdk_52_method_94_code, exceptionTable := #[], attributes := #[] }
def k8m21 : Method := { name := "checkBoundsOffCount", desc := "(II[B)V", sig := { parameters := [.int, .int, (.array .byte)], returnType := none }, accessFlags := 9, code := some k8c21 }
/-- java/lang/StringUTF16 -/
def k8 : Class := { plain "java/lang/StringUTF16" (some 0) with
  accessFlags := 48
  interfaces := #[]
  cf := some (fileOf pool8 12 #[.nestMembers #[627, 629, 369]] #[{ accessFlags := 0, nameIndex := 9, descriptorIndex := 10, attributes := #[] }, { accessFlags := 9, nameIndex := 109, descriptorIndex := 110, attributes := #[] }, { accessFlags := 9, nameIndex := 15, descriptorIndex := 16, attributes := #[] }, { accessFlags := 8, nameIndex := 113, descriptorIndex := 114, attributes := #[] }, { accessFlags := 8, nameIndex := 73, descriptorIndex := 74, attributes := #[] }, { accessFlags := 9, nameIndex := 50, descriptorIndex := 51, attributes := #[] }, { accessFlags := 10, nameIndex := 90, descriptorIndex := 91, attributes := #[] }, { accessFlags := 9, nameIndex := 90, descriptorIndex := 250, attributes := #[] }, { accessFlags := 9, nameIndex := 121, descriptorIndex := 122, attributes := #[] }, { accessFlags := 8, nameIndex := 261, descriptorIndex := 262, attributes := #[] }, { accessFlags := 9, nameIndex := 117, descriptorIndex := 122, attributes := #[] }, { accessFlags := 9, nameIndex := 117, descriptorIndex := 118, attributes := #[] }, { accessFlags := 9, nameIndex := 268, descriptorIndex := 231, attributes := #[] }, { accessFlags := 10, nameIndex := 230, descriptorIndex := 231, attributes := #[] }, { accessFlags := 10, nameIndex := 246, descriptorIndex := 231, attributes := #[] }, { accessFlags := 10, nameIndex := 234, descriptorIndex := 231, attributes := #[] }, { accessFlags := 9, nameIndex := 586, descriptorIndex := 114, attributes := #[] }, { accessFlags := 9, nameIndex := 392, descriptorIndex := 74, attributes := #[] }, { accessFlags := 9, nameIndex := 140, descriptorIndex := 141, attributes := #[] }, { accessFlags := 9, nameIndex := 69, descriptorIndex := 70, attributes := #[] }, { accessFlags := 9, nameIndex := 98, descriptorIndex := 99, attributes := #[] }, { accessFlags := 9, nameIndex := 175, descriptorIndex := 99, attributes := #[] }] 48 6 #[] #[{ accessFlags := 26, nameIndex := 61, descriptorIndex := 62, attributes := #[] }, { accessFlags := 26, nameIndex := 65, descriptorIndex := 62, attributes := #[] }, { accessFlags := 24, nameIndex := 430, descriptorIndex := 62, attributes := #[] }, { accessFlags := 4120, nameIndex := 46, descriptorIndex := 47, attributes := #[] }])
  fields := #[{ name := "HI_BYTE_SHIFT", type := .int, accessFlags := 26, slot := 0, constantValue := 0 }, { name := "LO_BYTE_SHIFT", type := .int, accessFlags := 26, slot := 1, constantValue := 0 }, { name := "MAX_LENGTH", type := .int, accessFlags := 24, slot := 2, constantValue := 0 }, { name := "$assertionsDisabled", type := .boolean, accessFlags := 4120, slot := 3, constantValue := 0 }]
  methods := #[k8m0, k8m1, k8m2, k8m3, k8m4, k8m5, k8m6, k8m7, k8m8, k8m9, k8m10, k8m11, k8m12, k8m13, k8m14, k8m15, k8m16, k8m17, k8m18, k8m19, k8m20, k8m21]
  instanceTypes := #[]
  staticTypes := #[.int, .int, .int, .boolean]
  resolved := Array.replicate 635 none
  statics := some 1 }

def pool9 : Array CpInfo := pool [(2, .class_ 4), (1, u "java/lang/Object"), (0, u "<init>"), (0, u "()V"), (0, .class_ 8), (0, u "com/example/triad/triad/rest/PercentEncoding"), (0, .string 10), (0, u "-._~"), (0, .methodref 12 13), (0, .class_ 14), (0, .nameAndType 15 16), (0, u "java/lang/String"), (0, u "indexOf"), (0, u "(I)I"), (0, .class_ 18), (0, u "java/lang/StringBuilder"), (0, .methodref 12 20), (0, .nameAndType 21 22), (0, u "length"), (0, u "()I"), (0, .methodref 17 24), (0, .nameAndType 5 25), (0, u "(I)V"), (0, .methodref 12 27), (0, .nameAndType 28 16), (0, u "codePointAt"), (0, .methodref 7 30), (0, .nameAndType 31 32), (0, u "isKept"), (0, u "(ILjava/lang/String;)Z"), (0, .methodref 17 34), (0, .nameAndType 35 36), (0, u "appendCodePoint"), (0, u "(I)Ljava/lang/StringBuilder;"), (0, .methodref 7 38), (0, .nameAndType 39 40), (0, u "appendEncoded"), (0, u "(Ljava/lang/StringBuilder;I)V"), (0, .methodref 42 43), (0, .class_ 44), (0, .nameAndType 45 16), (0, u "java/lang/Character"), (0, u "charCount"), (0, .methodref 17 47), (0, .nameAndType 48 49), (0, u "toString"), (0, u "()Ljava/lang/String;"), (0, .methodref 42 51), (0, .nameAndType 52 53), (0, u "toChars"), (0, u "(I)[C"), (0, .methodref 12 55), (0, .nameAndType 5 56), (0, u "([C)V"), (0, .fieldref 58 59), (0, .class_ 60), (0, .nameAndType 61 62), (0, u "java/nio/charset/StandardCharsets"), (0, u "UTF_8"), (0, u "Ljava/nio/charset/Charset;"), (0, .methodref 12 64), (0, .nameAndType 65 66), (0, u "getBytes"), (0, u "(Ljava/nio/charset/Charset;)[B"), (0, .methodref 17 68), (0, .nameAndType 69 70), (0, u "append"), (0, u "(C)Ljava/lang/StringBuilder;"), (0, .fieldref 7 72), (0, .nameAndType 73 74), (0, u "HEX"), (0, u "[C"), (6, u "UNRESERVED_MARKS"), (0, u "Ljava/lang/String;"), (4, u "encode"), (0, u "(Ljava/lang/String;Ljava/lang/String;)Ljava/lang/String;")] 5

def k9m0 : Method := { name := "<init>", desc := "()V", sig := { parameters := [], returnType := none }, accessFlags := 2, code := none }
def k9c1 : Code := { maxStack := 2, maxLocals := 3, code := prog_9_method_2_code, exceptionTable := #[], attributes := #[] }
def k9m1 : Method := { name := "isKept", desc := "(ILjava/lang/String;)Z", sig := { parameters := [.int, (.object "java/lang/String")], returnType := some .boolean }, accessFlags := 9, code := some k9c1 }
def k9c2 : Code := { maxStack := 3, maxLocals := 5, code := prog_9_method_3_code, exceptionTable := #[], attributes := #[] }
def k9m2 : Method := { name := "encode", desc := "(Ljava/lang/String;Ljava/lang/String;)Ljava/lang/String;", sig := { parameters := [(.object "java/lang/String"), (.object "java/lang/String")], returnType := some (.object "java/lang/String") }, accessFlags := 9, code := some k9c2 }
def k9c3 : Code := { maxStack := 4, maxLocals := 7, code := prog_9_method_4_code, exceptionTable := #[], attributes := #[] }
def k9m3 : Method := { name := "appendEncoded", desc := "(Ljava/lang/StringBuilder;I)V", sig := { parameters := [(.object "java/lang/StringBuilder"), .int], returnType := none }, accessFlags := 9, code := some k9c3 }
/-- com/example/triad/triad/rest/PercentEncoding -/
def k9 : Class := { plain "com/example/triad/triad/rest/PercentEncoding" (some 0) with
  accessFlags := 49
  interfaces := #[]
  cf := some (fileOf pool9 7 #[] #[{ accessFlags := 2, nameIndex := 5, descriptorIndex := 6, attributes := #[] }, { accessFlags := 9, nameIndex := 31, descriptorIndex := 32, attributes := #[] }, { accessFlags := 9, nameIndex := 87, descriptorIndex := 88, attributes := #[] }, { accessFlags := 9, nameIndex := 39, descriptorIndex := 40, attributes := #[] }] 49 2 #[] #[{ accessFlags := 26, nameIndex := 81, descriptorIndex := 82, attributes := #[] }, { accessFlags := 26, nameIndex := 73, descriptorIndex := 74, attributes := #[] }])
  fields := #[{ name := "UNRESERVED_MARKS", type := (.object "java/lang/String"), accessFlags := 26, slot := 0, constantValue := 0 }, { name := "HEX", type := (.array .char), accessFlags := 26, slot := 1, constantValue := 0 }]
  methods := #[k9m0, k9m1, k9m2, k9m3]
  instanceTypes := #[]
  staticTypes := #[(.object "java/lang/String"), (.array .char)]
  resolved := Array.replicate 94 none
  statics := some 2 }

def pool10 : Array CpInfo := pool [(1, .class_ 2), (0, u "java/lang/Appendable"), (0, .class_ 4), (0, u "java/lang/Object")] 9

/-- java/lang/Appendable -/
def k10 : Class := { plain "java/lang/Appendable" (some 0) with
  accessFlags := 1537
  interfaces := #[]
  cf := some (fileOf pool10 1 #[] #[] 1537 3 #[] #[])
  fields := #[]
  methods := #[]
  instanceTypes := #[]
  staticTypes := #[]
  resolved := Array.replicate 14 none
  statics := none }

def pool11 : Array CpInfo := pool [(1, .class_ 2), (0, u "java/lang/String"), (0, .methodref 4 5), (0, .class_ 6), (0, .nameAndType 7 8), (0, u "java/lang/Object"), (0, u "<init>"), (0, u "()V"), (1, .class_ 12), (1, u "java/lang/AbstractStringBuilder"), (0, u "EMPTYVALUE"), (0, u "[B"), (0, .fieldref 10 16), (0, .nameAndType 17 14), (0, u "value"), (0, .fieldref 1 19), (0, .nameAndType 20 21), (0, u "COMPACT_STRINGS"), (0, u "Z"), (0, .fieldref 10 23), (0, .nameAndType 24 25), (0, u "coder"), (0, u "B"), (0, .methodref 27 28), (0, .class_ 29), (0, .nameAndType 30 31), (0, u "java/lang/StringUTF16"), (0, u "newBytesFor"), (0, u "(I)[B"), (2, u "length"), (0, u "()I"), (3, .integer 2147483647), (5, u "append"), (2, .class_ 49), (0, u "java/lang/CharSequence"), (25, u "maybeLatin1"), (3, .fieldref 10 80), (0, .nameAndType 81 82), (0, u "count"), (0, u "I"), (0, .methodref 10 84), (0, .nameAndType 85 86), (0, u "isLatin1"), (0, u "()Z"), (1, .class_ 90), (1, u "java/lang/StringLatin1"), (9, .methodref 10 101), (0, .nameAndType 102 103), (0, u "ensureCapacityInternal"), (0, u "(I)V"), (0, .methodref 10 105), (0, .nameAndType 106 107), (0, u "newCapacity"), (0, u "(I)I"), (0, .methodref 109 110), (0, .class_ 111), (0, .nameAndType 112 113), (0, u "java/util/Arrays"), (0, u "copyOf"), (0, u "([BI)[B"), (0, .methodref 115 116), (0, .class_ 117), (0, .nameAndType 118 119), (0, u "jdk/internal/util/ArraysSupport"), (0, u "newLength"), (0, u "(III)I"), (5, .methodref 88 126), (0, .nameAndType 127 128), (0, u "inflate"), (0, u "([BI[BII)V"), (7, u "([BII)V"), (37, .class_ 176), (1, u "java/lang/Character"), (14, .methodref 88 192), (0, .nameAndType 193 194), (0, u "canEncode"), (0, u "(C)Z"), (0, .methodref 10 196), (0, .nameAndType 127 8), (0, .methodref 27 198), (0, .nameAndType 199 136), (0, u "putCharSB"), (86, .methodref 174 287), (0, .nameAndType 288 289), (0, u "isBmpCodePoint"), (0, u "(I)Z"), (0, .methodref 10 291), (0, .nameAndType 45 292), (0, u "(C)Ljava/lang/AbstractStringBuilder;"), (110, u "()[B"), (40, .class_ 445), (0, u "java/lang/Appendable"), (65, u "(I)Ljava/lang/AbstractStringBuilder;"), (14, u "appendCodePoint"), (25, u "getValue")] 56

def k11m0 : Method := { name := "<init>", desc := "()V", sig := { parameters := [], returnType := none }, accessFlags := 0, code := none }
def k11c1 : Code := { maxStack := 2, maxLocals := 2, code := jdk_68_method_2_code, exceptionTable := #[], attributes := #[] }
def k11m1 : Method := { name := "<init>", desc := "(I)V", sig := { parameters := [.int], returnType := none }, accessFlags := 0, code := some k11c1 }
def k11c2 : Code := { maxStack := 1, maxLocals := 1, code := jdk_68_method_6_code, exceptionTable := #[], attributes := #[] }
def k11m2 : Method := { name := "length", desc := "()I", sig := { parameters := [], returnType := some .int }, accessFlags := 1, code := some k11c2 }
def k11c3 : Code := { maxStack := 4, maxLocals := 3, code := jdk_68_method_9_code, exceptionTable := #[], attributes := #[] }
def k11m3 : Method := { name := "ensureCapacityInternal", desc := "(I)V", sig := { parameters := [.int], returnType := none }, accessFlags := 2, code := some k11c3 }
def k11c4 : Code := { maxStack := 5, maxLocals := 6, code := jdk_68_method_10_code, exceptionTable := #[], attributes := #[] }
def k11m4 : Method := { name := "newCapacity", desc := "(I)I", sig := { parameters := [.int], returnType := some .int }, accessFlags := 2, code := some k11c4 }
def k11c5 : Code := { maxStack := 5, maxLocals := 2, code := jdk_68_method_11_code, exceptionTable := #[], attributes := #[] }
def k11m5 : Method := { name := "inflate", desc := "()V", sig := { parameters := [], returnType := none }, accessFlags := 2, code := some k11c5 }
def k11c6 : Code := { maxStack := 5, maxLocals := 2, code := jdk_68_method_31_code, exceptionTable := #[], attributes := #[] }
def k11m6 : Method := { name := "append", desc := "(C)Ljava/lang/AbstractStringBuilder;", sig := { parameters := [.char], returnType := some (.object "java/lang/AbstractStringBuilder") }, accessFlags := 1, code := some k11c6 }
def k11c7 : Code := { maxStack := 2, maxLocals := 2, code := jdk_68_method_37_code, exceptionTable := #[], attributes := #[] }
def k11m7 : Method := { name := "appendCodePoint", desc := "(I)Ljava/lang/AbstractStringBuilder;", sig := { parameters := [.int], returnType := some (.object "java/lang/AbstractStringBuilder") }, accessFlags := 1, code := some k11c7 }
def k11c8 : Code := { maxStack := 1, maxLocals := 1, code := jdk_68_method_64_code, exceptionTable := #[], attributes := #[] }
def k11m8 : Method := { name := "getValue", desc := "()[B", sig := { parameters := [], returnType := some (.array .byte) }, accessFlags := 16, code := some k11c8 }
def k11c9 : Code := { maxStack := 1, maxLocals := 1, code := jdk_68_method_68_code, exceptionTable := #[], attributes := #[] }
def k11m9 : Method := { name := "isLatin1", desc := "()Z", sig := { parameters := [], returnType := some .boolean }, accessFlags := 16, code := some k11c9 }
/-- java/lang/AbstractStringBuilder -/
def k11 : Class := { plain "java/lang/AbstractStringBuilder" (some 0) with
  accessFlags := 1056
  interfaces := #[10, 4]
  cf := some (fileOf pool11 10 #[] #[{ accessFlags := 0, nameIndex := 7, descriptorIndex := 8, attributes := #[] }, { accessFlags := 0, nameIndex := 7, descriptorIndex := 103, attributes := #[] }, { accessFlags := 1, nameIndex := 34, descriptorIndex := 35, attributes := #[] }, { accessFlags := 2, nameIndex := 102, descriptorIndex := 103, attributes := #[] }, { accessFlags := 2, nameIndex := 106, descriptorIndex := 107, attributes := #[] }, { accessFlags := 2, nameIndex := 127, descriptorIndex := 8, attributes := #[] }, { accessFlags := 1, nameIndex := 45, descriptorIndex := 292, attributes := #[] }, { accessFlags := 1, nameIndex := 526, descriptorIndex := 511, attributes := #[] }, { accessFlags := 16, nameIndex := 552, descriptorIndex := 403, attributes := #[] }, { accessFlags := 16, nameIndex := 85, descriptorIndex := 86, attributes := #[] }] 1056 4 #[444, 48] #[{ accessFlags := 0, nameIndex := 17, descriptorIndex := 14, attributes := #[] }, { accessFlags := 0, nameIndex := 24, descriptorIndex := 25, attributes := #[] }, { accessFlags := 0, nameIndex := 75, descriptorIndex := 21, attributes := #[] }, { accessFlags := 0, nameIndex := 81, descriptorIndex := 82, attributes := #[] }, { accessFlags := 26, nameIndex := 13, descriptorIndex := 14, attributes := #[] }])
  fields := #[{ name := "value", type := (.array .byte), accessFlags := 0, slot := 0, constantValue := 0 }, { name := "coder", type := .byte, accessFlags := 0, slot := 1, constantValue := 0 }, { name := "maybeLatin1", type := .boolean, accessFlags := 0, slot := 2, constantValue := 0 }, { name := "count", type := .int, accessFlags := 0, slot := 3, constantValue := 0 }, { name := "EMPTYVALUE", type := (.array .byte), accessFlags := 26, slot := 0, constantValue := 0 }]
  methods := #[k11m0, k11m1, k11m2, k11m3, k11m4, k11m5, k11m6, k11m7, k11m8, k11m9]
  instanceTypes := #[(.array .byte), .byte, .boolean, .int]
  staticTypes := #[(.array .byte)]
  resolved := Array.replicate 609 none
  statics := none }

def pool12 : Array CpInfo := pool [(1, .methodref 2 3), (0, .class_ 4), (0, .nameAndType 5 6), (0, u "java/lang/AbstractStringBuilder"), (0, u "<init>"), (0, u "(I)V"), (11, .class_ 20), (1, u "java/lang/String"), (3, .class_ 26), (1, u "java/lang/StringBuilder"), (0, u "append"), (22, .methodref 2 51), (0, .nameAndType 27 52), (0, u "(C)Ljava/lang/AbstractStringBuilder;"), (2, u "(I)Ljava/lang/AbstractStringBuilder;"), (9, .methodref 2 66), (0, .nameAndType 67 55), (0, u "appendCodePoint"), (69, .methodref 18 138), (0, .nameAndType 5 139), (0, u "(Ljava/lang/StringBuilder;)V"), (5, u "()V"), (10, u "()I"), (111, u "(I)Ljava/lang/StringBuilder;"), (15, .methodref 24 285), (0, .nameAndType 27 286), (0, u "(C)Ljava/lang/StringBuilder;"), (56, .methodref 2 344), (0, .nameAndType 345 156), (0, u "length"), (3, .class_ 350), (0, u "java/lang/Appendable"), (0, .class_ 352), (0, u "java/io/Serializable"), (0, .class_ 354), (0, u "java/lang/Comparable"), (0, .class_ 356), (0, u "java/lang/CharSequence"), (0, u "serialVersionUID"), (0, u "J"), (40, u "toString"), (0, u "()Ljava/lang/String;")] 21

def k12m0 : Method := { name := "<init>", desc := "()V", sig := { parameters := [], returnType := none }, accessFlags := 1, code := none }
def k12c1 : Code := { maxStack := 2, maxLocals := 2, code := jdk_67_method_2_code, exceptionTable := #[], attributes := #[] }
def k12m1 : Method := { name := "<init>", desc := "(I)V", sig := { parameters := [.int], returnType := none }, accessFlags := 1, code := some k12c1 }
def k12c2 : Code := { maxStack := 2, maxLocals := 2, code := jdk_67_method_14_code, exceptionTable := #[], attributes := #[] }
def k12m2 : Method := { name := "append", desc := "(C)Ljava/lang/StringBuilder;", sig := { parameters := [.char], returnType := some (.object "java/lang/StringBuilder") }, accessFlags := 1, code := some k12c2 }
def k12c3 : Code := { maxStack := 2, maxLocals := 2, code := jdk_67_method_19_code, exceptionTable := #[], attributes := #[] }
def k12m3 : Method := { name := "appendCodePoint", desc := "(I)Ljava/lang/StringBuilder;", sig := { parameters := [.int], returnType := some (.object "java/lang/StringBuilder") }, accessFlags := 1, code := some k12c3 }
def k12c4 : Code := { maxStack := 3, maxLocals := 1, code := jdk_67_method_42_code, exceptionTable := #[], attributes := #[] }
def k12m4 : Method := { name := "toString", desc := "()Ljava/lang/String;", sig := { parameters := [], returnType := some (.object "java/lang/String") }, accessFlags := 1, code := some k12c4 }
def k12c5 : Code := { maxStack := 2, maxLocals := 2, code := jdk_67_method_73_code, exceptionTable := #[], attributes := #[] }
def k12m5 : Method := { name := "append", desc := "(C)Ljava/lang/AbstractStringBuilder;", sig := { parameters := [.char], returnType := some (.object "java/lang/AbstractStringBuilder") }, accessFlags := 4161, code := some k12c5 }
def k12c6 : Code := { maxStack := 1, maxLocals := 1, code := jdk_67_method_93_code, exceptionTable := #[], attributes := #[] }
def k12m6 : Method := { name := "length", desc := "()I", sig := { parameters := [], returnType := some .int }, accessFlags := 4161, code := some k12c6 }
/-- java/lang/StringBuilder -/
def k12 : Class := { plain "java/lang/StringBuilder" (some 11) with
  accessFlags := 49
  interfaces := #[10, 2, 3, 4]
  cf := some (fileOf pool12 24 #[] #[{ accessFlags := 1, nameIndex := 5, descriptorIndex := 145, attributes := #[] }, { accessFlags := 1, nameIndex := 5, descriptorIndex := 6, attributes := #[] }, { accessFlags := 1, nameIndex := 27, descriptorIndex := 286, attributes := #[] }, { accessFlags := 1, nameIndex := 67, descriptorIndex := 268, attributes := #[] }, { accessFlags := 1, nameIndex := 399, descriptorIndex := 400, attributes := #[] }, { accessFlags := 4161, nameIndex := 27, descriptorIndex := 52, attributes := #[] }, { accessFlags := 4161, nameIndex := 345, descriptorIndex := 156, attributes := #[] }] 49 2 #[349, 351, 353, 355] #[{ accessFlags := 24, nameIndex := 357, descriptorIndex := 358, attributes := #[] }])
  fields := #[{ name := "serialVersionUID", type := .long, accessFlags := 24, slot := 0, constantValue := 0 }]
  methods := #[k12m0, k12m1, k12m2, k12m3, k12m4, k12m5, k12m6]
  instanceTypes := #[(.array .byte), .byte, .boolean, .int]
  staticTypes := #[.long]
  resolved := Array.replicate 422 none
  statics := none }

def pool13 : Array CpInfo := pool [(2, .class_ 4), (1, u "java/lang/Object"), (0, u "<init>"), (0, u "()V"), (17, .class_ 26), (1, u "jdk/internal/util/Preconditions"), (6, u "checkIndex"), (13, u "checkFromToIndex"), (1, u "checkFromIndexSize"), (5, .class_ 56), (0, u "jdk/internal/util/Preconditions$4"), (57, .class_ 115), (0, u "jdk/internal/util/Preconditions$1"), (7, u "SIOOBE_FORMATTER"), (0, u "Ljava/util/function/BiFunction;"), (0, .class_ 126), (0, u "jdk/internal/util/Preconditions$2"), (3, u "AIOOBE_FORMATTER"), (0, .class_ 132), (0, u "jdk/internal/util/Preconditions$3"), (3, u "IOOBE_FORMATTER"), (41, u "(IILjava/util/function/BiFunction;)I"), (4, u "(IIILjava/util/function/BiFunction;)I")] 10

def k13m0 : Method := { name := "<init>", desc := "()V", sig := { parameters := [], returnType := none }, accessFlags := 1, code := none }
def k13c1 : Code := { maxStack := 3, maxLocals := 3, code := jdk_41_method_11_code, exceptionTable := #[], attributes := #[] }
def k13m1 : Method := { name := "checkIndex", desc := "(IILjava/util/function/BiFunction;)I", sig := { parameters := [.int, .int, (.object "java/util/function/BiFunction")], returnType := some .int }, accessFlags := 9, code := some k13c1 }
def k13c2 : Code := { maxStack := 4, maxLocals := 4, code := jdk_41_method_12_code, exceptionTable := #[], attributes := #[] }
def k13m2 : Method := { name := "checkFromToIndex", desc := "(IIILjava/util/function/BiFunction;)I", sig := { parameters := [.int, .int, .int, (.object "java/util/function/BiFunction")], returnType := some .int }, accessFlags := 9, code := some k13c2 }
def k13c3 : Code := { maxStack := 4, maxLocals := 4, code := jdk_41_method_13_code, exceptionTable := #[], attributes := #[] }
def k13m3 : Method := { name := "checkFromIndexSize", desc := "(IIILjava/util/function/BiFunction;)I", sig := { parameters := [.int, .int, .int, (.object "java/util/function/BiFunction")], returnType := some .int }, accessFlags := 9, code := some k13c3 }
/-- jdk/internal/util/Preconditions -/
def k13 : Class := { plain "jdk/internal/util/Preconditions" (some 0) with
  accessFlags := 33
  interfaces := #[]
  cf := some (fileOf pool13 24 #[.nestMembers #[55, 131, 125, 114]] #[{ accessFlags := 1, nameIndex := 5, descriptorIndex := 6, attributes := #[] }, { accessFlags := 9, nameIndex := 33, descriptorIndex := 178, attributes := #[] }, { accessFlags := 9, nameIndex := 47, descriptorIndex := 183, attributes := #[] }, { accessFlags := 9, nameIndex := 49, descriptorIndex := 183, attributes := #[] }] 33 2 #[] #[{ accessFlags := 25, nameIndex := 123, descriptorIndex := 124, attributes := #[] }, { accessFlags := 25, nameIndex := 130, descriptorIndex := 124, attributes := #[] }, { accessFlags := 25, nameIndex := 136, descriptorIndex := 124, attributes := #[] }])
  fields := #[{ name := "SIOOBE_FORMATTER", type := (.object "java/util/function/BiFunction"), accessFlags := 25, slot := 0, constantValue := 0 }, { name := "AIOOBE_FORMATTER", type := (.object "java/util/function/BiFunction"), accessFlags := 25, slot := 1, constantValue := 0 }, { name := "IOOBE_FORMATTER", type := (.object "java/util/function/BiFunction"), accessFlags := 25, slot := 2, constantValue := 0 }]
  methods := #[k13m0, k13m1, k13m2, k13m3]
  instanceTypes := #[]
  staticTypes := #[(.object "java/util/function/BiFunction"), (.object "java/util/function/BiFunction"), (.object "java/util/function/BiFunction")]
  resolved := Array.replicate 194 none
  statics := some 3 }

def pool14 : Array CpInfo := pool [(1, .class_ 2), (0, u "java/lang/String"), (1, .class_ 6), (1, u "java/lang/Object"), (0, u "<init>"), (0, u "()V"), (0, .methodref 1 10), (0, .nameAndType 11 12), (0, u "checkIndex"), (0, u "(II)V"), (1, .class_ 16), (1, u "java/lang/StringLatin1"), (0, u "inflate"), (2, .class_ 22), (1, u "java/lang/StringUTF16"), (3, .nameAndType 17 27), (0, u "([BI[BII)V"), (10, .methodref 39 40), (0, .class_ 41), (0, .nameAndType 42 43), (0, u "java/lang/Math"), (0, u "min"), (0, u "(II)I"), (9, u "([BI)C"), (34, .methodref 14 89), (0, .nameAndType 90 91), (0, u "canEncode"), (0, u "(I)Z"), (0, .methodref 39 93), (0, .nameAndType 94 43), (0, u "max"), (0, .methodref 14 96), (0, .nameAndType 97 98), (0, u "indexOfChar"), (0, u "([BIII)I"), (2, u "indexOf"), (3, u "(C)Z"), (15, u "$assertionsDisabled"), (0, u "Z"), (98, .class_ 223), (1, u "java/lang/StringLatin1$LinesSpliterator"), (16, .methodref 20 26), (11, u "charAt"), (137, .class_ 391), (0, u "java/lang/StringLatin1$CharsSpliterator")] 3

def k14m0 : Method := { name := "<init>", desc := "()V", sig := { parameters := [], returnType := none }, accessFlags := 0, code := none }
def k14c1 : Code := { maxStack := 2, maxLocals := 2, code := jdk_43_method_2_code, exceptionTable := #[], attributes := #[] }
def k14m1 : Method := { name := "charAt", desc := "([BI)C", sig := { parameters := [(.array .byte), .int], returnType := some .char }, accessFlags := 9, code := some k14c1 }
def k14c2 : Code := { maxStack := 2, maxLocals := 1, code := jdk_43_method_3_code, exceptionTable := #[], attributes := #[] }
def k14m2 : Method := { name := "canEncode", desc := "(C)Z", sig := { parameters := [.char], returnType := some .boolean }, accessFlags := 9, code := some k14c2 }
def k14c3 : Code := { maxStack := 2, maxLocals := 1, code := jdk_43_method_4_code, exceptionTable := #[], attributes := #[] }
def k14m3 : Method := { name := "canEncode", desc := "(I)Z", sig := { parameters := [.int], returnType := some .boolean }, accessFlags := 9, code := some k14c3 }
def k14c4 : Code := { maxStack := 4, maxLocals := 4, code := jdk_43_method_22_code, exceptionTable := #[], attributes := #[] }
def k14m4 : Method := { name := "indexOf", desc := "([BIII)I", sig := { parameters := [(.array .byte), .int, .int, .int], returnType := some .int }, accessFlags := 9, code := some k14c4 }
def k14c5 : Code := { maxStack := 2, maxLocals := 6, code := jdk_43_method_23_code, exceptionTable := #[], attributes := #[] }
def k14m5 : Method := { name := "indexOfChar", desc := "([BIII)I", sig := { parameters := [(.array .byte), .int, .int, .int], returnType := some .int }, accessFlags := 10, code := some k14c5 }
def k14c6 : Code := { maxStack := 5, maxLocals := 5, code := jdk_43_method_50_code, exceptionTable := #[], attributes := #[] }
def k14m6 : Method := { name := "inflate", desc := "([BI[BII)V", sig := { parameters := [(.array .byte), .int, (.array .byte), .int, .int], returnType := none }, accessFlags := 9, code := some k14c6 }
/-- java/lang/StringLatin1 -/
def k14 : Class := { plain "java/lang/StringLatin1" (some 0) with
  accessFlags := 48
  interfaces := #[]
  cf := some (fileOf pool14 14 #[.nestMembers #[390, 221]] #[{ accessFlags := 0, nameIndex := 7, descriptorIndex := 8, attributes := #[] }, { accessFlags := 9, nameIndex := 252, descriptorIndex := 53, attributes := #[] }, { accessFlags := 9, nameIndex := 90, descriptorIndex := 105, attributes := #[] }, { accessFlags := 9, nameIndex := 90, descriptorIndex := 91, attributes := #[] }, { accessFlags := 9, nameIndex := 101, descriptorIndex := 98, attributes := #[] }, { accessFlags := 10, nameIndex := 97, descriptorIndex := 98, attributes := #[] }, { accessFlags := 9, nameIndex := 17, descriptorIndex := 27, attributes := #[] }] 48 4 #[] #[{ accessFlags := 4120, nameIndex := 121, descriptorIndex := 122, attributes := #[] }])
  fields := #[{ name := "$assertionsDisabled", type := .boolean, accessFlags := 4120, slot := 0, constantValue := 0 }]
  methods := #[k14m0, k14m1, k14m2, k14m3, k14m4, k14m5, k14m6]
  instanceTypes := #[]
  staticTypes := #[.boolean]
  resolved := Array.replicate 395 none
  statics := none }

def pool15 : Array CpInfo := pool [(1, .class_ 2), (0, u "java/lang/Math"), (1, .class_ 6), (1, u "java/lang/Object"), (0, u "<init>"), (0, u "()V"), (89, .class_ 100), (1, u "java/lang/Math$RandomNumberGeneratorHolder"), (71, u "negativeZeroFloatBits"), (0, u "J"), (2, u "negativeZeroDoubleBits"), (21, u "max"), (2, u "min"), (43, u "$assertionsDisabled"), (0, u "Z"), (88, u "(II)I"), (2, u "twoToTheDoubleScaleDown"), (0, u "D"), (4, u "twoToTheDoubleScaleUp"), (9, u "E"), (3, u "PI"), (2, u "TAU"), (2, u "DEGREES_TO_RADIANS"), (0, u "RADIANS_TO_DEGREES")] 94

def k15m0 : Method := { name := "<init>", desc := "()V", sig := { parameters := [], returnType := none }, accessFlags := 2, code := none }
def k15c1 : Code := { maxStack := 2, maxLocals := 2, code := jdk_29_method_65_code, exceptionTable := #[], attributes := #[] }
def k15m1 : Method := { name := "max", desc := "(II)I", sig := { parameters := [.int, .int], returnType := some .int }, accessFlags := 9, code := some k15c1 }
def k15c2 : Code := { maxStack := 2, maxLocals := 2, code := jdk_29_method_69_code, exceptionTable := #[], attributes := #[] }
def k15m2 : Method := { name := "min", desc := "(II)I", sig := { parameters := [.int, .int], returnType := some .int }, accessFlags := 9, code := some k15c2 }
/-- java/lang/Math -/
def k15 : Class := { plain "java/lang/Math" (some 0) with
  accessFlags := 49
  interfaces := #[]
  cf := some (fileOf pool15 1 #[.nestMembers #[98]] #[{ accessFlags := 2, nameIndex := 7, descriptorIndex := 8, attributes := #[] }, { accessFlags := 9, nameIndex := 198, descriptorIndex := 335, attributes := #[] }, { accessFlags := 9, nameIndex := 201, descriptorIndex := 335, attributes := #[] }] 49 4 #[] #[{ accessFlags := 25, nameIndex := 354, descriptorIndex := 339, attributes := #[] }, { accessFlags := 25, nameIndex := 358, descriptorIndex := 339, attributes := #[] }, { accessFlags := 25, nameIndex := 361, descriptorIndex := 339, attributes := #[] }, { accessFlags := 26, nameIndex := 364, descriptorIndex := 339, attributes := #[] }, { accessFlags := 26, nameIndex := 365, descriptorIndex := 339, attributes := #[] }, { accessFlags := 26, nameIndex := 172, descriptorIndex := 173, attributes := #[] }, { accessFlags := 26, nameIndex := 176, descriptorIndex := 173, attributes := #[] }, { accessFlags := 8, nameIndex := 344, descriptorIndex := 339, attributes := #[] }, { accessFlags := 8, nameIndex := 338, descriptorIndex := 339, attributes := #[] }, { accessFlags := 4120, nameIndex := 245, descriptorIndex := 246, attributes := #[] }])
  fields := #[{ name := "E", type := .double, accessFlags := 25, slot := 0, constantValue := 0 }, { name := "PI", type := .double, accessFlags := 25, slot := 1, constantValue := 0 }, { name := "TAU", type := .double, accessFlags := 25, slot := 2, constantValue := 0 }, { name := "DEGREES_TO_RADIANS", type := .double, accessFlags := 26, slot := 3, constantValue := 0 }, { name := "RADIANS_TO_DEGREES", type := .double, accessFlags := 26, slot := 4, constantValue := 0 }, { name := "negativeZeroFloatBits", type := .long, accessFlags := 26, slot := 5, constantValue := 0 }, { name := "negativeZeroDoubleBits", type := .long, accessFlags := 26, slot := 6, constantValue := 0 }, { name := "twoToTheDoubleScaleUp", type := .double, accessFlags := 8, slot := 7, constantValue := 0 }, { name := "twoToTheDoubleScaleDown", type := .double, accessFlags := 8, slot := 8, constantValue := 0 }, { name := "$assertionsDisabled", type := .boolean, accessFlags := 4120, slot := 9, constantValue := 0 }]
  methods := #[k15m0, k15m1, k15m2]
  instanceTypes := #[]
  staticTypes := #[.double, .double, .double, .double, .double, .long, .long, .double, .double, .boolean]
  resolved := Array.replicate 460 none
  statics := none }

def pool16 : Array CpInfo := pool [(1, .class_ 2), (0, u "java/lang/Character"), (18, u "value"), (0, u "C"), (19, .class_ 44), (1, u "java/lang/Object"), (3, .class_ 50), (1, u "java/lang/Character$CharacterCache"), (22, .integer 65536), (1, .integer 55296), (0, .integer 56320), (0, .integer 57344), (2, u "isHighSurrogate"), (0, u "(C)Z"), (2, u "isLowSurrogate"), (0, .integer 4238353408), (5, u "(I)C"), (6, u "toCodePoint"), (0, u "(CC)I"), (10, .integer 55232), (0, .methodref 1 112), (0, .nameAndType 113 114), (0, u "isBmpCodePoint"), (0, u "(I)Z"), (0, .methodref 1 116), (0, .nameAndType 117 114), (0, u "isValidCodePoint"), (0, .methodref 1 119), (0, .nameAndType 120 121), (0, u "toSurrogates"), (0, u "(I[CI)V"), (11, .methodref 1 134), (0, .nameAndType 135 91), (0, u "lowSurrogate"), (0, .methodref 1 137), (0, .nameAndType 138 91), (0, u "highSurrogate"), (35, u "(I)I"), (109, u "$assertionsDisabled"), (0, u "Z"), (9, u "(I)[C"), (11, .class_ 309), (1, u "java/lang/Character$UnicodeBlock"), (73, u "TYPE"), (0, u "Ljava/lang/Class;"), (0, .class_ 386), (0, u "java/io/Serializable"), (0, .class_ 388), (0, u "java/lang/Comparable"), (0, .class_ 390), (0, u "java/lang/constant/Constable"), (0, u "MIN_RADIX"), (0, u "I"), (2, u "MAX_RADIX"), (1, u "MIN_VALUE"), (1, u "MAX_VALUE"), (3, u "UNASSIGNED"), (0, u "B"), (0, u "UPPERCASE_LETTER"), (1, u "LOWERCASE_LETTER"), (0, u "TITLECASE_LETTER"), (1, u "MODIFIER_LETTER"), (1, u "OTHER_LETTER"), (1, u "NON_SPACING_MARK"), (1, u "ENCLOSING_MARK"), (1, u "COMBINING_SPACING_MARK"), (1, u "DECIMAL_DIGIT_NUMBER"), (1, u "LETTER_NUMBER"), (1, u "OTHER_NUMBER"), (1, u "SPACE_SEPARATOR"), (1, u "LINE_SEPARATOR"), (1, u "PARAGRAPH_SEPARATOR"), (1, u "CONTROL"), (1, u "FORMAT"), (1, u "PRIVATE_USE"), (1, u "SURROGATE"), (1, u "DASH_PUNCTUATION"), (1, u "START_PUNCTUATION"), (1, u "END_PUNCTUATION"), (1, u "CONNECTOR_PUNCTUATION"), (1, u "OTHER_PUNCTUATION"), (1, u "MATH_SYMBOL"), (1, u "CURRENCY_SYMBOL"), (1, u "MODIFIER_SYMBOL"), (1, u "OTHER_SYMBOL"), (1, u "INITIAL_QUOTE_PUNCTUATION"), (1, u "FINAL_QUOTE_PUNCTUATION"), (1, u "ERROR"), (1, u "DIRECTIONALITY_UNDEFINED"), (0, u "DIRECTIONALITY_LEFT_TO_RIGHT"), (0, u "DIRECTIONALITY_RIGHT_TO_LEFT"), (0, u "DIRECTIONALITY_RIGHT_TO_LEFT_ARABIC"), (0, u "DIRECTIONALITY_EUROPEAN_NUMBER"), (0, u "DIRECTIONALITY_EUROPEAN_NUMBER_SEPARATOR"), (0, u "DIRECTIONALITY_EUROPEAN_NUMBER_TERMINATOR"), (0, u "DIRECTIONALITY_ARABIC_NUMBER"), (0, u "DIRECTIONALITY_COMMON_NUMBER_SEPARATOR"), (0, u "DIRECTIONALITY_NONSPACING_MARK"), (0, u "DIRECTIONALITY_BOUNDARY_NEUTRAL"), (0, u "DIRECTIONALITY_PARAGRAPH_SEPARATOR"), (0, u "DIRECTIONALITY_SEGMENT_SEPARATOR"), (0, u "DIRECTIONALITY_WHITESPACE"), (0, u "DIRECTIONALITY_OTHER_NEUTRALS"), (0, u "DIRECTIONALITY_LEFT_TO_RIGHT_EMBEDDING"), (0, u "DIRECTIONALITY_LEFT_TO_RIGHT_OVERRIDE"), (0, u "DIRECTIONALITY_RIGHT_TO_LEFT_EMBEDDING"), (0, u "DIRECTIONALITY_RIGHT_TO_LEFT_OVERRIDE"), (1, u "DIRECTIONALITY_POP_DIRECTIONAL_FORMAT"), (0, u "DIRECTIONALITY_LEFT_TO_RIGHT_ISOLATE"), (0, u "DIRECTIONALITY_RIGHT_TO_LEFT_ISOLATE"), (0, u "DIRECTIONALITY_FIRST_STRONG_ISOLATE"), (0, u "DIRECTIONALITY_POP_DIRECTIONAL_ISOLATE"), (0, u "MIN_HIGH_SURROGATE"), (0, u "MAX_HIGH_SURROGATE"), (1, u "MIN_LOW_SURROGATE"), (0, u "MAX_LOW_SURROGATE"), (1, u "MIN_SURROGATE"), (0, u "MAX_SURROGATE"), (0, u "MIN_SUPPLEMENTARY_CODE_POINT"), (0, u "MIN_CODE_POINT"), (0, u "MAX_CODE_POINT"), (1, u "serialVersionUID"), (0, u "J"), (2, u "SIZE"), (0, u "BYTES"), (24, u "isSurrogate"), (4, u "charCount"), (13, u "toChars"), (44, .class_ 596), (0, u "java/lang/Character$UnicodeScript"), (0, .class_ 598), (0, u "java/lang/Character$Subset")] 5

def k16c0 : Code := { maxStack := 2, maxLocals := 2, code := jdk_89_method_11_code, exceptionTable := #[], attributes := #[] }
def k16m0 : Method := { name := "isValidCodePoint", desc := "(I)Z", sig := { parameters := [.int], returnType := some .boolean }, accessFlags := 9, code := some k16c0 }
def k16c1 : Code := { maxStack := 2, maxLocals := 1, code := jdk_89_method_12_code, exceptionTable := #[], attributes := #[] }
def k16m1 : Method := { name := "isBmpCodePoint", desc := "(I)Z", sig := { parameters := [.int], returnType := some .boolean }, accessFlags := 9, code := some k16c1 }
def k16c2 : Code := { maxStack := 2, maxLocals := 1, code := jdk_89_method_14_code, exceptionTable := #[], attributes := #[] }
def k16m2 : Method := { name := "isHighSurrogate", desc := "(C)Z", sig := { parameters := [.char], returnType := some .boolean }, accessFlags := 9, code := some k16c2 }
def k16c3 : Code := { maxStack := 2, maxLocals := 1, code := jdk_89_method_15_code, exceptionTable := #[], attributes := #[] }
def k16m3 : Method := { name := "isLowSurrogate", desc := "(C)Z", sig := { parameters := [.char], returnType := some .boolean }, accessFlags := 9, code := some k16c3 }
def k16c4 : Code := { maxStack := 2, maxLocals := 1, code := jdk_89_method_16_code, exceptionTable := #[], attributes := #[] }
def k16m4 : Method := { name := "isSurrogate", desc := "(C)Z", sig := { parameters := [.char], returnType := some .boolean }, accessFlags := 9, code := some k16c4 }
def k16c5 : Code := { maxStack := 2, maxLocals := 1, code := jdk_89_method_18_code, exceptionTable := #[], attributes := #[] }
def k16m5 : Method := { name := "charCount", desc := "(I)I", sig := { parameters := [.int], returnType := some .int }, accessFlags := 9, code := some k16c5 }
def k16c6 : Code := { maxStack := 2, maxLocals := 2, code := jdk_89_method_19_code, exceptionTable := #[], attributes := #[] }
def k16m6 : Method := { name := "toCodePoint", desc := "(CC)I", sig := { parameters := [.char, .char], returnType := some .int }, accessFlags := 9, code := some k16c6 }
def k16c7 : Code := { maxStack := 2, maxLocals := 1, code := jdk_89_method_28_code, exceptionTable := #[], attributes := #[] }
def k16m7 : Method := { name := "highSurrogate", desc := "(I)C", sig := { parameters := [.int], returnType := some .char }, accessFlags := 9, code := some k16c7 }
def k16c8 : Code := { maxStack := 2, maxLocals := 1, code := jdk_89_method_29_code, exceptionTable := #[], attributes := #[] }
def k16m8 : Method := { name := "lowSurrogate", desc := "(I)C", sig := { parameters := [.int], returnType := some .char }, accessFlags := 9, code := some k16c8 }
def k16c9 : Code := { maxStack := 7, maxLocals := 2, code := jdk_89_method_31_code, exceptionTable := #[], attributes := #[] }
def k16m9 : Method := { name := "toChars", desc := "(I)[C", sig := { parameters := [.int], returnType := some (.array .char) }, accessFlags := 9, code := some k16c9 }
def k16c10 : Code := { maxStack := 3, maxLocals := 3, code := jdk_89_method_32_code, exceptionTable := #[], attributes := #[] }
def k16m10 : Method := { name := "toSurrogates", desc := "(I[CI)V", sig := { parameters := [.int, (.array .char), .int], returnType := none }, accessFlags := 8, code := some k16c10 }
/-- java/lang/Character -/
def k16 : Class := { plain "java/lang/Character" (some 0) with
  accessFlags := 49
  interfaces := #[2, 3, 5]
  cf := some (fileOf pool16 1 #[.nestMembers #[48, 595, 307, 597]] #[{ accessFlags := 9, nameIndex := 117, descriptorIndex := 114, attributes := #[] }, { accessFlags := 9, nameIndex := 113, descriptorIndex := 114, attributes := #[] }, { accessFlags := 9, nameIndex := 80, descriptorIndex := 81, attributes := #[] }, { accessFlags := 9, nameIndex := 84, descriptorIndex := 81, attributes := #[] }, { accessFlags := 9, nameIndex := 531, descriptorIndex := 81, attributes := #[] }, { accessFlags := 9, nameIndex := 536, descriptorIndex := 174, attributes := #[] }, { accessFlags := 9, nameIndex := 98, descriptorIndex := 99, attributes := #[] }, { accessFlags := 9, nameIndex := 138, descriptorIndex := 91, attributes := #[] }, { accessFlags := 9, nameIndex := 135, descriptorIndex := 91, attributes := #[] }, { accessFlags := 9, nameIndex := 550, descriptorIndex := 295, attributes := #[] }, { accessFlags := 8, nameIndex := 120, descriptorIndex := 121, attributes := #[] }] 49 42 #[385, 387, 389] #[{ accessFlags := 25, nameIndex := 391, descriptorIndex := 392, attributes := #[] }, { accessFlags := 25, nameIndex := 395, descriptorIndex := 392, attributes := #[] }, { accessFlags := 25, nameIndex := 397, descriptorIndex := 22, attributes := #[] }, { accessFlags := 25, nameIndex := 399, descriptorIndex := 22, attributes := #[] }, { accessFlags := 25, nameIndex := 383, descriptorIndex := 384, attributes := #[] }, { accessFlags := 25, nameIndex := 403, descriptorIndex := 404, attributes := #[] }, { accessFlags := 25, nameIndex := 405, descriptorIndex := 404, attributes := #[] }, { accessFlags := 25, nameIndex := 407, descriptorIndex := 404, attributes := #[] }, { accessFlags := 25, nameIndex := 408, descriptorIndex := 404, attributes := #[] }, { accessFlags := 25, nameIndex := 410, descriptorIndex := 404, attributes := #[] }, { accessFlags := 25, nameIndex := 412, descriptorIndex := 404, attributes := #[] }, { accessFlags := 25, nameIndex := 414, descriptorIndex := 404, attributes := #[] }, { accessFlags := 25, nameIndex := 416, descriptorIndex := 404, attributes := #[] }, { accessFlags := 25, nameIndex := 418, descriptorIndex := 404, attributes := #[] }, { accessFlags := 25, nameIndex := 420, descriptorIndex := 404, attributes := #[] }, { accessFlags := 25, nameIndex := 422, descriptorIndex := 404, attributes := #[] }, { accessFlags := 25, nameIndex := 424, descriptorIndex := 404, attributes := #[] }, { accessFlags := 25, nameIndex := 426, descriptorIndex := 404, attributes := #[] }, { accessFlags := 25, nameIndex := 428, descriptorIndex := 404, attributes := #[] }, { accessFlags := 25, nameIndex := 430, descriptorIndex := 404, attributes := #[] }, { accessFlags := 25, nameIndex := 432, descriptorIndex := 404, attributes := #[] }, { accessFlags := 25, nameIndex := 434, descriptorIndex := 404, attributes := #[] }, { accessFlags := 25, nameIndex := 436, descriptorIndex := 404, attributes := #[] }, { accessFlags := 25, nameIndex := 438, descriptorIndex := 404, attributes := #[] }, { accessFlags := 25, nameIndex := 440, descriptorIndex := 404, attributes := #[] }, { accessFlags := 25, nameIndex := 442, descriptorIndex := 404, attributes := #[] }, { accessFlags := 25, nameIndex := 444, descriptorIndex := 404, attributes := #[] }, { accessFlags := 25, nameIndex := 446, descriptorIndex := 404, attributes := #[] }, { accessFlags := 25, nameIndex := 448, descriptorIndex := 404, attributes := #[] }, { accessFlags := 25, nameIndex := 450, descriptorIndex := 404, attributes := #[] }, { accessFlags := 25, nameIndex := 452, descriptorIndex := 404, attributes := #[] }, { accessFlags := 25, nameIndex := 454, descriptorIndex := 404, attributes := #[] }, { accessFlags := 25, nameIndex := 456, descriptorIndex := 404, attributes := #[] }, { accessFlags := 25, nameIndex := 458, descriptorIndex := 404, attributes := #[] }, { accessFlags := 25, nameIndex := 460, descriptorIndex := 404, attributes := #[] }, { accessFlags := 24, nameIndex := 462, descriptorIndex := 392, attributes := #[] }, { accessFlags := 25, nameIndex := 464, descriptorIndex := 404, attributes := #[] }, { accessFlags := 25, nameIndex := 465, descriptorIndex := 404, attributes := #[] }, { accessFlags := 25, nameIndex := 466, descriptorIndex := 404, attributes := #[] }, { accessFlags := 25, nameIndex := 467, descriptorIndex := 404, attributes := #[] }, { accessFlags := 25, nameIndex := 468, descriptorIndex := 404, attributes := #[] }, { accessFlags := 25, nameIndex := 469, descriptorIndex := 404, attributes := #[] }, { accessFlags := 25, nameIndex := 470, descriptorIndex := 404, attributes := #[] }, { accessFlags := 25, nameIndex := 471, descriptorIndex := 404, attributes := #[] }, { accessFlags := 25, nameIndex := 472, descriptorIndex := 404, attributes := #[] }, { accessFlags := 25, nameIndex := 473, descriptorIndex := 404, attributes := #[] }, { accessFlags := 25, nameIndex := 474, descriptorIndex := 404, attributes := #[] }, { accessFlags := 25, nameIndex := 475, descriptorIndex := 404, attributes := #[] }, { accessFlags := 25, nameIndex := 476, descriptorIndex := 404, attributes := #[] }, { accessFlags := 25, nameIndex := 477, descriptorIndex := 404, attributes := #[] }, { accessFlags := 25, nameIndex := 478, descriptorIndex := 404, attributes := #[] }, { accessFlags := 25, nameIndex := 479, descriptorIndex := 404, attributes := #[] }, { accessFlags := 25, nameIndex := 480, descriptorIndex := 404, attributes := #[] }, { accessFlags := 25, nameIndex := 481, descriptorIndex := 404, attributes := #[] }, { accessFlags := 25, nameIndex := 482, descriptorIndex := 404, attributes := #[] }, { accessFlags := 25, nameIndex := 484, descriptorIndex := 404, attributes := #[] }, { accessFlags := 25, nameIndex := 485, descriptorIndex := 404, attributes := #[] }, { accessFlags := 25, nameIndex := 486, descriptorIndex := 404, attributes := #[] }, { accessFlags := 25, nameIndex := 487, descriptorIndex := 404, attributes := #[] }, { accessFlags := 25, nameIndex := 488, descriptorIndex := 404, attributes := #[] }, { accessFlags := 25, nameIndex := 489, descriptorIndex := 22, attributes := #[] }, { accessFlags := 25, nameIndex := 490, descriptorIndex := 22, attributes := #[] }, { accessFlags := 25, nameIndex := 492, descriptorIndex := 22, attributes := #[] }, { accessFlags := 25, nameIndex := 493, descriptorIndex := 22, attributes := #[] }, { accessFlags := 25, nameIndex := 495, descriptorIndex := 22, attributes := #[] }, { accessFlags := 25, nameIndex := 496, descriptorIndex := 22, attributes := #[] }, { accessFlags := 25, nameIndex := 497, descriptorIndex := 392, attributes := #[] }, { accessFlags := 25, nameIndex := 498, descriptorIndex := 392, attributes := #[] }, { accessFlags := 25, nameIndex := 499, descriptorIndex := 392, attributes := #[] }, { accessFlags := 18, nameIndex := 21, descriptorIndex := 22, attributes := #[] }, { accessFlags := 26, nameIndex := 501, descriptorIndex := 502, attributes := #[] }, { accessFlags := 25, nameIndex := 505, descriptorIndex := 392, attributes := #[] }, { accessFlags := 25, nameIndex := 506, descriptorIndex := 392, attributes := #[] }, { accessFlags := 4120, nameIndex := 284, descriptorIndex := 285, attributes := #[] }])
  fields := #[{ name := "MIN_RADIX", type := .int, accessFlags := 25, slot := 0, constantValue := 0 }, { name := "MAX_RADIX", type := .int, accessFlags := 25, slot := 1, constantValue := 0 }, { name := "MIN_VALUE", type := .char, accessFlags := 25, slot := 2, constantValue := 0 }, { name := "MAX_VALUE", type := .char, accessFlags := 25, slot := 3, constantValue := 0 }, { name := "TYPE", type := (.object "java/lang/Class"), accessFlags := 25, slot := 4, constantValue := 0 }, { name := "UNASSIGNED", type := .byte, accessFlags := 25, slot := 5, constantValue := 0 }, { name := "UPPERCASE_LETTER", type := .byte, accessFlags := 25, slot := 6, constantValue := 0 }, { name := "LOWERCASE_LETTER", type := .byte, accessFlags := 25, slot := 7, constantValue := 0 }, { name := "TITLECASE_LETTER", type := .byte, accessFlags := 25, slot := 8, constantValue := 0 }, { name := "MODIFIER_LETTER", type := .byte, accessFlags := 25, slot := 9, constantValue := 0 }, { name := "OTHER_LETTER", type := .byte, accessFlags := 25, slot := 10, constantValue := 0 }, { name := "NON_SPACING_MARK", type := .byte, accessFlags := 25, slot := 11, constantValue := 0 }, { name := "ENCLOSING_MARK", type := .byte, accessFlags := 25, slot := 12, constantValue := 0 }, { name := "COMBINING_SPACING_MARK", type := .byte, accessFlags := 25, slot := 13, constantValue := 0 }, { name := "DECIMAL_DIGIT_NUMBER", type := .byte, accessFlags := 25, slot := 14, constantValue := 0 }, { name := "LETTER_NUMBER", type := .byte, accessFlags := 25, slot := 15, constantValue := 0 }, { name := "OTHER_NUMBER", type := .byte, accessFlags := 25, slot := 16, constantValue := 0 }, { name := "SPACE_SEPARATOR", type := .byte, accessFlags := 25, slot := 17, constantValue := 0 }, { name := "LINE_SEPARATOR", type := .byte, accessFlags := 25, slot := 18, constantValue := 0 }, { name := "PARAGRAPH_SEPARATOR", type := .byte, accessFlags := 25, slot := 19, constantValue := 0 }, { name := "CONTROL", type := .byte, accessFlags := 25, slot := 20, constantValue := 0 }, { name := "FORMAT", type := .byte, accessFlags := 25, slot := 21, constantValue := 0 }, { name := "PRIVATE_USE", type := .byte, accessFlags := 25, slot := 22, constantValue := 0 }, { name := "SURROGATE", type := .byte, accessFlags := 25, slot := 23, constantValue := 0 }, { name := "DASH_PUNCTUATION", type := .byte, accessFlags := 25, slot := 24, constantValue := 0 }, { name := "START_PUNCTUATION", type := .byte, accessFlags := 25, slot := 25, constantValue := 0 }, { name := "END_PUNCTUATION", type := .byte, accessFlags := 25, slot := 26, constantValue := 0 }, { name := "CONNECTOR_PUNCTUATION", type := .byte, accessFlags := 25, slot := 27, constantValue := 0 }, { name := "OTHER_PUNCTUATION", type := .byte, accessFlags := 25, slot := 28, constantValue := 0 }, { name := "MATH_SYMBOL", type := .byte, accessFlags := 25, slot := 29, constantValue := 0 }, { name := "CURRENCY_SYMBOL", type := .byte, accessFlags := 25, slot := 30, constantValue := 0 }, { name := "MODIFIER_SYMBOL", type := .byte, accessFlags := 25, slot := 31, constantValue := 0 }, { name := "OTHER_SYMBOL", type := .byte, accessFlags := 25, slot := 32, constantValue := 0 }, { name := "INITIAL_QUOTE_PUNCTUATION", type := .byte, accessFlags := 25, slot := 33, constantValue := 0 }, { name := "FINAL_QUOTE_PUNCTUATION", type := .byte, accessFlags := 25, slot := 34, constantValue := 0 }, { name := "ERROR", type := .int, accessFlags := 24, slot := 35, constantValue := 0 }, { name := "DIRECTIONALITY_UNDEFINED", type := .byte, accessFlags := 25, slot := 36, constantValue := 0 }, { name := "DIRECTIONALITY_LEFT_TO_RIGHT", type := .byte, accessFlags := 25, slot := 37, constantValue := 0 }, { name := "DIRECTIONALITY_RIGHT_TO_LEFT", type := .byte, accessFlags := 25, slot := 38, constantValue := 0 }, { name := "DIRECTIONALITY_RIGHT_TO_LEFT_ARABIC", type := .byte, accessFlags := 25, slot := 39, constantValue := 0 }, { name := "DIRECTIONALITY_EUROPEAN_NUMBER", type := .byte, accessFlags := 25, slot := 40, constantValue := 0 }, { name := "DIRECTIONALITY_EUROPEAN_NUMBER_SEPARATOR", type := .byte, accessFlags := 25, slot := 41, constantValue := 0 }, { name := "DIRECTIONALITY_EUROPEAN_NUMBER_TERMINATOR", type := .byte, accessFlags := 25, slot := 42, constantValue := 0 }, { name := "DIRECTIONALITY_ARABIC_NUMBER", type := .byte, accessFlags := 25, slot := 43, constantValue := 0 }, { name := "DIRECTIONALITY_COMMON_NUMBER_SEPARATOR", type := .byte, accessFlags := 25, slot := 44, constantValue := 0 }, { name := "DIRECTIONALITY_NONSPACING_MARK", type := .byte, accessFlags := 25, slot := 45, constantValue := 0 }, { name := "DIRECTIONALITY_BOUNDARY_NEUTRAL", type := .byte, accessFlags := 25, slot := 46, constantValue := 0 }, { name := "DIRECTIONALITY_PARAGRAPH_SEPARATOR", type := .byte, accessFlags := 25, slot := 47, constantValue := 0 }, { name := "DIRECTIONALITY_SEGMENT_SEPARATOR", type := .byte, accessFlags := 25, slot := 48, constantValue := 0 }, { name := "DIRECTIONALITY_WHITESPACE", type := .byte, accessFlags := 25, slot := 49, constantValue := 0 }, { name := "DIRECTIONALITY_OTHER_NEUTRALS", type := .byte, accessFlags := 25, slot := 50, constantValue := 0 }, { name := "DIRECTIONALITY_LEFT_TO_RIGHT_EMBEDDING", type := .byte, accessFlags := 25, slot := 51, constantValue := 0 }, { name := "DIRECTIONALITY_LEFT_TO_RIGHT_OVERRIDE", type := .byte, accessFlags := 25, slot := 52, constantValue := 0 }, { name := "DIRECTIONALITY_RIGHT_TO_LEFT_EMBEDDING", type := .byte, accessFlags := 25, slot := 53, constantValue := 0 }, { name := "DIRECTIONALITY_RIGHT_TO_LEFT_OVERRIDE", type := .byte, accessFlags := 25, slot := 54, constantValue := 0 }, { name := "DIRECTIONALITY_POP_DIRECTIONAL_FORMAT", type := .byte, accessFlags := 25, slot := 55, constantValue := 0 }, { name := "DIRECTIONALITY_LEFT_TO_RIGHT_ISOLATE", type := .byte, accessFlags := 25, slot := 56, constantValue := 0 }, { name := "DIRECTIONALITY_RIGHT_TO_LEFT_ISOLATE", type := .byte, accessFlags := 25, slot := 57, constantValue := 0 }, { name := "DIRECTIONALITY_FIRST_STRONG_ISOLATE", type := .byte, accessFlags := 25, slot := 58, constantValue := 0 }, { name := "DIRECTIONALITY_POP_DIRECTIONAL_ISOLATE", type := .byte, accessFlags := 25, slot := 59, constantValue := 0 }, { name := "MIN_HIGH_SURROGATE", type := .char, accessFlags := 25, slot := 60, constantValue := 0 }, { name := "MAX_HIGH_SURROGATE", type := .char, accessFlags := 25, slot := 61, constantValue := 0 }, { name := "MIN_LOW_SURROGATE", type := .char, accessFlags := 25, slot := 62, constantValue := 0 }, { name := "MAX_LOW_SURROGATE", type := .char, accessFlags := 25, slot := 63, constantValue := 0 }, { name := "MIN_SURROGATE", type := .char, accessFlags := 25, slot := 64, constantValue := 0 }, { name := "MAX_SURROGATE", type := .char, accessFlags := 25, slot := 65, constantValue := 0 }, { name := "MIN_SUPPLEMENTARY_CODE_POINT", type := .int, accessFlags := 25, slot := 66, constantValue := 0 }, { name := "MIN_CODE_POINT", type := .int, accessFlags := 25, slot := 67, constantValue := 0 }, { name := "MAX_CODE_POINT", type := .int, accessFlags := 25, slot := 68, constantValue := 0 }, { name := "value", type := .char, accessFlags := 18, slot := 0, constantValue := 0 }, { name := "serialVersionUID", type := .long, accessFlags := 26, slot := 69, constantValue := 0 }, { name := "SIZE", type := .int, accessFlags := 25, slot := 70, constantValue := 0 }, { name := "BYTES", type := .int, accessFlags := 25, slot := 71, constantValue := 0 }, { name := "$assertionsDisabled", type := .boolean, accessFlags := 4120, slot := 72, constantValue := 0 }]
  methods := #[k16m0, k16m1, k16m2, k16m3, k16m4, k16m5, k16m6, k16m7, k16m8, k16m9, k16m10]
  instanceTypes := #[.char]
  staticTypes := #[.int, .int, .char, .char, (.object "java/lang/Class"), .byte, .byte, .byte, .byte, .byte, .byte, .byte, .byte, .byte, .byte, .byte, .byte, .byte, .byte, .byte, .byte, .byte, .byte, .byte, .byte, .byte, .byte, .byte, .byte, .byte, .byte, .byte, .byte, .byte, .byte, .int, .byte, .byte, .byte, .byte, .byte, .byte, .byte, .byte, .byte, .byte, .byte, .byte, .byte, .byte, .byte, .byte, .byte, .byte, .byte, .byte, .byte, .byte, .byte, .byte, .char, .char, .char, .char, .char, .char, .int, .int, .int, .long, .int, .int, .boolean]
  resolved := Array.replicate 604 none
  statics := none }

def pool17 : Array CpInfo := pool [(2, .class_ 4), (1, u "java/lang/Object"), (0, u "<init>"), (0, u "()V"), (14, .class_ 23), (1, u "java/nio/charset/StandardCharsets"), (0, u "US_ASCII"), (0, u "Ljava/nio/charset/Charset;"), (7, u "ISO_8859_1"), (7, u "UTF_8"), (5, u "UTF_16BE"), (5, u "UTF_16LE"), (5, u "UTF_16")] 8

def k17m0 : Method := { name := "<init>", desc := "()V", sig := { parameters := [], returnType := none }, accessFlags := 2, code := none }
/-- java/nio/charset/StandardCharsets -/
def k17 : Class := { plain "java/nio/charset/StandardCharsets" (some 0) with
  accessFlags := 49
  interfaces := #[]
  cf := some (fileOf pool17 21 #[] #[{ accessFlags := 2, nameIndex := 5, descriptorIndex := 6, attributes := #[] }] 49 2 #[] #[{ accessFlags := 25, nameIndex := 24, descriptorIndex := 25, attributes := #[] }, { accessFlags := 25, nameIndex := 33, descriptorIndex := 25, attributes := #[] }, { accessFlags := 25, nameIndex := 41, descriptorIndex := 25, attributes := #[] }, { accessFlags := 25, nameIndex := 47, descriptorIndex := 25, attributes := #[] }, { accessFlags := 25, nameIndex := 53, descriptorIndex := 25, attributes := #[] }, { accessFlags := 25, nameIndex := 59, descriptorIndex := 25, attributes := #[] }])
  fields := #[{ name := "US_ASCII", type := (.object "java/nio/charset/Charset"), accessFlags := 25, slot := 0, constantValue := 0 }, { name := "ISO_8859_1", type := (.object "java/nio/charset/Charset"), accessFlags := 25, slot := 1, constantValue := 0 }, { name := "UTF_8", type := (.object "java/nio/charset/Charset"), accessFlags := 25, slot := 2, constantValue := 0 }, { name := "UTF_16BE", type := (.object "java/nio/charset/Charset"), accessFlags := 25, slot := 3, constantValue := 0 }, { name := "UTF_16LE", type := (.object "java/nio/charset/Charset"), accessFlags := 25, slot := 4, constantValue := 0 }, { name := "UTF_16", type := (.object "java/nio/charset/Charset"), accessFlags := 25, slot := 5, constantValue := 0 }]
  methods := #[k17m0]
  instanceTypes := #[]
  staticTypes := #[(.object "java/nio/charset/Charset"), (.object "java/nio/charset/Charset"), (.object "java/nio/charset/Charset"), (.object "java/nio/charset/Charset"), (.object "java/nio/charset/Charset"), (.object "java/nio/charset/Charset")]
  resolved := Array.replicate 68 none
  statics := some 4 }

def pool18 : Array CpInfo := pool [(18, .class_ 20), (1, u "java/nio/charset/Charset"), (0, u "cache1"), (0, u "[Ljava/lang/Object;"), (2, u "cache2"), (0, .class_ 27), (0, u "java/lang/Object"), (0, .class_ 29), (0, u "java/nio/charset/Charset$1"), (4, .class_ 36), (1, u "java/nio/charset/Charset$ThreadTrackHolder"), (21, .class_ 59), (0, u "java/nio/charset/Charset$2"), (11, .class_ 73), (1, u "java/nio/charset/Charset$ExtendedProviderHolder"), (22, u "standardProvider"), (0, u "Ljava/nio/charset/spi/CharsetProvider;"), (29, u "name"), (7, .class_ 136), (0, u "java/nio/charset/Charset$3"), (5, u "defaultCharset"), (0, u "Ljava/nio/charset/Charset;"), (14, u "zeroAliases"), (0, u "[Ljava/lang/String;"), (29, u "Ljava/lang/String;"), (2, u "aliases"), (2, u "aliasSet"), (0, u "Ljava/util/Set;"), (82, .class_ 280), (0, u "java/lang/Comparable"), (84, .class_ 366), (0, u "java/nio/charset/Charset$ExtendedProviderHolder$1")] 3

/-- java/nio/charset/Charset -/
def k18 : Class := { plain "java/nio/charset/Charset" (some 0) with
  accessFlags := 1057
  interfaces := #[3]
  cf := some (fileOf pool18 18 #[.nestMembers #[71, 365, 34, 135, 58, 28]] #[] 1057 26 #[279] #[{ accessFlags := 26, nameIndex := 96, descriptorIndex := 97, attributes := #[] }, { accessFlags := 26, nameIndex := 158, descriptorIndex := 159, attributes := #[] }, { accessFlags := 74, nameIndex := 21, descriptorIndex := 22, attributes := #[] }, { accessFlags := 74, nameIndex := 25, descriptorIndex := 22, attributes := #[] }, { accessFlags := 10, nameIndex := 142, descriptorIndex := 143, attributes := #[] }, { accessFlags := 18, nameIndex := 127, descriptorIndex := 189, attributes := #[] }, { accessFlags := 18, nameIndex := 192, descriptorIndex := 159, attributes := #[] }, { accessFlags := 2, nameIndex := 195, descriptorIndex := 196, attributes := #[] }])
  fields := #[{ name := "standardProvider", type := (.object "java/nio/charset/spi/CharsetProvider"), accessFlags := 26, slot := 0, constantValue := 0 }, { name := "zeroAliases", type := (.array (.object "java/lang/String")), accessFlags := 26, slot := 1, constantValue := 0 }, { name := "cache1", type := (.array (.object "java/lang/Object")), accessFlags := 74, slot := 2, constantValue := 0 }, { name := "cache2", type := (.array (.object "java/lang/Object")), accessFlags := 74, slot := 3, constantValue := 0 }, { name := "defaultCharset", type := (.object "java/nio/charset/Charset"), accessFlags := 10, slot := 4, constantValue := 0 }, { name := "name", type := (.object "java/lang/String"), accessFlags := 18, slot := 0, constantValue := 0 }, { name := "aliases", type := (.array (.object "java/lang/String")), accessFlags := 18, slot := 1, constantValue := 0 }, { name := "aliasSet", type := (.object "java/util/Set"), accessFlags := 2, slot := 2, constantValue := 0 }]
  methods := #[]
  instanceTypes := #[(.object "java/lang/String"), (.array (.object "java/lang/String")), (.object "java/util/Set")]
  staticTypes := #[(.object "java/nio/charset/spi/CharsetProvider"), (.array (.object "java/lang/String")), (.array (.object "java/lang/Object")), (.array (.object "java/lang/Object")), (.object "java/nio/charset/Charset")]
  resolved := Array.replicate 370 none
  statics := none }

def pool19 : Array CpInfo := pool [(1, .class_ 2), (0, u "sun/nio/cs/HistoricallyNamedCharset"), (0, .class_ 4), (0, u "java/lang/Object")] 4

/-- sun/nio/cs/HistoricallyNamedCharset -/
def k19 : Class := { plain "sun/nio/cs/HistoricallyNamedCharset" (some 0) with
  accessFlags := 1537
  interfaces := #[]
  cf := some (fileOf pool19 1 #[] #[] 1537 3 #[] #[])
  fields := #[]
  methods := #[]
  instanceTypes := #[]
  staticTypes := #[]
  resolved := Array.replicate 9 none
  statics := none }

def pool20 : Array CpInfo := pool [(2, .class_ 4), (1, u "java/nio/charset/Charset"), (130, .class_ 136), (0, u "sun/nio/cs/Unicode"), (0, .class_ 138), (0, u "sun/nio/cs/HistoricallyNamedCharset")] 15

/-- sun/nio/cs/Unicode -/
def k20 : Class := { plain "sun/nio/cs/Unicode" (some 18) with
  accessFlags := 1056
  interfaces := #[19]
  cf := some (fileOf pool20 135 #[] #[] 1056 2 #[137] #[])
  fields := #[]
  methods := #[]
  instanceTypes := #[(.object "java/lang/String"), (.array (.object "java/lang/String")), (.object "java/util/Set")]
  staticTypes := #[]
  resolved := Array.replicate 154 none
  statics := none }

def pool21 : Array CpInfo := pool [(10, .class_ 12), (1, u "sun/nio/cs/Unicode"), (0, u "<init>"), (3, .class_ 18), (0, u "sun/nio/cs/UTF_8$Decoder"), (3, .class_ 23), (0, u "sun/nio/cs/UTF_8$Encoder"), (15, .class_ 40), (0, u "sun/nio/cs/UTF_8"), (2, u "()V"), (2, u "INSTANCE"), (0, u "Lsun/nio/cs/UTF_8;"), (8, u "JLA"), (0, u "Ljdk/internal/access/JavaLangAccess;")] 26

def k21m0 : Method := { name := "<init>", desc := "()V", sig := { parameters := [], returnType := none }, accessFlags := 1, code := none }
/-- sun/nio/cs/UTF_8 -/
def k21 : Class := { plain "sun/nio/cs/UTF_8" (some 20) with
  accessFlags := 49
  interfaces := #[]
  cf := some (fileOf pool21 39 #[.nestMembers #[22, 17]] #[{ accessFlags := 1, nameIndex := 13, descriptorIndex := 43, attributes := #[] }] 49 10 #[] #[{ accessFlags := 25, nameIndex := 46, descriptorIndex := 47, attributes := #[] }, { accessFlags := 26, nameIndex := 56, descriptorIndex := 57, attributes := #[] }])
  fields := #[{ name := "INSTANCE", type := (.object "sun/nio/cs/UTF_8"), accessFlags := 25, slot := 0, constantValue := 0 }, { name := "JLA", type := (.object "jdk/internal/access/JavaLangAccess"), accessFlags := 26, slot := 1, constantValue := 0 }]
  methods := #[k21m0]
  instanceTypes := #[(.object "java/lang/String"), (.array (.object "java/lang/String")), (.object "java/util/Set")]
  staticTypes := #[(.object "sun/nio/cs/UTF_8"), (.object "jdk/internal/access/JavaLangAccess")]
  resolved := Array.replicate 84 none
  statics := some 5 }

def pool22 : Array CpInfo := pool [(2, .class_ 4), (1, u "java/lang/Object"), (0, u "<init>"), (0, u "()V"), (0, .methodref 8 9), (0, .class_ 10), (0, .nameAndType 11 12), (0, u "java/lang/StringCoding"), (0, u "countPositives"), (0, u "([BII)I"), (11, u "hasNegatives"), (0, u "([BII)Z")] 23

def k22m0 : Method := { name := "<init>", desc := "()V", sig := { parameters := [], returnType := none }, accessFlags := 2, code := none }
def k22c1 : Code := { maxStack := 3, maxLocals := 3, code := jdk_123_method_2_code, exceptionTable := #[], attributes := #[] }
def k22m1 : Method := { name := "hasNegatives", desc := "([BII)Z", sig := { parameters := [(.array .byte), .int, .int], returnType := some .boolean }, accessFlags := 9, code := some k22c1 }
def k22c2 : Code := { maxStack := 2, maxLocals := 5, code := jdk_123_method_3_code, exceptionTable := #[], attributes := #[] }
def k22m2 : Method := { name := "countPositives", desc := "([BII)I", sig := { parameters := [(.array .byte), .int, .int], returnType := some .int }, accessFlags := 9, code := some k22c2 }
/-- java/lang/StringCoding -/
def k22 : Class := { plain "java/lang/StringCoding" (some 0) with
  accessFlags := 32
  interfaces := #[]
  cf := some (fileOf pool22 8 #[] #[{ accessFlags := 2, nameIndex := 5, descriptorIndex := 6, attributes := #[] }, { accessFlags := 9, nameIndex := 24, descriptorIndex := 25, attributes := #[] }, { accessFlags := 9, nameIndex := 11, descriptorIndex := 12, attributes := #[] }] 32 2 #[] #[])
  fields := #[]
  methods := #[k22m0, k22m1, k22m2]
  instanceTypes := #[]
  staticTypes := #[]
  resolved := Array.replicate 49 none
  statics := none }

def pool23 : Array CpInfo := pool [(1, .class_ 2), (0, u "java/lang/Cloneable"), (0, .class_ 4), (0, u "java/lang/Object")] 2

/-- java/lang/Cloneable -/
def k23 : Class := { plain "java/lang/Cloneable" (some 0) with
  accessFlags := 1537
  interfaces := #[]
  cf := some (fileOf pool23 1 #[] #[] 1537 3 #[] #[])
  fields := #[]
  methods := #[]
  instanceTypes := #[]
  staticTypes := #[]
  resolved := Array.replicate 7 none
  statics := none }

def pool24 : Array CpInfo := pool [(9, u "<init>"), (6, .class_ 18), (1, u "java/lang/Object"), (0, u "()V"), (1, .class_ 23), (1, u "jdk/internal/util/ArraysSupport"), (0, u "LOG2_ARRAY_LONG_INDEX_SCALE"), (0, u "I"), (2, u "U"), (0, u "Ljdk/internal/misc/Unsafe;"), (8, u "BIG_ENDIAN"), (0, u "Z"), (8, u "LOG2_BYTE_BIT_SIZE"), (4, u "LOG2_ARRAY_INT_INDEX_SCALE"), (54, u "JLA"), (0, u "Ljdk/internal/access/JavaLangAccess;"), (11, u "LOG2_ARRAY_BOOLEAN_INDEX_SCALE"), (9, u "LOG2_ARRAY_BYTE_INDEX_SCALE"), (5, u "LOG2_ARRAY_CHAR_INDEX_SCALE"), (5, u "LOG2_ARRAY_SHORT_INDEX_SCALE"), (18, u "LOG2_ARRAY_FLOAT_INDEX_SCALE"), (24, u "LOG2_ARRAY_DOUBLE_INDEX_SCALE"), (6, .methodref 195 196), (0, .class_ 197), (0, .nameAndType 198 199), (0, u "java/lang/Math"), (0, u "max"), (0, u "(II)I"), (0, .integer 2147483639), (76, u "T_BOOLEAN"), (2, u "T_CHAR"), (1, u "T_FLOAT"), (1, u "T_DOUBLE"), (1, u "T_BYTE"), (1, u "T_SHORT"), (1, u "T_INT"), (1, u "T_LONG"), (1, u "SOFT_MAX_ARRAY_LENGTH"), (56, u "newLength"), (0, u "(III)I")] 25

def k24m0 : Method := { name := "<init>", desc := "()V", sig := { parameters := [], returnType := none }, accessFlags := 2, code := none }
def k24c1 : Code := { maxStack := 3, maxLocals := 4, code := jdk_48_method_27_code, exceptionTable := #[], attributes := #[] }
def k24m1 : Method := { name := "newLength", desc := "(III)I", sig := { parameters := [.int, .int, .int], returnType := some .int }, accessFlags := 9, code := some k24c1 }
/-- jdk/internal/util/ArraysSupport -/
def k24 : Class := { plain "jdk/internal/util/ArraysSupport" (some 0) with
  accessFlags := 33
  interfaces := #[]
  cf := some (fileOf pool24 21 #[] #[{ accessFlags := 2, nameIndex := 9, descriptorIndex := 19, attributes := #[] }, { accessFlags := 9, nameIndex := 351, descriptorIndex := 352, attributes := #[] }] 33 16 #[] #[{ accessFlags := 24, nameIndex := 28, descriptorIndex := 29, attributes := #[] }, { accessFlags := 26, nameIndex := 38, descriptorIndex := 39, attributes := #[] }, { accessFlags := 25, nameIndex := 121, descriptorIndex := 25, attributes := #[] }, { accessFlags := 25, nameIndex := 131, descriptorIndex := 25, attributes := #[] }, { accessFlags := 25, nameIndex := 137, descriptorIndex := 25, attributes := #[] }, { accessFlags := 25, nameIndex := 143, descriptorIndex := 25, attributes := #[] }, { accessFlags := 25, nameIndex := 53, descriptorIndex := 25, attributes := #[] }, { accessFlags := 25, nameIndex := 24, descriptorIndex := 25, attributes := #[] }, { accessFlags := 25, nameIndex := 162, descriptorIndex := 25, attributes := #[] }, { accessFlags := 25, nameIndex := 187, descriptorIndex := 25, attributes := #[] }, { accessFlags := 26, nameIndex := 48, descriptorIndex := 25, attributes := #[] }, { accessFlags := 25, nameIndex := 277, descriptorIndex := 25, attributes := #[] }, { accessFlags := 25, nameIndex := 280, descriptorIndex := 25, attributes := #[] }, { accessFlags := 25, nameIndex := 282, descriptorIndex := 25, attributes := #[] }, { accessFlags := 25, nameIndex := 284, descriptorIndex := 25, attributes := #[] }, { accessFlags := 25, nameIndex := 286, descriptorIndex := 25, attributes := #[] }, { accessFlags := 25, nameIndex := 288, descriptorIndex := 25, attributes := #[] }, { accessFlags := 25, nameIndex := 290, descriptorIndex := 25, attributes := #[] }, { accessFlags := 25, nameIndex := 292, descriptorIndex := 25, attributes := #[] }, { accessFlags := 26, nameIndex := 108, descriptorIndex := 109, attributes := #[] }, { accessFlags := 25, nameIndex := 294, descriptorIndex := 25, attributes := #[] }])
  fields := #[{ name := "U", type := (.object "jdk/internal/misc/Unsafe"), accessFlags := 24, slot := 0, constantValue := 0 }, { name := "BIG_ENDIAN", type := .boolean, accessFlags := 26, slot := 1, constantValue := 0 }, { name := "LOG2_ARRAY_BOOLEAN_INDEX_SCALE", type := .int, accessFlags := 25, slot := 2, constantValue := 0 }, { name := "LOG2_ARRAY_BYTE_INDEX_SCALE", type := .int, accessFlags := 25, slot := 3, constantValue := 0 }, { name := "LOG2_ARRAY_CHAR_INDEX_SCALE", type := .int, accessFlags := 25, slot := 4, constantValue := 0 }, { name := "LOG2_ARRAY_SHORT_INDEX_SCALE", type := .int, accessFlags := 25, slot := 5, constantValue := 0 }, { name := "LOG2_ARRAY_INT_INDEX_SCALE", type := .int, accessFlags := 25, slot := 6, constantValue := 0 }, { name := "LOG2_ARRAY_LONG_INDEX_SCALE", type := .int, accessFlags := 25, slot := 7, constantValue := 0 }, { name := "LOG2_ARRAY_FLOAT_INDEX_SCALE", type := .int, accessFlags := 25, slot := 8, constantValue := 0 }, { name := "LOG2_ARRAY_DOUBLE_INDEX_SCALE", type := .int, accessFlags := 25, slot := 9, constantValue := 0 }, { name := "LOG2_BYTE_BIT_SIZE", type := .int, accessFlags := 26, slot := 10, constantValue := 0 }, { name := "T_BOOLEAN", type := .int, accessFlags := 25, slot := 11, constantValue := 0 }, { name := "T_CHAR", type := .int, accessFlags := 25, slot := 12, constantValue := 0 }, { name := "T_FLOAT", type := .int, accessFlags := 25, slot := 13, constantValue := 0 }, { name := "T_DOUBLE", type := .int, accessFlags := 25, slot := 14, constantValue := 0 }, { name := "T_BYTE", type := .int, accessFlags := 25, slot := 15, constantValue := 0 }, { name := "T_SHORT", type := .int, accessFlags := 25, slot := 16, constantValue := 0 }, { name := "T_INT", type := .int, accessFlags := 25, slot := 17, constantValue := 0 }, { name := "T_LONG", type := .int, accessFlags := 25, slot := 18, constantValue := 0 }, { name := "JLA", type := (.object "jdk/internal/access/JavaLangAccess"), accessFlags := 26, slot := 19, constantValue := 0 }, { name := "SOFT_MAX_ARRAY_LENGTH", type := .int, accessFlags := 25, slot := 20, constantValue := 0 }]
  methods := #[k24m0, k24m1]
  instanceTypes := #[]
  staticTypes := #[(.object "jdk/internal/misc/Unsafe"), .boolean, .int, .int, .int, .int, .int, .int, .int, .int, .int, .int, .int, .int, .int, .int, .int, .int, .int, (.object "jdk/internal/access/JavaLangAccess"), .int]
  resolved := Array.replicate 378 none
  statics := none }

def pool25 : Array CpInfo := pool [(2, .class_ 4), (1, u "java/lang/Object"), (0, u "<init>"), (0, u "()V"), (7, .class_ 16), (1, u "java/util/Arrays"), (57, .class_ 76), (1, u "java/util/Arrays$NaturalOrder"), (32, u "()Ljava/lang/Object;"), (3, .class_ 115), (1, u "java/util/Arrays$LegacyMergeSort"), (1, u "Z"), (10, .nameAndType 129 109), (0, u "clone"), (9, u "copyOfRange"), (10, .methodref 151 152), (0, .class_ 153), (0, .nameAndType 154 155), (0, u "java/lang/System"), (0, u "arraycopy"), (0, u "(Ljava/lang/Object;ILjava/lang/Object;II)V"), (146, u "copyOf"), (1, .methodref 305 306), (0, .class_ 307), (0, .nameAndType 308 309), (0, u "java/lang/Math"), (0, u "min"), (0, u "(II)I"), (0, .methodref 311 128), (0, .class_ 312), (0, u "[B"), (26, .methodref 14 340), (0, .nameAndType 341 342), (0, u "copyOfRangeByte"), (0, u "([BII)[B"), (0, .methodref 14 344), (0, .nameAndType 345 346), (0, u "checkLength"), (0, u "(II)V"), (28, .class_ 376), (0, u "java/util/Arrays$ArrayList"), (68, u "$assertionsDisabled"), (269, u "MIN_ARRAY_SORT_GRAN"), (0, u "I"), (2, u "INSERTIONSORT_THRESHOLD"), (149, u "([BI)[B"), (105, .class_ 976), (0, u "java/util/Arrays$ArrayItr")] 52

def k25m0 : Method := { name := "<init>", desc := "()V", sig := { parameters := [], returnType := none }, accessFlags := 2, code := none }
def k25c1 : Code := { maxStack := 6, maxLocals := 3, code := jdk_65_method_121_code, exceptionTable := #[], attributes := #[] }
def k25m1 : Method := { name := "copyOf", desc := "([BI)[B", sig := { parameters := [(.array .byte), .int], returnType := some (.array .byte) }, accessFlags := 9, code := some k25c1 }
def k25c2 : Code := { maxStack := 4, maxLocals := 2, code := jdk_65_method_131_code, exceptionTable := #[], attributes := #[] }
def k25m2 : Method := { name := "checkLength", desc := "(II)V", sig := { parameters := [.int, .int], returnType := none }, accessFlags := 10, code := some k25c2 }
def k25c3 : Code := { maxStack := 3, maxLocals := 3, code := jdk_65_method_132_code, exceptionTable := #[], attributes := #[] }
def k25m3 : Method := { name := "copyOfRange", desc := "([BII)[B", sig := { parameters := [(.array .byte), .int, .int], returnType := some (.array .byte) }, accessFlags := 9, code := some k25c3 }
def k25c4 : Code := { maxStack := 6, maxLocals := 5, code := jdk_65_method_133_code, exceptionTable := #[], attributes := #[] }
def k25m4 : Method := { name := "copyOfRangeByte", desc := "([BII)[B", sig := { parameters := [(.array .byte), .int, .int], returnType := some (.array .byte) }, accessFlags := 10, code := some k25c4 }
/-- java/util/Arrays -/
def k25 : Class := { plain "java/util/Arrays" (some 0) with
  accessFlags := 49
  interfaces := #[]
  cf := some (fileOf pool25 14 #[.nestMembers #[975, 375, 113, 74]] #[{ accessFlags := 2, nameIndex := 5, descriptorIndex := 6, attributes := #[] }, { accessFlags := 9, nameIndex := 302, descriptorIndex := 869, attributes := #[] }, { accessFlags := 10, nameIndex := 345, descriptorIndex := 346, attributes := #[] }, { accessFlags := 9, nameIndex := 139, descriptorIndex := 342, attributes := #[] }, { accessFlags := 10, nameIndex := 341, descriptorIndex := 342, attributes := #[] }] 49 2 #[] #[{ accessFlags := 26, nameIndex := 715, descriptorIndex := 716, attributes := #[] }, { accessFlags := 26, nameIndex := 719, descriptorIndex := 716, attributes := #[] }, { accessFlags := 4120, nameIndex := 445, descriptorIndex := 117, attributes := #[] }])
  fields := #[{ name := "MIN_ARRAY_SORT_GRAN", type := .int, accessFlags := 26, slot := 0, constantValue := 0 }, { name := "INSERTIONSORT_THRESHOLD", type := .int, accessFlags := 26, slot := 1, constantValue := 0 }, { name := "$assertionsDisabled", type := .boolean, accessFlags := 4120, slot := 2, constantValue := 0 }]
  methods := #[k25m0, k25m1, k25m2, k25m3, k25m4]
  instanceTypes := #[]
  staticTypes := #[.int, .int, .boolean]
  resolved := Array.replicate 1029 none
  statics := none }

def pool26 : Array CpInfo := pool [(2, .class_ 4), (1, u "java/lang/Object"), (0, u "<init>"), (0, u "()V"), (1, .class_ 10), (1, u "java/lang/System"), (0, u "allowSecurityManager"), (0, u "I"), (16, u "cons"), (0, u "Ljava/io/Console;"), (77, .class_ 110), (1, u "java/lang/System$CallersHolder"), (43, u "initialErrStream"), (0, u "Ljava/io/PrintStream;"), (19, u "security"), (0, u "Ljava/lang/SecurityManager;"), (31, .class_ 209), (0, u "java/lang/System$1"), (7, u "props"), (0, u "Ljava/util/Properties;"), (2, u "lineSeparator"), (0, u "Ljava/lang/String;"), (96, .class_ 321), (1, u "java/lang/System$LoggerFinder"), (5, .class_ 328), (0, u "java/lang/System$Logger"), (67, u "err"), (2, u "out"), (91, u "notSupportedJnuEncoding"), (15, u "in"), (17, u "initialIn"), (0, u "Ljava/io/InputStream;"), (35, u "bootLayer"), (0, u "Ljava/lang/ModuleLayer;"), (99, .class_ 664), (0, u "java/lang/System$2"), (9, u "NEVER"), (2, u "MAYBE"), (49, u "arraycopy"), (0, u "(Ljava/lang/Object;ILjava/lang/Object;II)V"), (72, .class_ 802), (0, u "java/lang/System$Logger$Level")] 31

def k26m0 : Method := { name := "<init>", desc := "()V", sig := { parameters := [], returnType := none }, accessFlags := 2, code := none }
def k26m1 : Method := { name := "arraycopy", desc := "(Ljava/lang/Object;ILjava/lang/Object;II)V", sig := { parameters := [(.object "java/lang/Object"), .int, (.object "java/lang/Object"), .int, .int], returnType := none }, accessFlags := 265, code := none }
/-- java/lang/System -/
def k26 : Class := { plain "java/lang/System" (some 0) with
  accessFlags := 49
  interfaces := #[]
  cf := some (fileOf pool26 8 #[.nestMembers #[319, 327, 801, 108, 663, 208]] #[{ accessFlags := 2, nameIndex := 5, descriptorIndex := 6, attributes := #[] }, { accessFlags := 265, nameIndex := 727, descriptorIndex := 728, attributes := #[] }] 49 2 #[] #[{ accessFlags := 25, nameIndex := 507, descriptorIndex := 526, attributes := #[] }, { accessFlags := 25, nameIndex := 399, descriptorIndex := 155, attributes := #[] }, { accessFlags := 25, nameIndex := 396, descriptorIndex := 155, attributes := #[] }, { accessFlags := 10, nameIndex := 525, descriptorIndex := 526, attributes := #[] }, { accessFlags := 26, nameIndex := 674, descriptorIndex := 12, attributes := #[] }, { accessFlags := 26, nameIndex := 677, descriptorIndex := 12, attributes := #[] }, { accessFlags := 10, nameIndex := 11, descriptorIndex := 12, attributes := #[] }, { accessFlags := 74, nameIndex := 175, descriptorIndex := 176, attributes := #[] }, { accessFlags := 10, nameIndex := 491, descriptorIndex := 222, attributes := #[] }, { accessFlags := 74, nameIndex := 29, descriptorIndex := 30, attributes := #[] }, { accessFlags := 74, nameIndex := 154, descriptorIndex := 155, attributes := #[] }, { accessFlags := 10, nameIndex := 217, descriptorIndex := 218, attributes := #[] }, { accessFlags := 10, nameIndex := 221, descriptorIndex := 222, attributes := #[] }, { accessFlags := 8, nameIndex := 562, descriptorIndex := 563, attributes := #[] }])
  fields := #[{ name := "in", type := (.object "java/io/InputStream"), accessFlags := 25, slot := 0, constantValue := 0 }, { name := "out", type := (.object "java/io/PrintStream"), accessFlags := 25, slot := 1, constantValue := 0 }, { name := "err", type := (.object "java/io/PrintStream"), accessFlags := 25, slot := 2, constantValue := 0 }, { name := "initialIn", type := (.object "java/io/InputStream"), accessFlags := 10, slot := 3, constantValue := 0 }, { name := "NEVER", type := .int, accessFlags := 26, slot := 4, constantValue := 0 }, { name := "MAYBE", type := .int, accessFlags := 26, slot := 5, constantValue := 0 }, { name := "allowSecurityManager", type := .int, accessFlags := 10, slot := 6, constantValue := 0 }, { name := "security", type := (.object "java/lang/SecurityManager"), accessFlags := 74, slot := 7, constantValue := 0 }, { name := "notSupportedJnuEncoding", type := (.object "java/lang/String"), accessFlags := 10, slot := 8, constantValue := 0 }, { name := "cons", type := (.object "java/io/Console"), accessFlags := 74, slot := 9, constantValue := 0 }, { name := "initialErrStream", type := (.object "java/io/PrintStream"), accessFlags := 74, slot := 10, constantValue := 0 }, { name := "props", type := (.object "java/util/Properties"), accessFlags := 10, slot := 11, constantValue := 0 }, { name := "lineSeparator", type := (.object "java/lang/String"), accessFlags := 10, slot := 12, constantValue := 0 }, { name := "bootLayer", type := (.object "java/lang/ModuleLayer"), accessFlags := 8, slot := 13, constantValue := 0 }]
  methods := #[k26m0, k26m1]
  instanceTypes := #[]
  staticTypes := #[(.object "java/io/InputStream"), (.object "java/io/PrintStream"), (.object "java/io/PrintStream"), (.object "java/io/InputStream"), .int, .int, .int, (.object "java/lang/SecurityManager"), (.object "java/lang/String"), (.object "java/io/Console"), (.object "java/io/PrintStream"), (.object "java/util/Properties"), (.object "java/lang/String"), (.object "java/lang/ModuleLayer")]
  resolved := Array.replicate 834 none
  statics := none }

/-- the primitive byte -/
def k27 : Class := { plain "byte" none with kind := .primitive 'B', accessFlags := 0x411 }
/-- [B -/
def k28 : Class := { plain "[B" (some 0) with kind := .array 27 .byte, interfaces := #[23, 2], accessFlags := 1041 }

/-- the primitive char -/
def k29 : Class := { plain "char" none with kind := .primitive 'C', accessFlags := 0x411 }
/-- [C -/
def k30 : Class := { plain "[C" (some 0) with kind := .array 29 .char, interfaces := #[23, 2], accessFlags := 1041 }

/-- the primitive int -/
def k31 : Class := { plain "int" none with kind := .primitive 'I', accessFlags := 0x411 }
/-- [I -/
def k32 : Class := { plain "[I" (some 0) with kind := .array 31 .int, interfaces := #[23, 2], accessFlags := 1041 }

def heap : Heap := #[{ cls := 7, slots := #[.long 0, .int 1, .null, .int 0, .null, .int 0, .int 0], vm := .statics 7 },
  { cls := 8, slots := #[.int 0, .int 8, .int 0, .int 1], vm := .statics 8 },
  { cls := 9, slots := #[.null, .ref 6], vm := .statics 9 },
  { cls := 13, slots := #[.null, .null, .null], vm := .statics 13 },
  { cls := 17, slots := #[.null, .null, .ref 7, .null, .null, .null], vm := .statics 17 },
  { cls := 21, slots := #[.ref 7, .null], vm := .statics 21 },
  { cls := 30, slots := #[.int 48, .int 49, .int 50, .int 51, .int 52, .int 53, .int 54, .int 55, .int 56, .int 57, .int 65, .int 66, .int 67, .int 68, .int 69, .int 70], vm := .none },
  { cls := 21, slots := #[.null, .null, .null], vm := .none }]
def classes : Array Class := #[k0, k1, k2, k3, k4, k5, k6, k7, k8, k9, k10, k11, k12, k13, k14, k15, k16, k17, k18, k19, k20, k21, k22, k23, k24, k25, k26, k27, k28, k29, k30, k31, k32]
def interned : List (Array UInt16 × Addr) := []
def slotsUsed : Nat := 43
def theMethod : MethodId := ⟨1, 1⟩
def args0 : Array Value := #[.int 65, .int 97, .int 45, .int 1]
def aboutOver (below : List Frame) : State where
  vm := { classes := classes, interned := interned.toArray }
  heap := heap
  slotsUsed := slotsUsed
  threads := #[{ frames := .invoking theMethod args0 :: below }]
def below0 : List Frame := [.native { method := ⟨0, 0⟩, args := #[] }]
def about1 : State := aboutOver below0
def p0 : Program := .bare "" "" ""
def e0 : Env := launch0.env 0 0 0
theorem w_frames : about1.frames = Frame.invoking theMethod args0 :: below0 := rfl
set_option maxRecDepth 65536 in
theorem w_args : argsFit about1.vm theMethod args0 = true := by decide +kernel
set_option maxRecDepth 65536 in
theorem w_heap : heapFits about1 = true := by decide +kernel
set_option maxRecDepth 65536 in
theorem w_runnable : about1.curStatus? = some .runnable := by decide +kernel
set_option maxRecDepth 65536 in
theorem w_alone : about1.alone = true := by decide +kernel
set_option maxRecDepth 65536 in
theorem w_named : about1.methodNamed? x = some theMethod := by decide +kernel
set_option maxRecDepth 65536 in
theorem w_hears : about1.hears theMethod below0 = true := by decide +kernel
set_option maxRecDepth 65536 in
theorem w_ripe : about1.ripe theMethod args0 below0 = true := by decide +kernel
theorem w_running : about1.status = .running := rfl
set_option maxRecDepth 65536 in
theorem w_room : about1.hasRoom e0.platform room_1 = true :=
  launch0.hasRoom_least _ room_1 (by decide +kernel) (by decide +kernel) (by decide +kernel) (by decide +kernel) (by decide +kernel) (by decide +kernel)
theorem allAtoms_all (ts : List Jvm.Cond) (a : Array Jvm.Value) (st : Jvm.State) : (allAtoms ts).before a st = ts.all (fun c => c.before a st) := by
  induction ts with
  | nil => rfl
  | cons c t ih =>
    show (Jvm.Cond.and c (allAtoms t)).before a st = _
    rw [Jvm.Cond.before_and, ih, List.all_cons]
def words1 : List Jvm.Cond := Jvm.Cond.code x code maxLocals ret :: tables_1
/-- a 'code' word, met by the world's own term for the bytes: nothing is compared byte by byte -/
theorem code_word {y : MethodName} {bytes : ByteArray} {mx : Nat} {rt : Option FieldType} {a : Array Value} {s : State} {m : MethodId} {meth : Method} {c : Code} (h1 : s.methodNamed? y = some m) (h2 : s.vm.method? m = some meth) (h3 : meth.code = some c) (h4 : c.code = bytes)
    (h5 : (c.maxLocals == mx && c.exceptionTable.isEmpty && decide (c.maxStack ≤ mostOperands) && decide (meth.sig.returnType = rt) && !meth.locks && decide (parseMethodDescriptor y.desc = some meth.sig)) = true) : (Jvm.Cond.code y bytes mx rt).before a s = true := by
  simp only [Bool.and_eq_true, beq_iff_eq, Bool.not_eq_true', decide_eq_true_eq] at h5
  obtain ⟨⟨⟨⟨⟨g1, g2⟩, g3⟩, g4⟩, g5⟩, g6⟩ := h5
  simp [Cond.before, Cond.holds, Cond.value, h1, h2, h3, h4, g1, g2, g3, g4, g5, g6]
def isCode : Jvm.Cond → Bool
  | .code _ _ _ _ => true
  | _ => false
theorem all_split {L : List Jvm.Cond} {P : Jvm.Cond → Bool} (h1 : L.all (fun c => isCode c || P c) = true) (h2 : ∀ c ∈ L.filter isCode, P c = true) : L.all P = true := by
  refine List.all_eq_true.mpr fun c hc => ?_
  have h := List.all_eq_true.mp h1 c hc
  rcases Bool.eq_false_or_eq_true (isCode c) with hi | hi
  · exact h2 c (List.mem_filter.mpr ⟨hc, hi⟩)
  · simpa [hi] using h
set_option maxRecDepth 65536 in
theorem w_c0 : (Jvm.Cond.code x code maxLocals ret).before args0 about1 = true := code_word (m := ⟨1, 1⟩) (meth := k1m1) (c := k1c1) (by decide +kernel) rfl rfl rfl (by decide +kernel)
set_option maxRecDepth 65536 in
theorem w_c1 : (Jvm.Cond.code ({ cls := "java/lang/String", name := "<init>", desc := "([C)V" } : Jvm.MethodName) jdk_42_method_3_code (2 : Nat) (Option.none : Option Jvm.ClassFile.FieldType)).before args0 about1 = true := code_word (m := ⟨7, 1⟩) (meth := k7m1) (c := k7c1) (by decide +kernel) rfl rfl rfl (by decide +kernel)
set_option maxRecDepth 65536 in
theorem w_c2 : (Jvm.Cond.code ({ cls := "java/lang/String", name := "<init>", desc := "([CIILjava/lang/Void;)V" } : Jvm.MethodName) jdk_42_method_149_code (6 : Nat) (Option.none : Option Jvm.ClassFile.FieldType)).before args0 about1 = true := code_word (m := ⟨7, 12⟩) (meth := k7m12) (c := k7c12) (by decide +kernel) rfl rfl rfl (by decide +kernel)
set_option maxRecDepth 65536 in
theorem w_c3 : (Jvm.Cond.code ({ cls := "java/lang/Object", name := "<init>", desc := "()V" } : Jvm.MethodName) object_method_1_code (1 : Nat) (Option.none : Option Jvm.ClassFile.FieldType)).before args0 about1 = true := code_word (m := ⟨0, 0⟩) (meth := k0m0) (c := k0c0) (by decide +kernel) rfl rfl rfl (by decide +kernel)
set_option maxRecDepth 65536 in
theorem w_c4 : (Jvm.Cond.code ({ cls := "java/lang/StringUTF16", name := "compress", desc := "([CII)[B" } : Jvm.MethodName) jdk_52_method_16_code (6 : Nat) (Option.some (Jvm.ClassFile.FieldType.array Jvm.ClassFile.FieldType.byte))).before args0 about1 = true := code_word (m := ⟨8, 10⟩) (meth := k8m10) (c := k8c10) (by decide +kernel) rfl rfl rfl (by decide +kernel)
set_option maxRecDepth 65536 in
theorem w_c5 : (Jvm.Cond.code ({ cls := "java/lang/StringUTF16", name := "compress", desc := "([CI[BII)I" } : Jvm.MethodName) jdk_52_method_21_code (7 : Nat) (Option.some Jvm.ClassFile.FieldType.int)).before args0 about1 = true := code_word (m := ⟨8, 11⟩) (meth := k8m11) (c := k8c11) (by decide +kernel) rfl rfl rfl (by decide +kernel)
set_option maxRecDepth 65536 in
theorem w_c6 : (Jvm.Cond.code ({ cls := "java/lang/StringUTF16", name := "coderFromArrayLen", desc := "([BI)B" } : Jvm.MethodName) jdk_52_method_15_code (2 : Nat) (Option.some Jvm.ClassFile.FieldType.byte)).before args0 about1 = true := code_word (m := ⟨8, 9⟩) (meth := k8m9) (c := k8c9) (by decide +kernel) rfl rfl rfl (by decide +kernel)
set_option maxRecDepth 65536 in
theorem w_c7 : (Jvm.Cond.code ({ cls := "com/example/triad/triad/rest/PercentEncoding", name := "encode", desc := "(Ljava/lang/String;Ljava/lang/String;)Ljava/lang/String;" } : Jvm.MethodName) prog_9_method_3_code (5 : Nat) (Option.some (Jvm.ClassFile.FieldType.object "java/lang/String"))).before args0 about1 = true := code_word (m := ⟨9, 2⟩) (meth := k9m2) (c := k9c2) (by decide +kernel) rfl rfl rfl (by decide +kernel)
set_option maxRecDepth 65536 in
theorem w_c8 : (Jvm.Cond.code ({ cls := "java/lang/String", name := "length", desc := "()I" } : Jvm.MethodName) jdk_42_method_54_code (1 : Nat) (Option.some Jvm.ClassFile.FieldType.int)).before args0 about1 = true := code_word (m := ⟨7, 6⟩) (meth := k7m6) (c := k7c6) (by decide +kernel) rfl rfl rfl (by decide +kernel)
set_option maxRecDepth 65536 in
theorem w_c9 : (Jvm.Cond.code ({ cls := "java/lang/String", name := "coder", desc := "()B" } : Jvm.MethodName) jdk_42_method_152_code (1 : Nat) (Option.some Jvm.ClassFile.FieldType.byte)).before args0 about1 = true := code_word (m := ⟨7, 14⟩) (meth := k7m14) (c := k7c14) (by decide +kernel) rfl rfl rfl (by decide +kernel)
set_option maxRecDepth 65536 in
theorem w_c10 : (Jvm.Cond.code ({ cls := "java/lang/StringBuilder", name := "<init>", desc := "(I)V" } : Jvm.MethodName) jdk_67_method_2_code (2 : Nat) (Option.none : Option Jvm.ClassFile.FieldType)).before args0 about1 = true := code_word (m := ⟨12, 1⟩) (meth := k12m1) (c := k12c1) (by decide +kernel) rfl rfl rfl (by decide +kernel)
set_option maxRecDepth 65536 in
theorem w_c11 : (Jvm.Cond.code ({ cls := "java/lang/AbstractStringBuilder", name := "<init>", desc := "(I)V" } : Jvm.MethodName) jdk_68_method_2_code (2 : Nat) (Option.none : Option Jvm.ClassFile.FieldType)).before args0 about1 = true := code_word (m := ⟨11, 1⟩) (meth := k11m1) (c := k11c1) (by decide +kernel) rfl rfl rfl (by decide +kernel)
set_option maxRecDepth 65536 in
theorem w_c12 : (Jvm.Cond.code ({ cls := "java/lang/String", name := "codePointAt", desc := "(I)I" } : Jvm.MethodName) jdk_42_method_57_code (3 : Nat) (Option.some Jvm.ClassFile.FieldType.int)).before args0 about1 = true := code_word (m := ⟨7, 8⟩) (meth := k7m8) (c := k7c8) (by decide +kernel) rfl rfl rfl (by decide +kernel)
set_option maxRecDepth 65536 in
theorem w_c13 : (Jvm.Cond.code ({ cls := "java/lang/String", name := "isLatin1", desc := "()Z" } : Jvm.MethodName) jdk_42_method_154_code (1 : Nat) (Option.some Jvm.ClassFile.FieldType.boolean)).before args0 about1 = true := code_word (m := ⟨7, 15⟩) (meth := k7m15) (c := k7c15) (by decide +kernel) rfl rfl rfl (by decide +kernel)
set_option maxRecDepth 65536 in
theorem w_c14 : (Jvm.Cond.code ({ cls := "java/lang/String", name := "checkIndex", desc := "(II)V" } : Jvm.MethodName) jdk_42_method_155_code (2 : Nat) (Option.none : Option Jvm.ClassFile.FieldType)).before args0 about1 = true := code_word (m := ⟨7, 16⟩) (meth := k7m16) (c := k7c16) (by decide +kernel) rfl rfl rfl (by decide +kernel)
set_option maxRecDepth 65536 in
theorem w_c15 : (Jvm.Cond.code ({ cls := "jdk/internal/util/Preconditions", name := "checkIndex", desc := "(IILjava/util/function/BiFunction;)I" } : Jvm.MethodName) jdk_41_method_11_code (3 : Nat) (Option.some Jvm.ClassFile.FieldType.int)).before args0 about1 = true := code_word (m := ⟨13, 1⟩) (meth := k13m1) (c := k13c1) (by decide +kernel) rfl rfl rfl (by decide +kernel)
set_option maxRecDepth 65536 in
theorem w_c16 : (Jvm.Cond.code ({ cls := "com/example/triad/triad/rest/PercentEncoding", name := "isKept", desc := "(ILjava/lang/String;)Z" } : Jvm.MethodName) prog_9_method_2_code (3 : Nat) (Option.some Jvm.ClassFile.FieldType.boolean)).before args0 about1 = true := code_word (m := ⟨9, 1⟩) (meth := k9m1) (c := k9c1) (by decide +kernel) rfl rfl rfl (by decide +kernel)
set_option maxRecDepth 65536 in
theorem w_c17 : (Jvm.Cond.code ({ cls := "java/lang/String", name := "indexOf", desc := "(I)I" } : Jvm.MethodName) jdk_42_method_79_code (2 : Nat) (Option.some Jvm.ClassFile.FieldType.int)).before args0 about1 = true := code_word (m := ⟨7, 10⟩) (meth := k7m10) (c := k7c10) (by decide +kernel) rfl rfl rfl (by decide +kernel)
set_option maxRecDepth 65536 in
theorem w_c18 : (Jvm.Cond.code ({ cls := "java/lang/String", name := "indexOf", desc := "(II)I" } : Jvm.MethodName) jdk_42_method_80_code (3 : Nat) (Option.some Jvm.ClassFile.FieldType.int)).before args0 about1 = true := code_word (m := ⟨7, 11⟩) (meth := k7m11) (c := k7c11) (by decide +kernel) rfl rfl rfl (by decide +kernel)
set_option maxRecDepth 65536 in
theorem w_c19 : (Jvm.Cond.code ({ cls := "java/lang/StringLatin1", name := "indexOf", desc := "([BIII)I" } : Jvm.MethodName) jdk_43_method_22_code (4 : Nat) (Option.some Jvm.ClassFile.FieldType.int)).before args0 about1 = true := code_word (m := ⟨14, 4⟩) (meth := k14m4) (c := k14c4) (by decide +kernel) rfl rfl rfl (by decide +kernel)
set_option maxRecDepth 65536 in
theorem w_c20 : (Jvm.Cond.code ({ cls := "java/lang/StringLatin1", name := "canEncode", desc := "(I)Z" } : Jvm.MethodName) jdk_43_method_4_code (1 : Nat) (Option.some Jvm.ClassFile.FieldType.boolean)).before args0 about1 = true := code_word (m := ⟨14, 3⟩) (meth := k14m3) (c := k14c3) (by decide +kernel) rfl rfl rfl (by decide +kernel)
set_option maxRecDepth 65536 in
theorem w_c21 : (Jvm.Cond.code ({ cls := "java/lang/Math", name := "max", desc := "(II)I" } : Jvm.MethodName) jdk_29_method_65_code (2 : Nat) (Option.some Jvm.ClassFile.FieldType.int)).before args0 about1 = true := code_word (m := ⟨15, 1⟩) (meth := k15m1) (c := k15c1) (by decide +kernel) rfl rfl rfl (by decide +kernel)
set_option maxRecDepth 65536 in
theorem w_c22 : (Jvm.Cond.code ({ cls := "java/lang/Math", name := "min", desc := "(II)I" } : Jvm.MethodName) jdk_29_method_69_code (2 : Nat) (Option.some Jvm.ClassFile.FieldType.int)).before args0 about1 = true := code_word (m := ⟨15, 2⟩) (meth := k15m2) (c := k15c2) (by decide +kernel) rfl rfl rfl (by decide +kernel)
set_option maxRecDepth 65536 in
theorem w_c23 : (Jvm.Cond.code ({ cls := "java/lang/StringLatin1", name := "indexOfChar", desc := "([BIII)I" } : Jvm.MethodName) jdk_43_method_23_code (6 : Nat) (Option.some Jvm.ClassFile.FieldType.int)).before args0 about1 = true := code_word (m := ⟨14, 5⟩) (meth := k14m5) (c := k14c5) (by decide +kernel) rfl rfl rfl (by decide +kernel)
set_option maxRecDepth 65536 in
theorem w_c24 : (Jvm.Cond.code ({ cls := "com/example/triad/triad/rest/PercentEncoding", name := "appendEncoded", desc := "(Ljava/lang/StringBuilder;I)V" } : Jvm.MethodName) prog_9_method_4_code (7 : Nat) (Option.none : Option Jvm.ClassFile.FieldType)).before args0 about1 = true := code_word (m := ⟨9, 3⟩) (meth := k9m3) (c := k9c3) (by decide +kernel) rfl rfl rfl (by decide +kernel)
set_option maxRecDepth 65536 in
theorem w_c25 : (Jvm.Cond.code ({ cls := "java/lang/Character", name := "toChars", desc := "(I)[C" } : Jvm.MethodName) jdk_89_method_31_code (2 : Nat) (Option.some (Jvm.ClassFile.FieldType.array Jvm.ClassFile.FieldType.char))).before args0 about1 = true := code_word (m := ⟨16, 9⟩) (meth := k16m9) (c := k16c9) (by decide +kernel) rfl rfl rfl (by decide +kernel)
set_option maxRecDepth 65536 in
theorem w_c26 : (Jvm.Cond.code ({ cls := "java/lang/Character", name := "isBmpCodePoint", desc := "(I)Z" } : Jvm.MethodName) jdk_89_method_12_code (1 : Nat) (Option.some Jvm.ClassFile.FieldType.boolean)).before args0 about1 = true := code_word (m := ⟨16, 1⟩) (meth := k16m1) (c := k16c1) (by decide +kernel) rfl rfl rfl (by decide +kernel)
set_option maxRecDepth 65536 in
theorem w_c27 : (Jvm.Cond.code ({ cls := "java/lang/String", name := "getBytes", desc := "(Ljava/nio/charset/Charset;)[B" } : Jvm.MethodName) jdk_42_method_64_code (2 : Nat) (Option.some (Jvm.ClassFile.FieldType.array Jvm.ClassFile.FieldType.byte))).before args0 about1 = true := code_word (m := ⟨7, 9⟩) (meth := k7m9) (c := k7c9) (by decide +kernel) rfl rfl rfl (by decide +kernel)
set_option maxRecDepth 65536 in
theorem w_c28 : (Jvm.Cond.code ({ cls := "java/lang/String", name := "encode", desc := "(Ljava/nio/charset/Charset;B[B)[B" } : Jvm.MethodName) jdk_42_method_18_code (3 : Nat) (Option.some (Jvm.ClassFile.FieldType.array Jvm.ClassFile.FieldType.byte))).before args0 about1 = true := code_word (m := ⟨7, 2⟩) (meth := k7m2) (c := k7c2) (by decide +kernel) rfl rfl rfl (by decide +kernel)
set_option maxRecDepth 65536 in
theorem w_c29 : (Jvm.Cond.code ({ cls := "java/lang/String", name := "encodeUTF8", desc := "(B[BZ)[B" } : Jvm.MethodName) jdk_42_method_46_code (9 : Nat) (Option.some (Jvm.ClassFile.FieldType.array Jvm.ClassFile.FieldType.byte))).before args0 about1 = true := code_word (m := ⟨7, 3⟩) (meth := k7m3) (c := k7c3) (by decide +kernel) rfl rfl rfl (by decide +kernel)
set_option maxRecDepth 65536 in
theorem w_c30 : (Jvm.Cond.code ({ cls := "java/lang/StringCoding", name := "hasNegatives", desc := "([BII)Z" } : Jvm.MethodName) jdk_123_method_2_code (3 : Nat) (Option.some Jvm.ClassFile.FieldType.boolean)).before args0 about1 = true := code_word (m := ⟨22, 1⟩) (meth := k22m1) (c := k22c1) (by decide +kernel) rfl rfl rfl (by decide +kernel)
set_option maxRecDepth 65536 in
theorem w_c31 : (Jvm.Cond.code ({ cls := "java/lang/StringCoding", name := "countPositives", desc := "([BII)I" } : Jvm.MethodName) jdk_123_method_3_code (5 : Nat) (Option.some Jvm.ClassFile.FieldType.int)).before args0 about1 = true := code_word (m := ⟨22, 2⟩) (meth := k22m2) (c := k22c2) (by decide +kernel) rfl rfl rfl (by decide +kernel)
set_option maxRecDepth 65536 in
theorem w_c32 : (Jvm.Cond.code ({ cls := "java/lang/StringBuilder", name := "append", desc := "(C)Ljava/lang/StringBuilder;" } : Jvm.MethodName) jdk_67_method_14_code (2 : Nat) (Option.some (Jvm.ClassFile.FieldType.object "java/lang/StringBuilder"))).before args0 about1 = true := code_word (m := ⟨12, 2⟩) (meth := k12m2) (c := k12c2) (by decide +kernel) rfl rfl rfl (by decide +kernel)
set_option maxRecDepth 65536 in
theorem w_c33 : (Jvm.Cond.code ({ cls := "java/lang/AbstractStringBuilder", name := "append", desc := "(C)Ljava/lang/AbstractStringBuilder;" } : Jvm.MethodName) jdk_68_method_31_code (2 : Nat) (Option.some (Jvm.ClassFile.FieldType.object "java/lang/AbstractStringBuilder"))).before args0 about1 = true := code_word (m := ⟨11, 6⟩) (meth := k11m6) (c := k11c6) (by decide +kernel) rfl rfl rfl (by decide +kernel)
set_option maxRecDepth 65536 in
theorem w_c34 : (Jvm.Cond.code ({ cls := "java/lang/AbstractStringBuilder", name := "ensureCapacityInternal", desc := "(I)V" } : Jvm.MethodName) jdk_68_method_9_code (3 : Nat) (Option.none : Option Jvm.ClassFile.FieldType)).before args0 about1 = true := code_word (m := ⟨11, 3⟩) (meth := k11m3) (c := k11c3) (by decide +kernel) rfl rfl rfl (by decide +kernel)
set_option maxRecDepth 65536 in
theorem w_c35 : (Jvm.Cond.code ({ cls := "java/lang/AbstractStringBuilder", name := "isLatin1", desc := "()Z" } : Jvm.MethodName) jdk_68_method_68_code (1 : Nat) (Option.some Jvm.ClassFile.FieldType.boolean)).before args0 about1 = true := code_word (m := ⟨11, 9⟩) (meth := k11m9) (c := k11c9) (by decide +kernel) rfl rfl rfl (by decide +kernel)
set_option maxRecDepth 65536 in
theorem w_c36 : (Jvm.Cond.code ({ cls := "java/lang/StringLatin1", name := "canEncode", desc := "(C)Z" } : Jvm.MethodName) jdk_43_method_3_code (1 : Nat) (Option.some Jvm.ClassFile.FieldType.boolean)).before args0 about1 = true := code_word (m := ⟨14, 2⟩) (meth := k14m2) (c := k14c2) (by decide +kernel) rfl rfl rfl (by decide +kernel)
set_option maxRecDepth 65536 in
theorem w_c37 : (Jvm.Cond.code ({ cls := "java/lang/AbstractStringBuilder", name := "newCapacity", desc := "(I)I" } : Jvm.MethodName) jdk_68_method_10_code (6 : Nat) (Option.some Jvm.ClassFile.FieldType.int)).before args0 about1 = true := code_word (m := ⟨11, 4⟩) (meth := k11m4) (c := k11c4) (by decide +kernel) rfl rfl rfl (by decide +kernel)
set_option maxRecDepth 65536 in
theorem w_c38 : (Jvm.Cond.code ({ cls := "jdk/internal/util/ArraysSupport", name := "newLength", desc := "(III)I" } : Jvm.MethodName) jdk_48_method_27_code (4 : Nat) (Option.some Jvm.ClassFile.FieldType.int)).before args0 about1 = true := code_word (m := ⟨24, 1⟩) (meth := k24m1) (c := k24c1) (by decide +kernel) rfl rfl rfl (by decide +kernel)
set_option maxRecDepth 65536 in
theorem w_c39 : (Jvm.Cond.code ({ cls := "java/util/Arrays", name := "copyOf", desc := "([BI)[B" } : Jvm.MethodName) jdk_65_method_121_code (3 : Nat) (Option.some (Jvm.ClassFile.FieldType.array Jvm.ClassFile.FieldType.byte))).before args0 about1 = true := code_word (m := ⟨25, 1⟩) (meth := k25m1) (c := k25c1) (by decide +kernel) rfl rfl rfl (by decide +kernel)
set_option maxRecDepth 65536 in
theorem w_c40 : (Jvm.Cond.code ({ cls := "java/lang/Character", name := "charCount", desc := "(I)I" } : Jvm.MethodName) jdk_89_method_18_code (1 : Nat) (Option.some Jvm.ClassFile.FieldType.int)).before args0 about1 = true := code_word (m := ⟨16, 5⟩) (meth := k16m5) (c := k16c5) (by decide +kernel) rfl rfl rfl (by decide +kernel)
set_option maxRecDepth 65536 in
theorem w_c41 : (Jvm.Cond.code ({ cls := "java/lang/StringBuilder", name := "toString", desc := "()Ljava/lang/String;" } : Jvm.MethodName) jdk_67_method_42_code (1 : Nat) (Option.some (Jvm.ClassFile.FieldType.object "java/lang/String"))).before args0 about1 = true := code_word (m := ⟨12, 4⟩) (meth := k12m4) (c := k12c4) (by decide +kernel) rfl rfl rfl (by decide +kernel)
set_option maxRecDepth 65536 in
theorem w_c42 : (Jvm.Cond.code ({ cls := "java/lang/String", name := "<init>", desc := "(Ljava/lang/StringBuilder;)V" } : Jvm.MethodName) jdk_42_method_53_code (2 : Nat) (Option.none : Option Jvm.ClassFile.FieldType)).before args0 about1 = true := code_word (m := ⟨7, 5⟩) (meth := k7m5) (c := k7c5) (by decide +kernel) rfl rfl rfl (by decide +kernel)
set_option maxRecDepth 65536 in
theorem w_c43 : (Jvm.Cond.code ({ cls := "java/lang/String", name := "<init>", desc := "(Ljava/lang/AbstractStringBuilder;Ljava/lang/Void;)V" } : Jvm.MethodName) jdk_42_method_150_code (5 : Nat) (Option.none : Option Jvm.ClassFile.FieldType)).before args0 about1 = true := code_word (m := ⟨7, 13⟩) (meth := k7m13) (c := k7c13) (by decide +kernel) rfl rfl rfl (by decide +kernel)
set_option maxRecDepth 65536 in
theorem w_c44 : (Jvm.Cond.code ({ cls := "java/lang/AbstractStringBuilder", name := "getValue", desc := "()[B" } : Jvm.MethodName) jdk_68_method_64_code (1 : Nat) (Option.some (Jvm.ClassFile.FieldType.array Jvm.ClassFile.FieldType.byte))).before args0 about1 = true := code_word (m := ⟨11, 8⟩) (meth := k11m8) (c := k11c8) (by decide +kernel) rfl rfl rfl (by decide +kernel)
set_option maxRecDepth 65536 in
theorem w_c45 : (Jvm.Cond.code ({ cls := "java/lang/StringBuilder", name := "length", desc := "()I" } : Jvm.MethodName) jdk_67_method_93_code (1 : Nat) (Option.some Jvm.ClassFile.FieldType.int)).before args0 about1 = true := code_word (m := ⟨12, 6⟩) (meth := k12m6) (c := k12c6) (by decide +kernel) rfl rfl rfl (by decide +kernel)
set_option maxRecDepth 65536 in
theorem w_c46 : (Jvm.Cond.code ({ cls := "java/lang/AbstractStringBuilder", name := "length", desc := "()I" } : Jvm.MethodName) jdk_68_method_6_code (1 : Nat) (Option.some Jvm.ClassFile.FieldType.int)).before args0 about1 = true := code_word (m := ⟨11, 2⟩) (meth := k11m2) (c := k11c2) (by decide +kernel) rfl rfl rfl (by decide +kernel)
set_option maxRecDepth 65536 in
theorem w_c47 : (Jvm.Cond.code ({ cls := "java/util/Arrays", name := "copyOfRange", desc := "([BII)[B" } : Jvm.MethodName) jdk_65_method_132_code (3 : Nat) (Option.some (Jvm.ClassFile.FieldType.array Jvm.ClassFile.FieldType.byte))).before args0 about1 = true := code_word (m := ⟨25, 3⟩) (meth := k25m3) (c := k25c3) (by decide +kernel) rfl rfl rfl (by decide +kernel)
set_option maxRecDepth 65536 in
theorem w_c48 : (Jvm.Cond.code ({ cls := "java/util/Arrays", name := "copyOfRangeByte", desc := "([BII)[B" } : Jvm.MethodName) jdk_65_method_133_code (5 : Nat) (Option.some (Jvm.ClassFile.FieldType.array Jvm.ClassFile.FieldType.byte))).before args0 about1 = true := code_word (m := ⟨25, 4⟩) (meth := k25m4) (c := k25c4) (by decide +kernel) rfl rfl rfl (by decide +kernel)
set_option maxRecDepth 65536 in
theorem w_c49 : (Jvm.Cond.code ({ cls := "java/util/Arrays", name := "checkLength", desc := "(II)V" } : Jvm.MethodName) jdk_65_method_131_code (2 : Nat) (Option.none : Option Jvm.ClassFile.FieldType)).before args0 about1 = true := code_word (m := ⟨25, 2⟩) (meth := k25m2) (c := k25c2) (by decide +kernel) rfl rfl rfl (by decide +kernel)
set_option maxRecDepth 65536 in
theorem w_c50 : (Jvm.Cond.code ({ cls := "com/example/triad/triad/rest/PercentEncodingEncodePinLaw", name := "one", desc := "([CICCZ)I" } : Jvm.MethodName) method_5_code (5 : Nat) (Option.some Jvm.ClassFile.FieldType.int)).before args0 about1 = true := code_word (m := ⟨1, 4⟩) (meth := k1m4) (c := k1c4) (by decide +kernel) rfl rfl rfl (by decide +kernel)
set_option maxRecDepth 65536 in
theorem w_c51 : (Jvm.Cond.code ({ cls := "com/example/triad/triad/rest/PercentEncodingEncodePinLaw", name := "keptChar", desc := "(CCZ)Z" } : Jvm.MethodName) method_4_code (3 : Nat) (Option.some Jvm.ClassFile.FieldType.boolean)).before args0 about1 = true := code_word (m := ⟨1, 3⟩) (meth := k1m3) (c := k1c3) (by decide +kernel) rfl rfl rfl (by decide +kernel)
set_option maxRecDepth 65536 in
theorem w_c52 : (Jvm.Cond.code ({ cls := "com/example/triad/triad/rest/PercentEncodingEncodePinLaw", name := "encCp", desc := "([CII)I" } : Jvm.MethodName) method_8_code (4 : Nat) (Option.some Jvm.ClassFile.FieldType.int)).before args0 about1 = true := code_word (m := ⟨1, 7⟩) (meth := k1m7) (c := k1c7) (by decide +kernel) rfl rfl rfl (by decide +kernel)
set_option maxRecDepth 65536 in
theorem w_c53 : (Jvm.Cond.code ({ cls := "com/example/triad/triad/rest/PercentEncodingEncodePinLaw", name := "pct", desc := "([CII)I" } : Jvm.MethodName) method_7_code (3 : Nat) (Option.some Jvm.ClassFile.FieldType.int)).before args0 about1 = true := code_word (m := ⟨1, 6⟩) (meth := k1m6) (c := k1c6) (by decide +kernel) rfl rfl rfl (by decide +kernel)
set_option maxRecDepth 65536 in
theorem w_c54 : (Jvm.Cond.code ({ cls := "com/example/triad/triad/rest/PercentEncodingEncodePinLaw", name := "hex", desc := "(I)C" } : Jvm.MethodName) method_6_code (1 : Nat) (Option.some Jvm.ClassFile.FieldType.char)).before args0 about1 = true := code_word (m := ⟨1, 5⟩) (meth := k1m5) (c := k1c5) (by decide +kernel) rfl rfl rfl (by decide +kernel)
set_option maxRecDepth 65536 in
theorem w_c55 : (Jvm.Cond.code ({ cls := "com/example/triad/triad/rest/PercentEncodingEncodePinLaw", name := "at", desc := "(Ljava/lang/String;[CII)Z" } : Jvm.MethodName) method_3_code (4 : Nat) (Option.some Jvm.ClassFile.FieldType.boolean)).before args0 about1 = true := code_word (m := ⟨1, 2⟩) (meth := k1m2) (c := k1c2) (by decide +kernel) rfl rfl rfl (by decide +kernel)
set_option maxRecDepth 65536 in
theorem w_c56 : (Jvm.Cond.code ({ cls := "java/lang/String", name := "charAt", desc := "(I)C" } : Jvm.MethodName) jdk_42_method_56_code (2 : Nat) (Option.some Jvm.ClassFile.FieldType.char)).before args0 about1 = true := code_word (m := ⟨7, 7⟩) (meth := k7m7) (c := k7c7) (by decide +kernel) rfl rfl rfl (by decide +kernel)
set_option maxRecDepth 65536 in
theorem w_c57 : (Jvm.Cond.code ({ cls := "java/lang/StringLatin1", name := "charAt", desc := "([BI)C" } : Jvm.MethodName) jdk_43_method_2_code (2 : Nat) (Option.some Jvm.ClassFile.FieldType.char)).before args0 about1 = true := code_word (m := ⟨14, 1⟩) (meth := k14m1) (c := k14c1) (by decide +kernel) rfl rfl rfl (by decide +kernel)
set_option maxRecDepth 65536 in
theorem w_c58 : (Jvm.Cond.code ({ cls := "java/lang/StringBuilder", name := "appendCodePoint", desc := "(I)Ljava/lang/StringBuilder;" } : Jvm.MethodName) jdk_67_method_19_code (2 : Nat) (Option.some (Jvm.ClassFile.FieldType.object "java/lang/StringBuilder"))).before args0 about1 = true := code_word (m := ⟨12, 3⟩) (meth := k12m3) (c := k12c3) (by decide +kernel) rfl rfl rfl (by decide +kernel)
set_option maxRecDepth 65536 in
theorem w_c59 : (Jvm.Cond.code ({ cls := "java/lang/AbstractStringBuilder", name := "appendCodePoint", desc := "(I)Ljava/lang/AbstractStringBuilder;" } : Jvm.MethodName) jdk_68_method_37_code (2 : Nat) (Option.some (Jvm.ClassFile.FieldType.object "java/lang/AbstractStringBuilder"))).before args0 about1 = true := code_word (m := ⟨11, 7⟩) (meth := k11m7) (c := k11c7) (by decide +kernel) rfl rfl rfl (by decide +kernel)
set_option maxRecDepth 65536 in
theorem w_c60 : (Jvm.Cond.code ({ cls := "java/lang/StringBuilder", name := "append", desc := "(C)Ljava/lang/AbstractStringBuilder;" } : Jvm.MethodName) jdk_67_method_73_code (2 : Nat) (Option.some (Jvm.ClassFile.FieldType.object "java/lang/AbstractStringBuilder"))).before args0 about1 = true := code_word (m := ⟨12, 5⟩) (meth := k12m5) (c := k12c5) (by decide +kernel) rfl rfl rfl (by decide +kernel)
set_option maxRecDepth 65536 in
theorem w_c61 : (Jvm.Cond.code ({ cls := "java/lang/StringUTF16", name := "newBytesFor", desc := "(I)[B" } : Jvm.MethodName) jdk_52_method_2_code (1 : Nat) (Option.some (Jvm.ClassFile.FieldType.array Jvm.ClassFile.FieldType.byte))).before args0 about1 = true := code_word (m := ⟨8, 1⟩) (meth := k8m1) (c := k8c1) (by decide +kernel) rfl rfl rfl (by decide +kernel)
set_option maxRecDepth 65536 in
theorem w_c62 : (Jvm.Cond.code ({ cls := "java/lang/StringUTF16", name := "newBytesLength", desc := "(I)I" } : Jvm.MethodName) jdk_52_method_3_code (1 : Nat) (Option.some Jvm.ClassFile.FieldType.int)).before args0 about1 = true := code_word (m := ⟨8, 2⟩) (meth := k8m2) (c := k8c2) (by decide +kernel) rfl rfl rfl (by decide +kernel)
set_option maxRecDepth 65536 in
theorem w_c63 : (Jvm.Cond.code ({ cls := "java/lang/StringUTF16", name := "toBytes", desc := "([CII)[B" } : Jvm.MethodName) jdk_52_method_14_code (5 : Nat) (Option.some (Jvm.ClassFile.FieldType.array Jvm.ClassFile.FieldType.byte))).before args0 about1 = true := code_word (m := ⟨8, 8⟩) (meth := k8m8) (c := k8c8) (by decide +kernel) rfl rfl rfl (by decide +kernel)
set_option maxRecDepth 65536 in
theorem w_c64 : (Jvm.Cond.code ({ cls := "java/lang/StringUTF16", name := "putChar", desc := "([BII)V" } : Jvm.MethodName) jdk_52_method_4_code (3 : Nat) (Option.none : Option Jvm.ClassFile.FieldType)).before args0 about1 = true := code_word (m := ⟨8, 3⟩) (meth := k8m3) (c := k8c3) (by decide +kernel) rfl rfl rfl (by decide +kernel)
set_option maxRecDepth 65536 in
theorem w_c65 : (Jvm.Cond.code ({ cls := "java/lang/StringUTF16", name := "getChar", desc := "([BI)C" } : Jvm.MethodName) jdk_52_method_5_code (2 : Nat) (Option.some Jvm.ClassFile.FieldType.char)).before args0 about1 = true := code_word (m := ⟨8, 4⟩) (meth := k8m4) (c := k8c4) (by decide +kernel) rfl rfl rfl (by decide +kernel)
set_option maxRecDepth 65536 in
theorem w_c66 : (Jvm.Cond.code ({ cls := "java/lang/StringUTF16", name := "codePointAt", desc := "([BII)I" } : Jvm.MethodName) jdk_52_method_8_code (3 : Nat) (Option.some Jvm.ClassFile.FieldType.int)).before args0 about1 = true := code_word (m := ⟨8, 7⟩) (meth := k8m7) (c := k8c7) (by decide +kernel) rfl rfl rfl (by decide +kernel)
set_option maxRecDepth 65536 in
theorem w_c67 : (Jvm.Cond.code ({ cls := "java/lang/StringUTF16", name := "codePointAt", desc := "([BIIZ)I" } : Jvm.MethodName) jdk_52_method_7_code (6 : Nat) (Option.some Jvm.ClassFile.FieldType.int)).before args0 about1 = true := code_word (m := ⟨8, 6⟩) (meth := k8m6) (c := k8c6) (by decide +kernel) rfl rfl rfl (by decide +kernel)
set_option maxRecDepth 65536 in
theorem w_c68 : (Jvm.Cond.code ({ cls := "java/lang/Character", name := "isHighSurrogate", desc := "(C)Z" } : Jvm.MethodName) jdk_89_method_14_code (1 : Nat) (Option.some Jvm.ClassFile.FieldType.boolean)).before args0 about1 = true := code_word (m := ⟨16, 2⟩) (meth := k16m2) (c := k16c2) (by decide +kernel) rfl rfl rfl (by decide +kernel)
set_option maxRecDepth 65536 in
theorem w_c69 : (Jvm.Cond.code ({ cls := "java/lang/Character", name := "isLowSurrogate", desc := "(C)Z" } : Jvm.MethodName) jdk_89_method_15_code (1 : Nat) (Option.some Jvm.ClassFile.FieldType.boolean)).before args0 about1 = true := code_word (m := ⟨16, 3⟩) (meth := k16m3) (c := k16c3) (by decide +kernel) rfl rfl rfl (by decide +kernel)
set_option maxRecDepth 65536 in
theorem w_c70 : (Jvm.Cond.code ({ cls := "java/lang/Character", name := "toCodePoint", desc := "(CC)I" } : Jvm.MethodName) jdk_89_method_19_code (2 : Nat) (Option.some Jvm.ClassFile.FieldType.int)).before args0 about1 = true := code_word (m := ⟨16, 6⟩) (meth := k16m6) (c := k16c6) (by decide +kernel) rfl rfl rfl (by decide +kernel)
set_option maxRecDepth 65536 in
theorem w_c71 : (Jvm.Cond.code ({ cls := "java/lang/Character", name := "isValidCodePoint", desc := "(I)Z" } : Jvm.MethodName) jdk_89_method_11_code (2 : Nat) (Option.some Jvm.ClassFile.FieldType.boolean)).before args0 about1 = true := code_word (m := ⟨16, 0⟩) (meth := k16m0) (c := k16c0) (by decide +kernel) rfl rfl rfl (by decide +kernel)
set_option maxRecDepth 65536 in
theorem w_c72 : (Jvm.Cond.code ({ cls := "java/lang/Character", name := "toSurrogates", desc := "(I[CI)V" } : Jvm.MethodName) jdk_89_method_32_code (3 : Nat) (Option.none : Option Jvm.ClassFile.FieldType)).before args0 about1 = true := code_word (m := ⟨16, 10⟩) (meth := k16m10) (c := k16c10) (by decide +kernel) rfl rfl rfl (by decide +kernel)
set_option maxRecDepth 65536 in
theorem w_c73 : (Jvm.Cond.code ({ cls := "java/lang/Character", name := "lowSurrogate", desc := "(I)C" } : Jvm.MethodName) jdk_89_method_29_code (1 : Nat) (Option.some Jvm.ClassFile.FieldType.char)).before args0 about1 = true := code_word (m := ⟨16, 8⟩) (meth := k16m8) (c := k16c8) (by decide +kernel) rfl rfl rfl (by decide +kernel)
set_option maxRecDepth 65536 in
theorem w_c74 : (Jvm.Cond.code ({ cls := "java/lang/Character", name := "highSurrogate", desc := "(I)C" } : Jvm.MethodName) jdk_89_method_28_code (1 : Nat) (Option.some Jvm.ClassFile.FieldType.char)).before args0 about1 = true := code_word (m := ⟨16, 7⟩) (meth := k16m7) (c := k16c7) (by decide +kernel) rfl rfl rfl (by decide +kernel)
set_option maxRecDepth 65536 in
theorem w_c75 : (Jvm.Cond.code ({ cls := "java/lang/String", name := "encodeUTF8_UTF16", desc := "([BZ)[B" } : Jvm.MethodName) jdk_42_method_47_code (9 : Nat) (Option.some (Jvm.ClassFile.FieldType.array Jvm.ClassFile.FieldType.byte))).before args0 about1 = true := code_word (m := ⟨7, 4⟩) (meth := k7m4) (c := k7c4) (by decide +kernel) rfl rfl rfl (by decide +kernel)
set_option maxRecDepth 65536 in
theorem w_c76 : (Jvm.Cond.code ({ cls := "java/lang/Character", name := "isSurrogate", desc := "(C)Z" } : Jvm.MethodName) jdk_89_method_16_code (1 : Nat) (Option.some Jvm.ClassFile.FieldType.boolean)).before args0 about1 = true := code_word (m := ⟨16, 4⟩) (meth := k16m4) (c := k16c4) (by decide +kernel) rfl rfl rfl (by decide +kernel)
set_option maxRecDepth 65536 in
theorem w_c77 : (Jvm.Cond.code ({ cls := "java/lang/StringUTF16", name := "indexOf", desc := "([BIII)I" } : Jvm.MethodName) jdk_52_method_40_code (4 : Nat) (Option.some Jvm.ClassFile.FieldType.int)).before args0 about1 = true := code_word (m := ⟨8, 12⟩) (meth := k8m12) (c := k8c12) (by decide +kernel) rfl rfl rfl (by decide +kernel)
set_option maxRecDepth 65536 in
theorem w_c78 : (Jvm.Cond.code ({ cls := "java/lang/StringUTF16", name := "indexOfSupplementary", desc := "([BIII)I" } : Jvm.MethodName) jdk_52_method_49_code (7 : Nat) (Option.some Jvm.ClassFile.FieldType.int)).before args0 about1 = true := code_word (m := ⟨8, 15⟩) (meth := k8m15) (c := k8c15) (by decide +kernel) rfl rfl rfl (by decide +kernel)
set_option maxRecDepth 65536 in
theorem w_c79 : (Jvm.Cond.code ({ cls := "java/lang/StringUTF16", name := "checkBoundsBeginEnd", desc := "(II[B)V" } : Jvm.MethodName) jdk_52_method_93_code (3 : Nat) (Option.none : Option Jvm.ClassFile.FieldType)).before args0 about1 = true := code_word (m := ⟨8, 20⟩) (meth := k8m20) (c := k8c20) (by decide +kernel) rfl rfl rfl (by decide +kernel)
set_option maxRecDepth 65536 in
theorem w_c80 : (Jvm.Cond.code ({ cls := "java/lang/StringUTF16", name := "length", desc := "([B)I" } : Jvm.MethodName) jdk_52_method_6_code (1 : Nat) (Option.some Jvm.ClassFile.FieldType.int)).before args0 about1 = true := code_word (m := ⟨8, 5⟩) (meth := k8m5) (c := k8c5) (by decide +kernel) rfl rfl rfl (by decide +kernel)
set_option maxRecDepth 65536 in
theorem w_c81 : (Jvm.Cond.code ({ cls := "java/lang/String", name := "checkBoundsBeginEnd", desc := "(III)V" } : Jvm.MethodName) jdk_42_method_158_code (3 : Nat) (Option.none : Option Jvm.ClassFile.FieldType)).before args0 about1 = true := code_word (m := ⟨7, 18⟩) (meth := k7m18) (c := k7c18) (by decide +kernel) rfl rfl rfl (by decide +kernel)
set_option maxRecDepth 65536 in
theorem w_c82 : (Jvm.Cond.code ({ cls := "jdk/internal/util/Preconditions", name := "checkFromToIndex", desc := "(IIILjava/util/function/BiFunction;)I" } : Jvm.MethodName) jdk_41_method_12_code (4 : Nat) (Option.some Jvm.ClassFile.FieldType.int)).before args0 about1 = true := code_word (m := ⟨13, 2⟩) (meth := k13m2) (c := k13c2) (by decide +kernel) rfl rfl rfl (by decide +kernel)
set_option maxRecDepth 65536 in
theorem w_c83 : (Jvm.Cond.code ({ cls := "java/lang/StringUTF16", name := "indexOfChar", desc := "([BIII)I" } : Jvm.MethodName) jdk_52_method_47_code (4 : Nat) (Option.some Jvm.ClassFile.FieldType.int)).before args0 about1 = true := code_word (m := ⟨8, 13⟩) (meth := k8m13) (c := k8c13) (by decide +kernel) rfl rfl rfl (by decide +kernel)
set_option maxRecDepth 65536 in
theorem w_c84 : (Jvm.Cond.code ({ cls := "java/lang/StringUTF16", name := "indexOfCharUnsafe", desc := "([BIII)I" } : Jvm.MethodName) jdk_52_method_48_code (5 : Nat) (Option.some Jvm.ClassFile.FieldType.int)).before args0 about1 = true := code_word (m := ⟨8, 14⟩) (meth := k8m14) (c := k8c14) (by decide +kernel) rfl rfl rfl (by decide +kernel)
set_option maxRecDepth 65536 in
theorem w_c85 : (Jvm.Cond.code ({ cls := "java/lang/AbstractStringBuilder", name := "inflate", desc := "()V" } : Jvm.MethodName) jdk_68_method_11_code (2 : Nat) (Option.none : Option Jvm.ClassFile.FieldType)).before args0 about1 = true := code_word (m := ⟨11, 5⟩) (meth := k11m5) (c := k11c5) (by decide +kernel) rfl rfl rfl (by decide +kernel)
set_option maxRecDepth 65536 in
theorem w_c86 : (Jvm.Cond.code ({ cls := "java/lang/StringLatin1", name := "inflate", desc := "([BI[BII)V" } : Jvm.MethodName) jdk_43_method_50_code (5 : Nat) (Option.none : Option Jvm.ClassFile.FieldType)).before args0 about1 = true := code_word (m := ⟨14, 6⟩) (meth := k14m6) (c := k14c6) (by decide +kernel) rfl rfl rfl (by decide +kernel)
set_option maxRecDepth 65536 in
theorem w_c87 : (Jvm.Cond.code ({ cls := "java/lang/StringUTF16", name := "inflate", desc := "([BI[BII)V" } : Jvm.MethodName) jdk_52_method_86_code (6 : Nat) (Option.none : Option Jvm.ClassFile.FieldType)).before args0 about1 = true := code_word (m := ⟨8, 18⟩) (meth := k8m18) (c := k8c18) (by decide +kernel) rfl rfl rfl (by decide +kernel)
set_option maxRecDepth 65536 in
theorem w_c88 : (Jvm.Cond.code ({ cls := "java/lang/StringUTF16", name := "checkBoundsOffCount", desc := "(II[B)V" } : Jvm.MethodName) jdk_52_method_94_code (3 : Nat) (Option.none : Option Jvm.ClassFile.FieldType)).before args0 about1 = true := code_word (m := ⟨8, 21⟩) (meth := k8m21) (c := k8c21) (by decide +kernel) rfl rfl rfl (by decide +kernel)
set_option maxRecDepth 65536 in
theorem w_c89 : (Jvm.Cond.code ({ cls := "java/lang/String", name := "checkBoundsOffCount", desc := "(III)I" } : Jvm.MethodName) jdk_42_method_157_code (3 : Nat) (Option.some Jvm.ClassFile.FieldType.int)).before args0 about1 = true := code_word (m := ⟨7, 17⟩) (meth := k7m17) (c := k7c17) (by decide +kernel) rfl rfl rfl (by decide +kernel)
set_option maxRecDepth 65536 in
theorem w_c90 : (Jvm.Cond.code ({ cls := "jdk/internal/util/Preconditions", name := "checkFromIndexSize", desc := "(IIILjava/util/function/BiFunction;)I" } : Jvm.MethodName) jdk_41_method_13_code (4 : Nat) (Option.some Jvm.ClassFile.FieldType.int)).before args0 about1 = true := code_word (m := ⟨13, 3⟩) (meth := k13m3) (c := k13c3) (by decide +kernel) rfl rfl rfl (by decide +kernel)
set_option maxRecDepth 65536 in
theorem w_c91 : (Jvm.Cond.code ({ cls := "java/lang/StringUTF16", name := "putCharSB", desc := "([BII)V" } : Jvm.MethodName) jdk_52_method_71_code (3 : Nat) (Option.none : Option Jvm.ClassFile.FieldType)).before args0 about1 = true := code_word (m := ⟨8, 16⟩) (meth := k8m16) (c := k8c16) (by decide +kernel) rfl rfl rfl (by decide +kernel)
set_option maxRecDepth 65536 in
theorem w_c92 : (Jvm.Cond.code ({ cls := "java/lang/StringUTF16", name := "checkIndex", desc := "(I[B)V" } : Jvm.MethodName) jdk_52_method_91_code (2 : Nat) (Option.none : Option Jvm.ClassFile.FieldType)).before args0 about1 = true := code_word (m := ⟨8, 19⟩) (meth := k8m19) (c := k8c19) (by decide +kernel) rfl rfl rfl (by decide +kernel)
set_option maxRecDepth 65536 in
theorem w_c93 : (Jvm.Cond.code ({ cls := "java/lang/StringUTF16", name := "charAt", desc := "([BI)C" } : Jvm.MethodName) jdk_52_method_83_code (2 : Nat) (Option.some Jvm.ClassFile.FieldType.char)).before args0 about1 = true := code_word (m := ⟨8, 17⟩) (meth := k8m17) (c := k8c17) (by decide +kernel) rfl rfl rfl (by decide +kernel)
def codes1 : List Jvm.Cond := [Jvm.Cond.code x code maxLocals ret, Jvm.Cond.code ({ cls := "java/lang/String", name := "<init>", desc := "([C)V" } : Jvm.MethodName) jdk_42_method_3_code (2 : Nat) (Option.none : Option Jvm.ClassFile.FieldType), Jvm.Cond.code ({ cls := "java/lang/String", name := "<init>", desc := "([CIILjava/lang/Void;)V" } : Jvm.MethodName) jdk_42_method_149_code (6 : Nat) (Option.none : Option Jvm.ClassFile.FieldType), Jvm.Cond.code ({ cls := "java/lang/Object", name := "<init>", desc := "()V" } : Jvm.MethodName) object_method_1_code (1 : Nat) (Option.none : Option Jvm.ClassFile.FieldType), Jvm.Cond.code ({ cls := "java/lang/StringUTF16", name := "compress", desc := "([CII)[B" } : Jvm.MethodName) jdk_52_method_16_code (6 : Nat) (Option.some (Jvm.ClassFile.FieldType.array Jvm.ClassFile.FieldType.byte)), Jvm.Cond.code ({ cls := "java/lang/StringUTF16", name := "compress", desc := "([CI[BII)I" } : Jvm.MethodName) jdk_52_method_21_code (7 : Nat) (Option.some Jvm.ClassFile.FieldType.int), Jvm.Cond.code ({ cls := "java/lang/StringUTF16", name := "coderFromArrayLen", desc := "([BI)B" } : Jvm.MethodName) jdk_52_method_15_code (2 : Nat) (Option.some Jvm.ClassFile.FieldType.byte), Jvm.Cond.code ({ cls := "com/example/triad/triad/rest/PercentEncoding", name := "encode", desc := "(Ljava/lang/String;Ljava/lang/String;)Ljava/lang/String;" } : Jvm.MethodName) prog_9_method_3_code (5 : Nat) (Option.some (Jvm.ClassFile.FieldType.object "java/lang/String")), Jvm.Cond.code ({ cls := "java/lang/String", name := "length", desc := "()I" } : Jvm.MethodName) jdk_42_method_54_code (1 : Nat) (Option.some Jvm.ClassFile.FieldType.int), Jvm.Cond.code ({ cls := "java/lang/String", name := "coder", desc := "()B" } : Jvm.MethodName) jdk_42_method_152_code (1 : Nat) (Option.some Jvm.ClassFile.FieldType.byte), Jvm.Cond.code ({ cls := "java/lang/StringBuilder", name := "<init>", desc := "(I)V" } : Jvm.MethodName) jdk_67_method_2_code (2 : Nat) (Option.none : Option Jvm.ClassFile.FieldType), Jvm.Cond.code ({ cls := "java/lang/AbstractStringBuilder", name := "<init>", desc := "(I)V" } : Jvm.MethodName) jdk_68_method_2_code (2 : Nat) (Option.none : Option Jvm.ClassFile.FieldType), Jvm.Cond.code ({ cls := "java/lang/String", name := "codePointAt", desc := "(I)I" } : Jvm.MethodName) jdk_42_method_57_code (3 : Nat) (Option.some Jvm.ClassFile.FieldType.int), Jvm.Cond.code ({ cls := "java/lang/String", name := "isLatin1", desc := "()Z" } : Jvm.MethodName) jdk_42_method_154_code (1 : Nat) (Option.some Jvm.ClassFile.FieldType.boolean), Jvm.Cond.code ({ cls := "java/lang/String", name := "checkIndex", desc := "(II)V" } : Jvm.MethodName) jdk_42_method_155_code (2 : Nat) (Option.none : Option Jvm.ClassFile.FieldType), Jvm.Cond.code ({ cls := "jdk/internal/util/Preconditions", name := "checkIndex", desc := "(IILjava/util/function/BiFunction;)I" } : Jvm.MethodName) jdk_41_method_11_code (3 : Nat) (Option.some Jvm.ClassFile.FieldType.int), Jvm.Cond.code ({ cls := "com/example/triad/triad/rest/PercentEncoding", name := "isKept", desc := "(ILjava/lang/String;)Z" } : Jvm.MethodName) prog_9_method_2_code (3 : Nat) (Option.some Jvm.ClassFile.FieldType.boolean), Jvm.Cond.code ({ cls := "java/lang/String", name := "indexOf", desc := "(I)I" } : Jvm.MethodName) jdk_42_method_79_code (2 : Nat) (Option.some Jvm.ClassFile.FieldType.int), Jvm.Cond.code ({ cls := "java/lang/String", name := "indexOf", desc := "(II)I" } : Jvm.MethodName) jdk_42_method_80_code (3 : Nat) (Option.some Jvm.ClassFile.FieldType.int), Jvm.Cond.code ({ cls := "java/lang/StringLatin1", name := "indexOf", desc := "([BIII)I" } : Jvm.MethodName) jdk_43_method_22_code (4 : Nat) (Option.some Jvm.ClassFile.FieldType.int), Jvm.Cond.code ({ cls := "java/lang/StringLatin1", name := "canEncode", desc := "(I)Z" } : Jvm.MethodName) jdk_43_method_4_code (1 : Nat) (Option.some Jvm.ClassFile.FieldType.boolean), Jvm.Cond.code ({ cls := "java/lang/Math", name := "max", desc := "(II)I" } : Jvm.MethodName) jdk_29_method_65_code (2 : Nat) (Option.some Jvm.ClassFile.FieldType.int), Jvm.Cond.code ({ cls := "java/lang/Math", name := "min", desc := "(II)I" } : Jvm.MethodName) jdk_29_method_69_code (2 : Nat) (Option.some Jvm.ClassFile.FieldType.int), Jvm.Cond.code ({ cls := "java/lang/StringLatin1", name := "indexOfChar", desc := "([BIII)I" } : Jvm.MethodName) jdk_43_method_23_code (6 : Nat) (Option.some Jvm.ClassFile.FieldType.int), Jvm.Cond.code ({ cls := "com/example/triad/triad/rest/PercentEncoding", name := "appendEncoded", desc := "(Ljava/lang/StringBuilder;I)V" } : Jvm.MethodName) prog_9_method_4_code (7 : Nat) (Option.none : Option Jvm.ClassFile.FieldType), Jvm.Cond.code ({ cls := "java/lang/Character", name := "toChars", desc := "(I)[C" } : Jvm.MethodName) jdk_89_method_31_code (2 : Nat) (Option.some (Jvm.ClassFile.FieldType.array Jvm.ClassFile.FieldType.char)), Jvm.Cond.code ({ cls := "java/lang/Character", name := "isBmpCodePoint", desc := "(I)Z" } : Jvm.MethodName) jdk_89_method_12_code (1 : Nat) (Option.some Jvm.ClassFile.FieldType.boolean), Jvm.Cond.code ({ cls := "java/lang/String", name := "getBytes", desc := "(Ljava/nio/charset/Charset;)[B" } : Jvm.MethodName) jdk_42_method_64_code (2 : Nat) (Option.some (Jvm.ClassFile.FieldType.array Jvm.ClassFile.FieldType.byte)), Jvm.Cond.code ({ cls := "java/lang/String", name := "encode", desc := "(Ljava/nio/charset/Charset;B[B)[B" } : Jvm.MethodName) jdk_42_method_18_code (3 : Nat) (Option.some (Jvm.ClassFile.FieldType.array Jvm.ClassFile.FieldType.byte)), Jvm.Cond.code ({ cls := "java/lang/String", name := "encodeUTF8", desc := "(B[BZ)[B" } : Jvm.MethodName) jdk_42_method_46_code (9 : Nat) (Option.some (Jvm.ClassFile.FieldType.array Jvm.ClassFile.FieldType.byte)), Jvm.Cond.code ({ cls := "java/lang/StringCoding", name := "hasNegatives", desc := "([BII)Z" } : Jvm.MethodName) jdk_123_method_2_code (3 : Nat) (Option.some Jvm.ClassFile.FieldType.boolean), Jvm.Cond.code ({ cls := "java/lang/StringCoding", name := "countPositives", desc := "([BII)I" } : Jvm.MethodName) jdk_123_method_3_code (5 : Nat) (Option.some Jvm.ClassFile.FieldType.int), Jvm.Cond.code ({ cls := "java/lang/StringBuilder", name := "append", desc := "(C)Ljava/lang/StringBuilder;" } : Jvm.MethodName) jdk_67_method_14_code (2 : Nat) (Option.some (Jvm.ClassFile.FieldType.object "java/lang/StringBuilder")), Jvm.Cond.code ({ cls := "java/lang/AbstractStringBuilder", name := "append", desc := "(C)Ljava/lang/AbstractStringBuilder;" } : Jvm.MethodName) jdk_68_method_31_code (2 : Nat) (Option.some (Jvm.ClassFile.FieldType.object "java/lang/AbstractStringBuilder")), Jvm.Cond.code ({ cls := "java/lang/AbstractStringBuilder", name := "ensureCapacityInternal", desc := "(I)V" } : Jvm.MethodName) jdk_68_method_9_code (3 : Nat) (Option.none : Option Jvm.ClassFile.FieldType), Jvm.Cond.code ({ cls := "java/lang/AbstractStringBuilder", name := "isLatin1", desc := "()Z" } : Jvm.MethodName) jdk_68_method_68_code (1 : Nat) (Option.some Jvm.ClassFile.FieldType.boolean), Jvm.Cond.code ({ cls := "java/lang/StringLatin1", name := "canEncode", desc := "(C)Z" } : Jvm.MethodName) jdk_43_method_3_code (1 : Nat) (Option.some Jvm.ClassFile.FieldType.boolean), Jvm.Cond.code ({ cls := "java/lang/AbstractStringBuilder", name := "newCapacity", desc := "(I)I" } : Jvm.MethodName) jdk_68_method_10_code (6 : Nat) (Option.some Jvm.ClassFile.FieldType.int), Jvm.Cond.code ({ cls := "jdk/internal/util/ArraysSupport", name := "newLength", desc := "(III)I" } : Jvm.MethodName) jdk_48_method_27_code (4 : Nat) (Option.some Jvm.ClassFile.FieldType.int), Jvm.Cond.code ({ cls := "java/util/Arrays", name := "copyOf", desc := "([BI)[B" } : Jvm.MethodName) jdk_65_method_121_code (3 : Nat) (Option.some (Jvm.ClassFile.FieldType.array Jvm.ClassFile.FieldType.byte)), Jvm.Cond.code ({ cls := "java/lang/Character", name := "charCount", desc := "(I)I" } : Jvm.MethodName) jdk_89_method_18_code (1 : Nat) (Option.some Jvm.ClassFile.FieldType.int), Jvm.Cond.code ({ cls := "java/lang/StringBuilder", name := "toString", desc := "()Ljava/lang/String;" } : Jvm.MethodName) jdk_67_method_42_code (1 : Nat) (Option.some (Jvm.ClassFile.FieldType.object "java/lang/String")), Jvm.Cond.code ({ cls := "java/lang/String", name := "<init>", desc := "(Ljava/lang/StringBuilder;)V" } : Jvm.MethodName) jdk_42_method_53_code (2 : Nat) (Option.none : Option Jvm.ClassFile.FieldType), Jvm.Cond.code ({ cls := "java/lang/String", name := "<init>", desc := "(Ljava/lang/AbstractStringBuilder;Ljava/lang/Void;)V" } : Jvm.MethodName) jdk_42_method_150_code (5 : Nat) (Option.none : Option Jvm.ClassFile.FieldType), Jvm.Cond.code ({ cls := "java/lang/AbstractStringBuilder", name := "getValue", desc := "()[B" } : Jvm.MethodName) jdk_68_method_64_code (1 : Nat) (Option.some (Jvm.ClassFile.FieldType.array Jvm.ClassFile.FieldType.byte)), Jvm.Cond.code ({ cls := "java/lang/StringBuilder", name := "length", desc := "()I" } : Jvm.MethodName) jdk_67_method_93_code (1 : Nat) (Option.some Jvm.ClassFile.FieldType.int), Jvm.Cond.code ({ cls := "java/lang/AbstractStringBuilder", name := "length", desc := "()I" } : Jvm.MethodName) jdk_68_method_6_code (1 : Nat) (Option.some Jvm.ClassFile.FieldType.int), Jvm.Cond.code ({ cls := "java/util/Arrays", name := "copyOfRange", desc := "([BII)[B" } : Jvm.MethodName) jdk_65_method_132_code (3 : Nat) (Option.some (Jvm.ClassFile.FieldType.array Jvm.ClassFile.FieldType.byte)), Jvm.Cond.code ({ cls := "java/util/Arrays", name := "copyOfRangeByte", desc := "([BII)[B" } : Jvm.MethodName) jdk_65_method_133_code (5 : Nat) (Option.some (Jvm.ClassFile.FieldType.array Jvm.ClassFile.FieldType.byte)), Jvm.Cond.code ({ cls := "java/util/Arrays", name := "checkLength", desc := "(II)V" } : Jvm.MethodName) jdk_65_method_131_code (2 : Nat) (Option.none : Option Jvm.ClassFile.FieldType), Jvm.Cond.code ({ cls := "com/example/triad/triad/rest/PercentEncodingEncodePinLaw", name := "one", desc := "([CICCZ)I" } : Jvm.MethodName) method_5_code (5 : Nat) (Option.some Jvm.ClassFile.FieldType.int), Jvm.Cond.code ({ cls := "com/example/triad/triad/rest/PercentEncodingEncodePinLaw", name := "keptChar", desc := "(CCZ)Z" } : Jvm.MethodName) method_4_code (3 : Nat) (Option.some Jvm.ClassFile.FieldType.boolean), Jvm.Cond.code ({ cls := "com/example/triad/triad/rest/PercentEncodingEncodePinLaw", name := "encCp", desc := "([CII)I" } : Jvm.MethodName) method_8_code (4 : Nat) (Option.some Jvm.ClassFile.FieldType.int), Jvm.Cond.code ({ cls := "com/example/triad/triad/rest/PercentEncodingEncodePinLaw", name := "pct", desc := "([CII)I" } : Jvm.MethodName) method_7_code (3 : Nat) (Option.some Jvm.ClassFile.FieldType.int), Jvm.Cond.code ({ cls := "com/example/triad/triad/rest/PercentEncodingEncodePinLaw", name := "hex", desc := "(I)C" } : Jvm.MethodName) method_6_code (1 : Nat) (Option.some Jvm.ClassFile.FieldType.char), Jvm.Cond.code ({ cls := "com/example/triad/triad/rest/PercentEncodingEncodePinLaw", name := "at", desc := "(Ljava/lang/String;[CII)Z" } : Jvm.MethodName) method_3_code (4 : Nat) (Option.some Jvm.ClassFile.FieldType.boolean), Jvm.Cond.code ({ cls := "java/lang/String", name := "charAt", desc := "(I)C" } : Jvm.MethodName) jdk_42_method_56_code (2 : Nat) (Option.some Jvm.ClassFile.FieldType.char), Jvm.Cond.code ({ cls := "java/lang/StringLatin1", name := "charAt", desc := "([BI)C" } : Jvm.MethodName) jdk_43_method_2_code (2 : Nat) (Option.some Jvm.ClassFile.FieldType.char), Jvm.Cond.code ({ cls := "java/lang/StringBuilder", name := "appendCodePoint", desc := "(I)Ljava/lang/StringBuilder;" } : Jvm.MethodName) jdk_67_method_19_code (2 : Nat) (Option.some (Jvm.ClassFile.FieldType.object "java/lang/StringBuilder")), Jvm.Cond.code ({ cls := "java/lang/AbstractStringBuilder", name := "appendCodePoint", desc := "(I)Ljava/lang/AbstractStringBuilder;" } : Jvm.MethodName) jdk_68_method_37_code (2 : Nat) (Option.some (Jvm.ClassFile.FieldType.object "java/lang/AbstractStringBuilder")), Jvm.Cond.code ({ cls := "java/lang/StringBuilder", name := "append", desc := "(C)Ljava/lang/AbstractStringBuilder;" } : Jvm.MethodName) jdk_67_method_73_code (2 : Nat) (Option.some (Jvm.ClassFile.FieldType.object "java/lang/AbstractStringBuilder")), Jvm.Cond.code ({ cls := "java/lang/StringUTF16", name := "newBytesFor", desc := "(I)[B" } : Jvm.MethodName) jdk_52_method_2_code (1 : Nat) (Option.some (Jvm.ClassFile.FieldType.array Jvm.ClassFile.FieldType.byte)), Jvm.Cond.code ({ cls := "java/lang/StringUTF16", name := "newBytesLength", desc := "(I)I" } : Jvm.MethodName) jdk_52_method_3_code (1 : Nat) (Option.some Jvm.ClassFile.FieldType.int), Jvm.Cond.code ({ cls := "java/lang/StringUTF16", name := "toBytes", desc := "([CII)[B" } : Jvm.MethodName) jdk_52_method_14_code (5 : Nat) (Option.some (Jvm.ClassFile.FieldType.array Jvm.ClassFile.FieldType.byte)), Jvm.Cond.code ({ cls := "java/lang/StringUTF16", name := "putChar", desc := "([BII)V" } : Jvm.MethodName) jdk_52_method_4_code (3 : Nat) (Option.none : Option Jvm.ClassFile.FieldType), Jvm.Cond.code ({ cls := "java/lang/StringUTF16", name := "getChar", desc := "([BI)C" } : Jvm.MethodName) jdk_52_method_5_code (2 : Nat) (Option.some Jvm.ClassFile.FieldType.char), Jvm.Cond.code ({ cls := "java/lang/StringUTF16", name := "codePointAt", desc := "([BII)I" } : Jvm.MethodName) jdk_52_method_8_code (3 : Nat) (Option.some Jvm.ClassFile.FieldType.int), Jvm.Cond.code ({ cls := "java/lang/StringUTF16", name := "codePointAt", desc := "([BIIZ)I" } : Jvm.MethodName) jdk_52_method_7_code (6 : Nat) (Option.some Jvm.ClassFile.FieldType.int), Jvm.Cond.code ({ cls := "java/lang/Character", name := "isHighSurrogate", desc := "(C)Z" } : Jvm.MethodName) jdk_89_method_14_code (1 : Nat) (Option.some Jvm.ClassFile.FieldType.boolean), Jvm.Cond.code ({ cls := "java/lang/Character", name := "isLowSurrogate", desc := "(C)Z" } : Jvm.MethodName) jdk_89_method_15_code (1 : Nat) (Option.some Jvm.ClassFile.FieldType.boolean), Jvm.Cond.code ({ cls := "java/lang/Character", name := "toCodePoint", desc := "(CC)I" } : Jvm.MethodName) jdk_89_method_19_code (2 : Nat) (Option.some Jvm.ClassFile.FieldType.int), Jvm.Cond.code ({ cls := "java/lang/Character", name := "isValidCodePoint", desc := "(I)Z" } : Jvm.MethodName) jdk_89_method_11_code (2 : Nat) (Option.some Jvm.ClassFile.FieldType.boolean), Jvm.Cond.code ({ cls := "java/lang/Character", name := "toSurrogates", desc := "(I[CI)V" } : Jvm.MethodName) jdk_89_method_32_code (3 : Nat) (Option.none : Option Jvm.ClassFile.FieldType), Jvm.Cond.code ({ cls := "java/lang/Character", name := "lowSurrogate", desc := "(I)C" } : Jvm.MethodName) jdk_89_method_29_code (1 : Nat) (Option.some Jvm.ClassFile.FieldType.char), Jvm.Cond.code ({ cls := "java/lang/Character", name := "highSurrogate", desc := "(I)C" } : Jvm.MethodName) jdk_89_method_28_code (1 : Nat) (Option.some Jvm.ClassFile.FieldType.char), Jvm.Cond.code ({ cls := "java/lang/String", name := "encodeUTF8_UTF16", desc := "([BZ)[B" } : Jvm.MethodName) jdk_42_method_47_code (9 : Nat) (Option.some (Jvm.ClassFile.FieldType.array Jvm.ClassFile.FieldType.byte)), Jvm.Cond.code ({ cls := "java/lang/Character", name := "isSurrogate", desc := "(C)Z" } : Jvm.MethodName) jdk_89_method_16_code (1 : Nat) (Option.some Jvm.ClassFile.FieldType.boolean), Jvm.Cond.code ({ cls := "java/lang/StringUTF16", name := "indexOf", desc := "([BIII)I" } : Jvm.MethodName) jdk_52_method_40_code (4 : Nat) (Option.some Jvm.ClassFile.FieldType.int), Jvm.Cond.code ({ cls := "java/lang/StringUTF16", name := "indexOfSupplementary", desc := "([BIII)I" } : Jvm.MethodName) jdk_52_method_49_code (7 : Nat) (Option.some Jvm.ClassFile.FieldType.int), Jvm.Cond.code ({ cls := "java/lang/StringUTF16", name := "checkBoundsBeginEnd", desc := "(II[B)V" } : Jvm.MethodName) jdk_52_method_93_code (3 : Nat) (Option.none : Option Jvm.ClassFile.FieldType), Jvm.Cond.code ({ cls := "java/lang/StringUTF16", name := "length", desc := "([B)I" } : Jvm.MethodName) jdk_52_method_6_code (1 : Nat) (Option.some Jvm.ClassFile.FieldType.int), Jvm.Cond.code ({ cls := "java/lang/String", name := "checkBoundsBeginEnd", desc := "(III)V" } : Jvm.MethodName) jdk_42_method_158_code (3 : Nat) (Option.none : Option Jvm.ClassFile.FieldType), Jvm.Cond.code ({ cls := "jdk/internal/util/Preconditions", name := "checkFromToIndex", desc := "(IIILjava/util/function/BiFunction;)I" } : Jvm.MethodName) jdk_41_method_12_code (4 : Nat) (Option.some Jvm.ClassFile.FieldType.int), Jvm.Cond.code ({ cls := "java/lang/StringUTF16", name := "indexOfChar", desc := "([BIII)I" } : Jvm.MethodName) jdk_52_method_47_code (4 : Nat) (Option.some Jvm.ClassFile.FieldType.int), Jvm.Cond.code ({ cls := "java/lang/StringUTF16", name := "indexOfCharUnsafe", desc := "([BIII)I" } : Jvm.MethodName) jdk_52_method_48_code (5 : Nat) (Option.some Jvm.ClassFile.FieldType.int), Jvm.Cond.code ({ cls := "java/lang/AbstractStringBuilder", name := "inflate", desc := "()V" } : Jvm.MethodName) jdk_68_method_11_code (2 : Nat) (Option.none : Option Jvm.ClassFile.FieldType), Jvm.Cond.code ({ cls := "java/lang/StringLatin1", name := "inflate", desc := "([BI[BII)V" } : Jvm.MethodName) jdk_43_method_50_code (5 : Nat) (Option.none : Option Jvm.ClassFile.FieldType), Jvm.Cond.code ({ cls := "java/lang/StringUTF16", name := "inflate", desc := "([BI[BII)V" } : Jvm.MethodName) jdk_52_method_86_code (6 : Nat) (Option.none : Option Jvm.ClassFile.FieldType), Jvm.Cond.code ({ cls := "java/lang/StringUTF16", name := "checkBoundsOffCount", desc := "(II[B)V" } : Jvm.MethodName) jdk_52_method_94_code (3 : Nat) (Option.none : Option Jvm.ClassFile.FieldType), Jvm.Cond.code ({ cls := "java/lang/String", name := "checkBoundsOffCount", desc := "(III)I" } : Jvm.MethodName) jdk_42_method_157_code (3 : Nat) (Option.some Jvm.ClassFile.FieldType.int), Jvm.Cond.code ({ cls := "jdk/internal/util/Preconditions", name := "checkFromIndexSize", desc := "(IIILjava/util/function/BiFunction;)I" } : Jvm.MethodName) jdk_41_method_13_code (4 : Nat) (Option.some Jvm.ClassFile.FieldType.int), Jvm.Cond.code ({ cls := "java/lang/StringUTF16", name := "putCharSB", desc := "([BII)V" } : Jvm.MethodName) jdk_52_method_71_code (3 : Nat) (Option.none : Option Jvm.ClassFile.FieldType), Jvm.Cond.code ({ cls := "java/lang/StringUTF16", name := "checkIndex", desc := "(I[B)V" } : Jvm.MethodName) jdk_52_method_91_code (2 : Nat) (Option.none : Option Jvm.ClassFile.FieldType), Jvm.Cond.code ({ cls := "java/lang/StringUTF16", name := "charAt", desc := "([BI)C" } : Jvm.MethodName) jdk_52_method_83_code (2 : Nat) (Option.some Jvm.ClassFile.FieldType.char)]
set_option maxRecDepth 65536 in
theorem codes_eq : words1.filter isCode = codes1 := rfl
theorem w_codes : ∀ c ∈ words1.filter isCode, c.before args0 about1 = true := by
  rw [codes_eq]
  intro c hc
  simp only [codes1, List.mem_cons, List.not_mem_nil, or_false] at hc
  rcases hc with rfl | rfl | rfl | rfl | rfl | rfl | rfl | rfl | rfl | rfl | rfl | rfl | rfl | rfl | rfl | rfl | rfl | rfl | rfl | rfl | rfl | rfl | rfl | rfl | rfl | rfl | rfl | rfl | rfl | rfl | rfl | rfl | rfl | rfl | rfl | rfl | rfl | rfl | rfl | rfl | rfl | rfl | rfl | rfl | rfl | rfl | rfl | rfl | rfl | rfl | rfl | rfl | rfl | rfl | rfl | rfl | rfl | rfl | rfl | rfl | rfl | rfl | rfl | rfl | rfl | rfl | rfl | rfl | rfl | rfl | rfl | rfl | rfl | rfl | rfl | rfl | rfl | rfl | rfl | rfl | rfl | rfl | rfl | rfl | rfl | rfl | rfl | rfl | rfl | rfl | rfl | rfl | rfl | rfl
  · exact w_c0
  · exact w_c1
  · exact w_c2
  · exact w_c3
  · exact w_c4
  · exact w_c5
  · exact w_c6
  · exact w_c7
  · exact w_c8
  · exact w_c9
  · exact w_c10
  · exact w_c11
  · exact w_c12
  · exact w_c13
  · exact w_c14
  · exact w_c15
  · exact w_c16
  · exact w_c17
  · exact w_c18
  · exact w_c19
  · exact w_c20
  · exact w_c21
  · exact w_c22
  · exact w_c23
  · exact w_c24
  · exact w_c25
  · exact w_c26
  · exact w_c27
  · exact w_c28
  · exact w_c29
  · exact w_c30
  · exact w_c31
  · exact w_c32
  · exact w_c33
  · exact w_c34
  · exact w_c35
  · exact w_c36
  · exact w_c37
  · exact w_c38
  · exact w_c39
  · exact w_c40
  · exact w_c41
  · exact w_c42
  · exact w_c43
  · exact w_c44
  · exact w_c45
  · exact w_c46
  · exact w_c47
  · exact w_c48
  · exact w_c49
  · exact w_c50
  · exact w_c51
  · exact w_c52
  · exact w_c53
  · exact w_c54
  · exact w_c55
  · exact w_c56
  · exact w_c57
  · exact w_c58
  · exact w_c59
  · exact w_c60
  · exact w_c61
  · exact w_c62
  · exact w_c63
  · exact w_c64
  · exact w_c65
  · exact w_c66
  · exact w_c67
  · exact w_c68
  · exact w_c69
  · exact w_c70
  · exact w_c71
  · exact w_c72
  · exact w_c73
  · exact w_c74
  · exact w_c75
  · exact w_c76
  · exact w_c77
  · exact w_c78
  · exact w_c79
  · exact w_c80
  · exact w_c81
  · exact w_c82
  · exact w_c83
  · exact w_c84
  · exact w_c85
  · exact w_c86
  · exact w_c87
  · exact w_c88
  · exact w_c89
  · exact w_c90
  · exact w_c91
  · exact w_c92
  · exact w_c93
set_option maxRecDepth 65536 in
theorem w_t1 : (words1.take 24).all (fun c => isCode c || c.before args0 about1) = true := by decide +kernel
set_option maxRecDepth 65536 in
theorem w_t2 : ((words1.drop 24).take 24).all (fun c => isCode c || c.before args0 about1) = true := by decide +kernel
set_option maxRecDepth 65536 in
theorem w_t3 : (((words1.drop 24).drop 24).take 24).all (fun c => isCode c || c.before args0 about1) = true := by decide +kernel
set_option maxRecDepth 65536 in
theorem w_t4 : ((((words1.drop 24).drop 24).drop 24).take 24).all (fun c => isCode c || c.before args0 about1) = true := by decide +kernel
set_option maxRecDepth 65536 in
theorem w_t5 : (((((words1.drop 24).drop 24).drop 24).drop 24).take 24).all (fun c => isCode c || c.before args0 about1) = true := by decide +kernel
set_option maxRecDepth 65536 in
theorem w_t6 : ((((((words1.drop 24).drop 24).drop 24).drop 24).drop 24).take 24).all (fun c => isCode c || c.before args0 about1) = true := by decide +kernel
set_option maxRecDepth 65536 in
theorem w_t7 : (((((((words1.drop 24).drop 24).drop 24).drop 24).drop 24).drop 24).take 24).all (fun c => isCode c || c.before args0 about1) = true := by decide +kernel
set_option maxRecDepth 65536 in
theorem w_t8 : ((((((((words1.drop 24).drop 24).drop 24).drop 24).drop 24).drop 24).drop 24).take 24).all (fun c => isCode c || c.before args0 about1) = true := by decide +kernel
set_option maxRecDepth 65536 in
theorem w_t9 : (((((((((words1.drop 24).drop 24).drop 24).drop 24).drop 24).drop 24).drop 24).drop 24).take 24).all (fun c => isCode c || c.before args0 about1) = true := by decide +kernel
set_option maxRecDepth 65536 in
theorem w_t10 : ((((((((((words1.drop 24).drop 24).drop 24).drop 24).drop 24).drop 24).drop 24).drop 24).drop 24).take 24).all (fun c => isCode c || c.before args0 about1) = true := by decide +kernel
set_option maxRecDepth 65536 in
theorem w_t11 : (((((((((((words1.drop 24).drop 24).drop 24).drop 24).drop 24).drop 24).drop 24).drop 24).drop 24).drop 24).take 24).all (fun c => isCode c || c.before args0 about1) = true := by decide +kernel
set_option maxRecDepth 65536 in
theorem w_t12 : ((((((((((((words1.drop 24).drop 24).drop 24).drop 24).drop 24).drop 24).drop 24).drop 24).drop 24).drop 24).drop 24).take 24).all (fun c => isCode c || c.before args0 about1) = true := by decide +kernel
set_option maxRecDepth 65536 in
theorem w_t13 : (((((((((((((words1.drop 24).drop 24).drop 24).drop 24).drop 24).drop 24).drop 24).drop 24).drop 24).drop 24).drop 24).drop 24).take 24).all (fun c => isCode c || c.before args0 about1) = true := by decide +kernel
set_option maxRecDepth 65536 in
theorem w_t14 : ((((((((((((((words1.drop 24).drop 24).drop 24).drop 24).drop 24).drop 24).drop 24).drop 24).drop 24).drop 24).drop 24).drop 24).drop 24).take 24).all (fun c => isCode c || c.before args0 about1) = true := by decide +kernel
set_option maxRecDepth 65536 in
theorem w_t15 : (((((((((((((((words1.drop 24).drop 24).drop 24).drop 24).drop 24).drop 24).drop 24).drop 24).drop 24).drop 24).drop 24).drop 24).drop 24).drop 24).take 24).all (fun c => isCode c || c.before args0 about1) = true := by decide +kernel
set_option maxRecDepth 65536 in
theorem w_t16 : ((((((((((((((((words1.drop 24).drop 24).drop 24).drop 24).drop 24).drop 24).drop 24).drop 24).drop 24).drop 24).drop 24).drop 24).drop 24).drop 24).drop 24).take 24).all (fun c => isCode c || c.before args0 about1) = true := by decide +kernel
set_option maxRecDepth 65536 in
theorem w_t17 : (((((((((((((((((words1.drop 24).drop 24).drop 24).drop 24).drop 24).drop 24).drop 24).drop 24).drop 24).drop 24).drop 24).drop 24).drop 24).drop 24).drop 24).drop 24).take 24).all (fun c => isCode c || c.before args0 about1) = true := by decide +kernel
set_option maxRecDepth 65536 in
theorem w_t18 : (((((((((((((((((words1.drop 24).drop 24).drop 24).drop 24).drop 24).drop 24).drop 24).drop 24).drop 24).drop 24).drop 24).drop 24).drop 24).drop 24).drop 24).drop 24).drop 24).all (fun c => isCode c || c.before args0 about1) = true := by decide +kernel
theorem w_tables : (allAtoms (Jvm.Cond.code x code maxLocals ret :: tables_1)).before args0 about1 = true := by
  rw [allAtoms_all]
  show words1.all (fun c => c.before args0 about1) = true
  refine all_split ?_ w_codes
  rw [← List.take_append_drop 24 words1, List.all_append, w_t1, ← List.take_append_drop 24 (words1.drop 24), List.all_append, w_t2, ← List.take_append_drop 24 ((words1.drop 24).drop 24), List.all_append, w_t3, ← List.take_append_drop 24 (((words1.drop 24).drop 24).drop 24), List.all_append, w_t4, ← List.take_append_drop 24 ((((words1.drop 24).drop 24).drop 24).drop 24), List.all_append, w_t5, ← List.take_append_drop 24 (((((words1.drop 24).drop 24).drop 24).drop 24).drop 24), List.all_append, w_t6, ← List.take_append_drop 24 ((((((words1.drop 24).drop 24).drop 24).drop 24).drop 24).drop 24), List.all_append, w_t7, ← List.take_append_drop 24 (((((((words1.drop 24).drop 24).drop 24).drop 24).drop 24).drop 24).drop 24), List.all_append, w_t8, ← List.take_append_drop 24 ((((((((words1.drop 24).drop 24).drop 24).drop 24).drop 24).drop 24).drop 24).drop 24), List.all_append, w_t9, ← List.take_append_drop 24 (((((((((words1.drop 24).drop 24).drop 24).drop 24).drop 24).drop 24).drop 24).drop 24).drop 24), List.all_append, w_t10, ← List.take_append_drop 24 ((((((((((words1.drop 24).drop 24).drop 24).drop 24).drop 24).drop 24).drop 24).drop 24).drop 24).drop 24), List.all_append, w_t11, ← List.take_append_drop 24 (((((((((((words1.drop 24).drop 24).drop 24).drop 24).drop 24).drop 24).drop 24).drop 24).drop 24).drop 24).drop 24), List.all_append, w_t12, ← List.take_append_drop 24 ((((((((((((words1.drop 24).drop 24).drop 24).drop 24).drop 24).drop 24).drop 24).drop 24).drop 24).drop 24).drop 24).drop 24), List.all_append, w_t13, ← List.take_append_drop 24 (((((((((((((words1.drop 24).drop 24).drop 24).drop 24).drop 24).drop 24).drop 24).drop 24).drop 24).drop 24).drop 24).drop 24).drop 24), List.all_append, w_t14, ← List.take_append_drop 24 ((((((((((((((words1.drop 24).drop 24).drop 24).drop 24).drop 24).drop 24).drop 24).drop 24).drop 24).drop 24).drop 24).drop 24).drop 24).drop 24), List.all_append, w_t15, ← List.take_append_drop 24 (((((((((((((((words1.drop 24).drop 24).drop 24).drop 24).drop 24).drop 24).drop 24).drop 24).drop 24).drop 24).drop 24).drop 24).drop 24).drop 24).drop 24), List.all_append, w_t16, ← List.take_append_drop 24 ((((((((((((((((words1.drop 24).drop 24).drop 24).drop 24).drop 24).drop 24).drop 24).drop 24).drop 24).drop 24).drop 24).drop 24).drop 24).drop 24).drop 24).drop 24), List.all_append, w_t17, w_t18]
  rfl
set_option maxRecDepth 65536 in
theorem w_rest : rest_1_c.before args0 about1 = true := by decide +kernel
set_option maxRecDepth 65536 in
theorem w_case : (Jvm.Cond.and given_1 narrow_1).before args0 about1 = true := by decide +kernel
set_option maxRecDepth 65536 in
theorem w_consts : constsHeld consts_1 about1 := Jvm.Lit.constsHeldB_iff.mp (by decide +kernel)
theorem w_applies : (headSpec (Jvm.Cond.code x code maxLocals ret :: tables_1) room_1).applies x e0.platform about1 = true :=
  (Spec.applies_iff w_frames).mpr ⟨w_running, w_runnable, w_alone, w_named, w_hears, w_ripe, w_room, w_tables⟩
set_option maxRecDepth 65536 in
theorem atStart : AtStart classFile x code maxLocals ret World_1 tables_1 room_1 Calls_1 rest_1 Pre_1 launch0 p0 e0 about1 theMethod args0 below0 :=
  ⟨lists_1, trivial, launch0.admits_env _ _ _, launch0.least_env, fairChoices_fair.cas, fairChoices_fair.clock, w_frames, w_args, w_heap, w_applies, ⟨w_consts, trivial⟩, w_rest, w_case⟩
end start1
theorem witness_1 : WitnessClaimed_1 := ⟨start1.p0, start1.e0, start1.about1, start1.theMethod, start1.args0, start1.below0, start1.atStart⟩
end Jvm.Pilot.@@N@@
