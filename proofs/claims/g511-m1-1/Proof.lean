import JvmDerived
import JvmDerived.Pilot.@@N@@Statement
import JvmDerived.Pilot.@@N@@Code
set_option linter.unusedVariables false
set_option linter.unusedSimpArgs false
namespace Jvm.OwnKit
open Sem ClassFile Op Lib Jvm.Stand Jvm.Free Jvm.LawKit Jvm.RoadKit
section Walk
variable {p : Program} {l : Launch} {e : Env} {R : Room} {s : State} {m : MethodId} {args : Array Value} {below : List Frame} {meth : Method} {c : Code} {T : State} {locs : List Loc} {cells slots : Nat} {Z : State} {a0 : Array Value} {h : Heap} {G : Outcome → State → Prop}
variable {x0 : MethodName} {code : ByteArray} {maxL : Nat} {ret : Option FieldType}
/-- what is still owed from the frame g on: the run ends, and G holds of the end -/
def Go (tb : Tables) (e : Env) (below : List Frame) (G : Outcome → State → Prop) (T : State) (g : JFrame) : Prop :=
  ∃ s₂ o, Steps tb e below (T.setTop g) s₂ ∧ s₂.status = .running ∧ Ended s₂ below o ∧ G o s₂
theorem Go.step {tb : Tables} {T T' : State} {g g' : JFrame} (q : ∀ t, Steps tb e below (T'.setTop g') t → Steps tb e below (T.setTop g) t) (k : Go tb e below G T' g') : Go tb e below G T g := by
  obtain ⟨s2, o, h1, h2⟩ := k
  exact ⟨s2, o, q _ h1, h2⟩
/-- what stands still while one body is walked -/
def Cx (p : Program) (l : Launch) (s : State) (m : MethodId) (meth : Method) (c : Code) (Z : State) (x0 : MethodName) (code : ByteArray) (maxL : Nat) (ret : Option FieldType) : Prop :=
  p.tables.exec = Jvm.exec ∧ Z.Warmed39 s.vm ∧ c.code = code ∧ c.maxLocals = maxL ∧ s.vm.findClass x0.cls = some m.cls ∧ meth.sig.returnType = ret ∧ meth.locks = false ∧ meth.name = x0.name
theorem Cx.exec (C : Cx p l s m meth c Z x0 code maxL ret) : p.tables.exec = Jvm.exec := C.1
theorem Cx.warm (C : Cx p l s m meth c Z x0 code maxL ret) : Z.Warmed39 s.vm := C.2.1
theorem Cx.bytes (C : Cx p l s m meth c Z x0 code maxL ret) : c.code = code := C.2.2.1
theorem Cx.maxl (C : Cx p l s m meth c Z x0 code maxL ret) : c.maxLocals = maxL := C.2.2.2.1
theorem Cx.own (C : Cx p l s m meth c Z x0 code maxL ret) : s.vm.findClass x0.cls = some m.cls := C.2.2.2.2.1
theorem Cx.rets (C : Cx p l s m meth c Z x0 code maxL ret) : meth.sig.returnType = ret := C.2.2.2.2.2.1
theorem Cx.unlocked (C : Cx p l s m meth c Z x0 code maxL ret) : meth.locks = false := C.2.2.2.2.2.2.1
theorem Cx.nm (C : Cx p l s m meth c Z x0 code maxL ret) : meth.name = x0.name := C.2.2.2.2.2.2.2
theorem Cx.at (C : Cx p l s m meth c Z x0 code maxL ret) {pc : Nat} {r : Except ClassFile.DecodeError (ClassFile.Instr × Nat)} (h2 : decode code pc = r) : decode c.code pc = r := hb C.bytes h2
/-- the end of a walk: what is returned, the heap and the places written answer Q -/
def End (s : State) (Q : Option Value → Heap → List Loc → Prop) (k n : Nat) (o : Outcome) (U : State) : Prop := ∃ v L, o = .returned v ∧ Q v U.heap L ∧ FrameEnd s o U L k n
/-- a body's contract at one call: the arguments as, the heap h -/
def Con (l : Launch) (Z : State) (y : MethodName) (bytes : ByteArray) (maxL : Nat) (ret : Option FieldType) (rm : Room) (as : Array Value) (h : Heap) (Q : Option Value → Heap → List Loc → Prop) : Prop :=
  ∀ ws, MetFree l y (head1 (Cond.code y bytes maxL ret :: ws) rm) (fun a U => a = as ∧ Z.Warmed39 U.vm ∧ U.heap = h) (fun _ _ _ _ _ => True) (fun _ U o U' => End U Q rm.cells rm.slots o U')
theorem con_of_goF {rm : Room} {as : Array Value} {Q : Option Value → Heap → List Loc → Prop} {Ls : Array Slot} (hn : plainFor x0 = true) (hef : ∀ m, entryFrame m as maxL = mkF m 0 Ls [])
    (H : ∀ (p : Program) (e : Env) (s : State) (m : MethodId) (below : List Frame) (meth : Method) (c : Code) (T : State), Cx p l s m meth c Z x0 code maxL ret → Stand p l e rm s m as below meth c T [] 0 0 → T.heap = h → Go p.tables e below (End s Q rm.cells rm.slots) T (mkF m 0 Ls [])) :
    Con l Z x0 code maxL ret rm as h Q := by
  intro ws
  refine MetFree.of_bodySF hn hisR ?_
  intro p e s m args below meth c s₁ Bd hml hP hK
  obtain ⟨rfl, hZ, hh⟩ := hP
  have X0 : Stand p l e rm s m args below meth c s₁ [] 0 0 := Stand.of_body Bd
  have e0 : s₁.heap = h := by rw [← hh, Bd.state]; rfl
  have q := H p e s m below meth c s₁ ⟨Bd.exec, hZ, Bd.bytes, hml, findClass_of_methodNamed Bd.named, Bd.returns, Bd.notSynchronized, (name_of_methodNamed Bd.named Bd.method).1⟩ X0 e0
  rw [hef]
  exact q
theorem con_of_go {rm : Room} {as : Array Value} {Q : Option Value → Heap → List Loc → Prop} {Ls : Array Slot} (hn : plainName x0.cls = true) (hef : ∀ m, entryFrame m as maxL = mkF m 0 Ls [])
    (H : ∀ (p : Program) (e : Env) (s : State) (m : MethodId) (below : List Frame) (meth : Method) (c : Code) (T : State), Cx p l s m meth c Z x0 code maxL ret → Stand p l e rm s m as below meth c T [] 0 0 → T.heap = h → Go p.tables e below (End s Q rm.cells rm.slots) T (mkF m 0 Ls [])) :
    Con l Z x0 code maxL ret rm as h Q := con_of_goF (plainFor_of_name hn) hef H
theorem g_aloadN (C : Cx p l s m meth c Z x0 code maxL ret) (X : Stand p l e R s m args below meth c T locs cells slots) {pc pc' : Nat} {Ls : Array Slot} {st : List Value} {k : Fin 4} {v : Value} (hd : decode code pc = .ok (.aload_n k, 1)) (hl : Ls[k.val]? = some (.val v)) (hv : v.isRef = true) (hp : pc + 1 = pc')
    (K : Go p.tables e below G T (mkF m pc' Ls (v :: st))) : Go p.tables e below G T (mkF m pc Ls (st)) := by
  subst hp; exact Go.step (fun _ k => XS.aloadN X.here C.exec rfl (C.at hd) hl hv k) K
theorem g_aload (C : Cx p l s m meth c Z x0 code maxL ret) (X : Stand p l e R s m args below meth c T locs cells slots) {pc pc' : Nat} {Ls : Array Slot} {st : List Value} {k : Nat} {v : Value} (hd : decode code pc = .ok (.aload k, 2)) (hl : Ls[k]? = some (.val v)) (hv : v.isRef = true) (hp : pc + 2 = pc')
    (K : Go p.tables e below G T (mkF m pc' Ls (v :: st))) : Go p.tables e below G T (mkF m pc Ls (st)) := by
  subst hp; exact Go.step (fun _ k => XS.aload X.here C.exec rfl (C.at hd) hl hv k) K
theorem g_iloadN (C : Cx p l s m meth c Z x0 code maxL ret) (X : Stand p l e R s m args below meth c T locs cells slots) {pc pc' : Nat} {Ls : Array Slot} {st : List Value} {k : Fin 4} {v : Int32} (hd : decode code pc = .ok (.iload_n k, 1)) (hl : Ls[k.val]? = some (.val (.int v))) (hp : pc + 1 = pc')
    (K : Go p.tables e below G T (mkF m pc' Ls (.int v :: st))) : Go p.tables e below G T (mkF m pc Ls (st)) := by
  subst hp; exact Go.step (fun _ k => XS.iloadN X.here C.exec rfl (C.at hd) hl k) K
theorem g_iload (C : Cx p l s m meth c Z x0 code maxL ret) (X : Stand p l e R s m args below meth c T locs cells slots) {pc pc' : Nat} {Ls : Array Slot} {st : List Value} {k : Nat} {v : Int32} (hd : decode code pc = .ok (.iload k, 2)) (hl : Ls[k]? = some (.val (.int v))) (hp : pc + 2 = pc')
    (K : Go p.tables e below G T (mkF m pc' Ls (.int v :: st))) : Go p.tables e below G T (mkF m pc Ls (st)) := by
  subst hp; exact Go.step (fun _ k => XS.iload X.here C.exec rfl (C.at hd) hl k) K
theorem g_istoreN (C : Cx p l s m meth c Z x0 code maxL ret) (X : Stand p l e R s m args below meth c T locs cells slots) {pc pc' : Nat} {Ls : Array Slot} {st : List Value} {k : Fin 4} {x y : Int32} {l' : Array Slot} (hd : decode code pc = .ok (.istore_n k, 1)) (hv : x = y) (hl : storeLocals Ls k.val (.int x) = some l') (hp : pc + 1 = pc')
    (K : Go p.tables e below G T (mkF m pc' l' (st))) : Go p.tables e below G T (mkF m pc Ls (.int y :: st)) := by
  subst hp; subst hv; exact Go.step (fun _ k => XS.istoreN X.here C.exec rfl (C.at hd) rfl hl k) K
theorem g_istore (C : Cx p l s m meth c Z x0 code maxL ret) (X : Stand p l e R s m args below meth c T locs cells slots) {pc pc' : Nat} {Ls : Array Slot} {st : List Value} {k : Nat} {x y : Int32} {l' : Array Slot} (hd : decode code pc = .ok (.istore k, 2)) (hv : x = y) (hl : storeLocals Ls k (.int x) = some l') (hp : pc + 2 = pc')
    (K : Go p.tables e below G T (mkF m pc' l' (st))) : Go p.tables e below G T (mkF m pc Ls (.int y :: st)) := by
  subst hp; subst hv; exact Go.step (fun _ k => XS.istore X.here C.exec rfl (C.at hd) rfl hl k) K
theorem g_lloadN (C : Cx p l s m meth c Z x0 code maxL ret) (X : Stand p l e R s m args below meth c T locs cells slots) {pc pc' : Nat} {Ls : Array Slot} {st : List Value} {k : Fin 4} {v : Int64} (hd : decode code pc = .ok (.lload_n k, 1)) (hl : Ls[k.val]? = some (.val (.long v))) (hp : pc + 1 = pc')
    (K : Go p.tables e below G T (mkF m pc' Ls (.long v :: st))) : Go p.tables e below G T (mkF m pc Ls (st)) := by
  subst hp; exact Go.step (fun _ k => XT.lloadN X.here C.exec rfl (C.at hd) hl k) K
theorem g_lload (C : Cx p l s m meth c Z x0 code maxL ret) (X : Stand p l e R s m args below meth c T locs cells slots) {pc pc' : Nat} {Ls : Array Slot} {st : List Value} {k : Nat} {v : Int64} (hd : decode code pc = .ok (.lload k, 2)) (hl : Ls[k]? = some (.val (.long v))) (hp : pc + 2 = pc')
    (K : Go p.tables e below G T (mkF m pc' Ls (.long v :: st))) : Go p.tables e below G T (mkF m pc Ls (st)) := by
  subst hp; exact Go.step (fun _ k => XT.lload X.here C.exec rfl (C.at hd) hl k) K
theorem g_lstoreN (C : Cx p l s m meth c Z x0 code maxL ret) (X : Stand p l e R s m args below meth c T locs cells slots) {pc pc' : Nat} {Ls : Array Slot} {st : List Value} {k : Fin 4} {x y : Int64} {l' : Array Slot} (hd : decode code pc = .ok (.lstore_n k, 1)) (hv : x = y) (hl : storeLocals Ls k.val (.long x) = some l') (hp : pc + 1 = pc')
    (K : Go p.tables e below G T (mkF m pc' l' (st))) : Go p.tables e below G T (mkF m pc Ls (.long y :: st)) := by
  subst hp; subst hv; exact Go.step (fun _ k => XT.lstoreN X.here C.exec rfl (C.at hd) rfl hl k) K
theorem g_lstore (C : Cx p l s m meth c Z x0 code maxL ret) (X : Stand p l e R s m args below meth c T locs cells slots) {pc pc' : Nat} {Ls : Array Slot} {st : List Value} {k : Nat} {x y : Int64} {l' : Array Slot} (hd : decode code pc = .ok (.lstore k, 2)) (hv : x = y) (hl : storeLocals Ls k (.long x) = some l') (hp : pc + 2 = pc')
    (K : Go p.tables e below G T (mkF m pc' l' (st))) : Go p.tables e below G T (mkF m pc Ls (.long y :: st)) := by
  subst hp; subst hv; exact Go.step (fun _ k => XT.lstore X.here C.exec rfl (C.at hd) rfl hl k) K
theorem g_dloadN (C : Cx p l s m meth c Z x0 code maxL ret) (X : Stand p l e R s m args below meth c T locs cells slots) {pc pc' : Nat} {Ls : Array Slot} {st : List Value} {k : Fin 4} {v : UInt64} (hd : decode code pc = .ok (.dload_n k, 1)) (hl : Ls[k.val]? = some (.val (.double v))) (hp : pc + 1 = pc')
    (K : Go p.tables e below G T (mkF m pc' Ls (.double v :: st))) : Go p.tables e below G T (mkF m pc Ls (st)) := by
  subst hp; exact Go.step (fun _ k => XS.dloadN X.here C.exec rfl (C.at hd) hl k) K
theorem g_dload (C : Cx p l s m meth c Z x0 code maxL ret) (X : Stand p l e R s m args below meth c T locs cells slots) {pc pc' : Nat} {Ls : Array Slot} {st : List Value} {k : Nat} {v : UInt64} (hd : decode code pc = .ok (.dload k, 2)) (hl : Ls[k]? = some (.val (.double v))) (hp : pc + 2 = pc')
    (K : Go p.tables e below G T (mkF m pc' Ls (.double v :: st))) : Go p.tables e below G T (mkF m pc Ls (st)) := by
  subst hp; exact Go.step (fun _ k => XS.dload X.here C.exec rfl (C.at hd) hl k) K
theorem g_dstoreN (C : Cx p l s m meth c Z x0 code maxL ret) (X : Stand p l e R s m args below meth c T locs cells slots) {pc pc' : Nat} {Ls : Array Slot} {st : List Value} {k : Fin 4} {x y : UInt64} {l' : Array Slot} (hd : decode code pc = .ok (.dstore_n k, 1)) (hv : x = y) (hl : storeLocals Ls k.val (.double x) = some l') (hp : pc + 1 = pc')
    (K : Go p.tables e below G T (mkF m pc' l' (st))) : Go p.tables e below G T (mkF m pc Ls (.double y :: st)) := by
  subst hp; subst hv; exact Go.step (fun _ k => XS.dstoreN X.here C.exec rfl (C.at hd) rfl hl k) K
theorem g_dstore (C : Cx p l s m meth c Z x0 code maxL ret) (X : Stand p l e R s m args below meth c T locs cells slots) {pc pc' : Nat} {Ls : Array Slot} {st : List Value} {k : Nat} {x y : UInt64} {l' : Array Slot} (hd : decode code pc = .ok (.dstore k, 2)) (hv : x = y) (hl : storeLocals Ls k (.double x) = some l') (hp : pc + 2 = pc')
    (K : Go p.tables e below G T (mkF m pc' l' (st))) : Go p.tables e below G T (mkF m pc Ls (.double y :: st)) := by
  subst hp; subst hv; exact Go.step (fun _ k => XS.dstore X.here C.exec rfl (C.at hd) rfl hl k) K
theorem g_astoreN (C : Cx p l s m meth c Z x0 code maxL ret) (X : Stand p l e R s m args below meth c T locs cells slots) {pc pc' : Nat} {Ls : Array Slot} {st : List Value} {k : Fin 4} {v : Value} {l' : Array Slot} (hd : decode code pc = .ok (.astore_n k, 1)) (hv : v.isRef = true) (hl : storeLocals Ls k.val v = some l') (hp : pc + 1 = pc')
    (K : Go p.tables e below G T (mkF m pc' l' (st))) : Go p.tables e below G T (mkF m pc Ls (v :: st)) := by
  subst hp; exact Go.step (fun _ k => XS.astoreN X.here C.exec rfl (C.at hd) rfl hv hl k) K
theorem g_astore (C : Cx p l s m meth c Z x0 code maxL ret) (X : Stand p l e R s m args below meth c T locs cells slots) {pc pc' : Nat} {Ls : Array Slot} {st : List Value} {k : Nat} {v : Value} {l' : Array Slot} (hd : decode code pc = .ok (.astore k, 2)) (hv : v.isRef = true) (hl : storeLocals Ls k v = some l') (hp : pc + 2 = pc')
    (K : Go p.tables e below G T (mkF m pc' l' (st))) : Go p.tables e below G T (mkF m pc Ls (v :: st)) := by
  subst hp; exact Go.step (fun _ k => XS.astore X.here C.exec rfl (C.at hd) rfl hv hl k) K
theorem g_iconst (C : Cx p l s m meth c Z x0 code maxL ret) (X : Stand p l e R s m args below meth c T locs cells slots) {pc pc' : Nat} {Ls : Array Slot} {st : List Value} {i : Int} {v : Int32} (hd : decode code pc = .ok (.iconst i, 1)) (hv : Int32.ofInt i = v) (hp : pc + 1 = pc')
    (K : Go p.tables e below G T (mkF m pc' Ls (.int v :: st))) : Go p.tables e below G T (mkF m pc Ls (st)) := by
  subst hp; subst hv; exact Go.step (fun _ k => XS.iconst X.here C.exec rfl (C.at hd)  k) K
theorem g_bipush (C : Cx p l s m meth c Z x0 code maxL ret) (X : Stand p l e R s m args below meth c T locs cells slots) {pc pc' : Nat} {Ls : Array Slot} {st : List Value} {i : Int} {v : Int32} (hd : decode code pc = .ok (.bipush i, 2)) (hv : (Int8.ofInt i).toInt32 = v) (hp : pc + 2 = pc')
    (K : Go p.tables e below G T (mkF m pc' Ls (.int v :: st))) : Go p.tables e below G T (mkF m pc Ls (st)) := by
  subst hp; subst hv; exact Go.step (fun _ k => XS.bipush X.here C.exec rfl (C.at hd)  k) K
theorem g_sipush (C : Cx p l s m meth c Z x0 code maxL ret) (X : Stand p l e R s m args below meth c T locs cells slots) {pc pc' : Nat} {Ls : Array Slot} {st : List Value} {i : Int} {v : Int32} (hd : decode code pc = .ok (.sipush i, 3)) (hv : (Int16.ofInt i).toInt32 = v) (hp : pc + 3 = pc')
    (K : Go p.tables e below G T (mkF m pc' Ls (.int v :: st))) : Go p.tables e below G T (mkF m pc Ls (st)) := by
  subst hp; subst hv; exact Go.step (fun _ k => XS.sipush X.here C.exec rfl (C.at hd)  k) K
theorem g_aconstNull (C : Cx p l s m meth c Z x0 code maxL ret) (X : Stand p l e R s m args below meth c T locs cells slots) {pc pc' : Nat} {Ls : Array Slot} {st : List Value}  (hd : decode code pc = .ok (.aconst_null, 1))  (hp : pc + 1 = pc')
    (K : Go p.tables e below G T (mkF m pc' Ls (.null :: st))) : Go p.tables e below G T (mkF m pc Ls (st)) := by
  subst hp; exact Go.step (fun _ k => XS.aconstNull X.here C.exec rfl (C.at hd)  k) K
theorem g_lconst (C : Cx p l s m meth c Z x0 code maxL ret) (X : Stand p l e R s m args below meth c T locs cells slots) {pc pc' : Nat} {Ls : Array Slot} {st : List Value} {k : Fin 2} {v : Int64} (hd : decode code pc = .ok (.lconst k, 1)) (hv : Int64.ofNat k = v) (hp : pc + 1 = pc')
    (K : Go p.tables e below G T (mkF m pc' Ls (.long v :: st))) : Go p.tables e below G T (mkF m pc Ls (st)) := by
  subst hp; subst hv; exact Go.step (fun _ k => XT.lconst X.here C.exec rfl (C.at hd)  k) K
theorem g_dconst0 (C : Cx p l s m meth c Z x0 code maxL ret) (X : Stand p l e R s m args below meth c T locs cells slots) {pc pc' : Nat} {Ls : Array Slot} {st : List Value} {v : UInt64} (hd : decode code pc = .ok (.dconst 0, 1)) (hv : FP.dconst0 = v) (hp : pc + 1 = pc')
    (K : Go p.tables e below G T (mkF m pc' Ls (.double v :: st))) : Go p.tables e below G T (mkF m pc Ls (st)) := by
  subst hp; exact Go.step (fun _ k => XS.dconst0 X.here C.exec rfl (C.at hd) hv k) K
theorem g_dconst1 (C : Cx p l s m meth c Z x0 code maxL ret) (X : Stand p l e R s m args below meth c T locs cells slots) {pc pc' : Nat} {Ls : Array Slot} {st : List Value} {v : UInt64} (hd : decode code pc = .ok (.dconst 1, 1)) (hv : FP.dconst1 = v) (hp : pc + 1 = pc')
    (K : Go p.tables e below G T (mkF m pc' Ls (.double v :: st))) : Go p.tables e below G T (mkF m pc Ls (st)) := by
  subst hp; exact Go.step (fun _ k => XS.dconst1 X.here C.exec rfl (C.at hd) hv k) K
theorem g_iadd (C : Cx p l s m meth c Z x0 code maxL ret) (X : Stand p l e R s m args below meth c T locs cells slots) {pc pc' : Nat} {Ls : Array Slot} {st : List Value} {x y : Int32} (hd : decode code pc = .ok (.iadd, 1))  (hp : pc + 1 = pc')
    (K : Go p.tables e below G T (mkF m pc' Ls (.int (x + y) :: st))) : Go p.tables e below G T (mkF m pc Ls (.int y :: .int x :: st)) := by
  subst hp; exact Go.step (fun _ k => XS.iadd X.here C.exec rfl (C.at hd) rfl k) K
theorem g_isub (C : Cx p l s m meth c Z x0 code maxL ret) (X : Stand p l e R s m args below meth c T locs cells slots) {pc pc' : Nat} {Ls : Array Slot} {st : List Value} {x y : Int32} (hd : decode code pc = .ok (.isub, 1))  (hp : pc + 1 = pc')
    (K : Go p.tables e below G T (mkF m pc' Ls (.int (x - y) :: st))) : Go p.tables e below G T (mkF m pc Ls (.int y :: .int x :: st)) := by
  subst hp; exact Go.step (fun _ k => XS.isub X.here C.exec rfl (C.at hd) rfl k) K
theorem g_iand (C : Cx p l s m meth c Z x0 code maxL ret) (X : Stand p l e R s m args below meth c T locs cells slots) {pc pc' : Nat} {Ls : Array Slot} {st : List Value} {x y : Int32} (hd : decode code pc = .ok (.iand, 1))  (hp : pc + 1 = pc')
    (K : Go p.tables e below G T (mkF m pc' Ls (.int (x &&& y) :: st))) : Go p.tables e below G T (mkF m pc Ls (.int y :: .int x :: st)) := by
  subst hp; exact Go.step (fun _ k => XS.iand X.here C.exec rfl (C.at hd) rfl k) K
theorem g_imul (C : Cx p l s m meth c Z x0 code maxL ret) (X : Stand p l e R s m args below meth c T locs cells slots) {pc pc' : Nat} {Ls : Array Slot} {st : List Value} {x y : Int32} (hd : decode code pc = .ok (.imul, 1))  (hp : pc + 1 = pc')
    (K : Go p.tables e below G T (mkF m pc' Ls (.int (x * y) :: st))) : Go p.tables e below G T (mkF m pc Ls (.int y :: .int x :: st)) := by
  subst hp; exact Go.step (fun _ k => XS.imul X.here C.exec rfl (C.at hd) rfl k) K
theorem g_idiv (C : Cx p l s m meth c Z x0 code maxL ret) (X : Stand p l e R s m args below meth c T locs cells slots) {pc pc' : Nat} {Ls : Array Slot} {st : List Value} {x y : Int32} (hd : decode code pc = .ok (.idiv, 1)) (hy : y ≠ 0) (hp : pc + 1 = pc')
    (K : Go p.tables e below G T (mkF m pc' Ls (.int (x / y) :: st))) : Go p.tables e below G T (mkF m pc Ls (.int y :: .int x :: st)) := by
  subst hp; exact Go.step (fun _ k => XS.idiv X.here C.exec rfl (C.at hd) rfl hy k) K
theorem g_ineg (C : Cx p l s m meth c Z x0 code maxL ret) (X : Stand p l e R s m args below meth c T locs cells slots) {pc pc' : Nat} {Ls : Array Slot} {st : List Value} {x : Int32} (hd : decode code pc = .ok (.ineg, 1))  (hp : pc + 1 = pc')
    (K : Go p.tables e below G T (mkF m pc' Ls (.int (-x) :: st))) : Go p.tables e below G T (mkF m pc Ls (.int x :: st)) := by
  subst hp; exact Go.step (fun _ k => XS.ineg X.here C.exec rfl (C.at hd) rfl k) K
theorem g_ixor (C : Cx p l s m meth c Z x0 code maxL ret) (X : Stand p l e R s m args below meth c T locs cells slots) {pc pc' : Nat} {Ls : Array Slot} {st : List Value} {x y : Int32} (hd : decode code pc = .ok (.ixor, 1))  (hp : pc + 1 = pc')
    (K : Go p.tables e below G T (mkF m pc' Ls (.int (x ^^^ y) :: st))) : Go p.tables e below G T (mkF m pc Ls (.int y :: .int x :: st)) := by
  subst hp; exact Go.step (fun _ k => XT.ixor X.here C.exec rfl (C.at hd) rfl k) K
theorem g_ior (C : Cx p l s m meth c Z x0 code maxL ret) (X : Stand p l e R s m args below meth c T locs cells slots) {pc pc' : Nat} {Ls : Array Slot} {st : List Value} {x y : Int32} (hd : decode code pc = .ok (.ior, 1))  (hp : pc + 1 = pc')
    (K : Go p.tables e below G T (mkF m pc' Ls (.int (x ||| y) :: st))) : Go p.tables e below G T (mkF m pc Ls (.int y :: .int x :: st)) := by
  subst hp; exact Go.step (fun _ k => XT.ior X.here C.exec rfl (C.at hd) rfl k) K
theorem g_ishl (C : Cx p l s m meth c Z x0 code maxL ret) (X : Stand p l e R s m args below meth c T locs cells slots) {pc pc' : Nat} {Ls : Array Slot} {st : List Value} {x y : Int32} (hd : decode code pc = .ok (.ishl, 1))  (hp : pc + 1 = pc')
    (K : Go p.tables e below G T (mkF m pc' Ls (.int (x <<< (y &&& 31)) :: st))) : Go p.tables e below G T (mkF m pc Ls (.int y :: .int x :: st)) := by
  subst hp; exact Go.step (fun _ k => XT.ishl X.here C.exec rfl (C.at hd) rfl k) K
theorem g_ishr (C : Cx p l s m meth c Z x0 code maxL ret) (X : Stand p l e R s m args below meth c T locs cells slots) {pc pc' : Nat} {Ls : Array Slot} {st : List Value} {x y : Int32} (hd : decode code pc = .ok (.ishr, 1))  (hp : pc + 1 = pc')
    (K : Go p.tables e below G T (mkF m pc' Ls (.int (x >>> (y &&& 31)) :: st))) : Go p.tables e below G T (mkF m pc Ls (.int y :: .int x :: st)) := by
  subst hp; exact Go.step (fun _ k => XT.ishr X.here C.exec rfl (C.at hd) rfl k) K
theorem g_iushr (C : Cx p l s m meth c Z x0 code maxL ret) (X : Stand p l e R s m args below meth c T locs cells slots) {pc pc' : Nat} {Ls : Array Slot} {st : List Value} {x y : Int32} (hd : decode code pc = .ok (.iushr, 1))  (hp : pc + 1 = pc')
    (K : Go p.tables e below G T (mkF m pc' Ls (.int (XT.ushr x y) :: st))) : Go p.tables e below G T (mkF m pc Ls (.int y :: .int x :: st)) := by
  subst hp; exact Go.step (fun _ k => XT.iushr X.here C.exec rfl (C.at hd) rfl k) K
theorem g_ladd (C : Cx p l s m meth c Z x0 code maxL ret) (X : Stand p l e R s m args below meth c T locs cells slots) {pc pc' : Nat} {Ls : Array Slot} {st : List Value} {x y : Int64} (hd : decode code pc = .ok (.ladd, 1))  (hp : pc + 1 = pc')
    (K : Go p.tables e below G T (mkF m pc' Ls (.long (x + y) :: st))) : Go p.tables e below G T (mkF m pc Ls (.long y :: .long x :: st)) := by
  subst hp; exact Go.step (fun _ k => XT.ladd X.here C.exec rfl (C.at hd) rfl k) K
theorem g_lsub (C : Cx p l s m meth c Z x0 code maxL ret) (X : Stand p l e R s m args below meth c T locs cells slots) {pc pc' : Nat} {Ls : Array Slot} {st : List Value} {x y : Int64} (hd : decode code pc = .ok (.lsub, 1))  (hp : pc + 1 = pc')
    (K : Go p.tables e below G T (mkF m pc' Ls (.long (x - y) :: st))) : Go p.tables e below G T (mkF m pc Ls (.long y :: .long x :: st)) := by
  subst hp; exact Go.step (fun _ k => XT.lsub X.here C.exec rfl (C.at hd) rfl k) K
theorem g_lmul (C : Cx p l s m meth c Z x0 code maxL ret) (X : Stand p l e R s m args below meth c T locs cells slots) {pc pc' : Nat} {Ls : Array Slot} {st : List Value} {x y : Int64} (hd : decode code pc = .ok (.lmul, 1))  (hp : pc + 1 = pc')
    (K : Go p.tables e below G T (mkF m pc' Ls (.long (x * y) :: st))) : Go p.tables e below G T (mkF m pc Ls (.long y :: .long x :: st)) := by
  subst hp; exact Go.step (fun _ k => XT.lmul X.here C.exec rfl (C.at hd) rfl k) K
theorem g_land (C : Cx p l s m meth c Z x0 code maxL ret) (X : Stand p l e R s m args below meth c T locs cells slots) {pc pc' : Nat} {Ls : Array Slot} {st : List Value} {x y : Int64} (hd : decode code pc = .ok (.land, 1))  (hp : pc + 1 = pc')
    (K : Go p.tables e below G T (mkF m pc' Ls (.long (x &&& y) :: st))) : Go p.tables e below G T (mkF m pc Ls (.long y :: .long x :: st)) := by
  subst hp; exact Go.step (fun _ k => XT.land X.here C.exec rfl (C.at hd) rfl k) K
theorem g_lor (C : Cx p l s m meth c Z x0 code maxL ret) (X : Stand p l e R s m args below meth c T locs cells slots) {pc pc' : Nat} {Ls : Array Slot} {st : List Value} {x y : Int64} (hd : decode code pc = .ok (.lor, 1))  (hp : pc + 1 = pc')
    (K : Go p.tables e below G T (mkF m pc' Ls (.long (x ||| y) :: st))) : Go p.tables e below G T (mkF m pc Ls (.long y :: .long x :: st)) := by
  subst hp; exact Go.step (fun _ k => XT.lor X.here C.exec rfl (C.at hd) rfl k) K
theorem g_lxor (C : Cx p l s m meth c Z x0 code maxL ret) (X : Stand p l e R s m args below meth c T locs cells slots) {pc pc' : Nat} {Ls : Array Slot} {st : List Value} {x y : Int64} (hd : decode code pc = .ok (.lxor, 1))  (hp : pc + 1 = pc')
    (K : Go p.tables e below G T (mkF m pc' Ls (.long (x ^^^ y) :: st))) : Go p.tables e below G T (mkF m pc Ls (.long y :: .long x :: st)) := by
  subst hp; exact Go.step (fun _ k => XT.lxor X.here C.exec rfl (C.at hd) rfl k) K
theorem g_lneg (C : Cx p l s m meth c Z x0 code maxL ret) (X : Stand p l e R s m args below meth c T locs cells slots) {pc pc' : Nat} {Ls : Array Slot} {st : List Value} {x : Int64} (hd : decode code pc = .ok (.lneg, 1))  (hp : pc + 1 = pc')
    (K : Go p.tables e below G T (mkF m pc' Ls (.long (-x) :: st))) : Go p.tables e below G T (mkF m pc Ls (.long x :: st)) := by
  subst hp; exact Go.step (fun _ k => XT.lneg X.here C.exec rfl (C.at hd) rfl k) K
theorem g_i2l (C : Cx p l s m meth c Z x0 code maxL ret) (X : Stand p l e R s m args below meth c T locs cells slots) {pc pc' : Nat} {Ls : Array Slot} {st : List Value} {x : Int32} (hd : decode code pc = .ok (.i2l, 1))  (hp : pc + 1 = pc')
    (K : Go p.tables e below G T (mkF m pc' Ls (.long x.toInt64 :: st))) : Go p.tables e below G T (mkF m pc Ls (.int x :: st)) := by
  subst hp; exact Go.step (fun _ k => XT.i2l X.here C.exec rfl (C.at hd) rfl k) K
theorem g_l2i (C : Cx p l s m meth c Z x0 code maxL ret) (X : Stand p l e R s m args below meth c T locs cells slots) {pc pc' : Nat} {Ls : Array Slot} {st : List Value} {x : Int64} (hd : decode code pc = .ok (.l2i, 1))  (hp : pc + 1 = pc')
    (K : Go p.tables e below G T (mkF m pc' Ls (.int x.toInt32 :: st))) : Go p.tables e below G T (mkF m pc Ls (.long x :: st)) := by
  subst hp; exact Go.step (fun _ k => XT.l2i X.here C.exec rfl (C.at hd) rfl k) K
theorem g_i2b (C : Cx p l s m meth c Z x0 code maxL ret) (X : Stand p l e R s m args below meth c T locs cells slots) {pc pc' : Nat} {Ls : Array Slot} {st : List Value} {x : Int32} (hd : decode code pc = .ok (.i2b, 1))  (hp : pc + 1 = pc')
    (K : Go p.tables e below G T (mkF m pc' Ls (.int x.toInt8.toInt32 :: st))) : Go p.tables e below G T (mkF m pc Ls (.int x :: st)) := by
  subst hp; exact Go.step (fun _ k => XT.i2b X.here C.exec rfl (C.at hd) rfl k) K
theorem g_i2s (C : Cx p l s m meth c Z x0 code maxL ret) (X : Stand p l e R s m args below meth c T locs cells slots) {pc pc' : Nat} {Ls : Array Slot} {st : List Value} {x : Int32} (hd : decode code pc = .ok (.i2s, 1))  (hp : pc + 1 = pc')
    (K : Go p.tables e below G T (mkF m pc' Ls (.int x.toInt16.toInt32 :: st))) : Go p.tables e below G T (mkF m pc Ls (.int x :: st)) := by
  subst hp; exact Go.step (fun _ k => XT.i2s X.here C.exec rfl (C.at hd) rfl k) K
theorem g_i2d (C : Cx p l s m meth c Z x0 code maxL ret) (X : Stand p l e R s m args below meth c T locs cells slots) {pc pc' : Nat} {Ls : Array Slot} {st : List Value} {x : Int32} (hd : decode code pc = .ok (.i2d, 1))  (hp : pc + 1 = pc')
    (K : Go p.tables e below G T (mkF m pc' Ls (.double (FP.i2d x) :: st))) : Go p.tables e below G T (mkF m pc Ls (.int x :: st)) := by
  subst hp; exact Go.step (fun _ k => XS.i2dS X.here C.exec rfl (C.at hd) rfl rfl k) K
theorem g_l2d (C : Cx p l s m meth c Z x0 code maxL ret) (X : Stand p l e R s m args below meth c T locs cells slots) {pc pc' : Nat} {Ls : Array Slot} {st : List Value} {x : Int64} (hd : decode code pc = .ok (.l2d, 1))  (hp : pc + 1 = pc')
    (K : Go p.tables e below G T (mkF m pc' Ls (.double (FP.l2d x) :: st))) : Go p.tables e below G T (mkF m pc Ls (.long x :: st)) := by
  subst hp; exact Go.step (fun _ k => XS.l2dS X.here C.exec rfl (C.at hd) rfl rfl k) K
theorem g_dneg (C : Cx p l s m meth c Z x0 code maxL ret) (X : Stand p l e R s m args below meth c T locs cells slots) {pc pc' : Nat} {Ls : Array Slot} {st : List Value} {x : UInt64} (hd : decode code pc = .ok (.dneg, 1))  (hp : pc + 1 = pc')
    (K : Go p.tables e below G T (mkF m pc' Ls (.double (FP.dneg x) :: st))) : Go p.tables e below G T (mkF m pc Ls (.double x :: st)) := by
  subst hp; exact Go.step (fun _ k => XS.dnegS X.here C.exec rfl (C.at hd) rfl rfl k) K
theorem g_dcmp (C : Cx p l s m meth c Z x0 code maxL ret) (X : Stand p l e R s m args below meth c T locs cells slots) {pc pc' : Nat} {Ls : Array Slot} {st : List Value} {o : CmpOp} {x y : UInt64} (hd : decode code pc = .ok (.dcmp o, 1))  (hp : pc + 1 = pc')
    (K : Go p.tables e below G T (mkF m pc' Ls (.int (cmpValue (FP.dcmp x y) o) :: st))) : Go p.tables e below G T (mkF m pc Ls (.double y :: .double x :: st)) := by
  subst hp; exact Go.step (fun _ k => XS.dcmpS X.here C.exec rfl (C.at hd) rfl rfl k) K
theorem g_dcmpV (C : Cx p l s m meth c Z x0 code maxL ret) (X : Stand p l e R s m args below meth c T locs cells slots) {pc pc' : Nat} {Ls : Array Slot} {st : List Value} {o : CmpOp} {x y : UInt64} {v : Int32} (hd : decode code pc = .ok (.dcmp o, 1)) (hv : cmpValue (FP.dcmp x y) o = v) (hp : pc + 1 = pc')
    (K : Go p.tables e below G T (mkF m pc' Ls (.int v :: st))) : Go p.tables e below G T (mkF m pc Ls (.double y :: .double x :: st)) := by
  subst hp; exact Go.step (fun _ k => XS.dcmpS X.here C.exec rfl (C.at hd) rfl hv k) K
theorem g_dadd (C : Cx p l s m meth c Z x0 code maxL ret) (X : Stand p l e R s m args below meth c T locs cells slots) {pc pc' : Nat} {Ls : Array Slot} {st : List Value} {x y : UInt64} (hd : decode code pc = .ok (.dadd, 1)) (hn : Jvm.Free.Fl.NoNaN64 (FP.dadd x y)) (hp : pc + 1 = pc')
    (K : Go p.tables e below G T (mkF m pc' Ls (.double (FP.dadd x y) :: st))) : Go p.tables e below G T (mkF m pc Ls (.double y :: .double x :: st)) := by
  subst hp; exact Go.step (fun _ k => XS.daddS X.here C.exec rfl (C.at hd) rfl hn rfl k) K
theorem g_dsub (C : Cx p l s m meth c Z x0 code maxL ret) (X : Stand p l e R s m args below meth c T locs cells slots) {pc pc' : Nat} {Ls : Array Slot} {st : List Value} {x y : UInt64} (hd : decode code pc = .ok (.dsub, 1)) (hn : Jvm.Free.Fl.NoNaN64 (FP.dsub x y)) (hp : pc + 1 = pc')
    (K : Go p.tables e below G T (mkF m pc' Ls (.double (FP.dsub x y) :: st))) : Go p.tables e below G T (mkF m pc Ls (.double y :: .double x :: st)) := by
  subst hp; exact Go.step (fun _ k => XS.dsubS X.here C.exec rfl (C.at hd) rfl hn rfl k) K
theorem g_dmul (C : Cx p l s m meth c Z x0 code maxL ret) (X : Stand p l e R s m args below meth c T locs cells slots) {pc pc' : Nat} {Ls : Array Slot} {st : List Value} {x y : UInt64} (hd : decode code pc = .ok (.dmul, 1)) (hn : Jvm.Free.Fl.NoNaN64 (FP.dmul x y)) (hp : pc + 1 = pc')
    (K : Go p.tables e below G T (mkF m pc' Ls (.double (FP.dmul x y) :: st))) : Go p.tables e below G T (mkF m pc Ls (.double y :: .double x :: st)) := by
  subst hp; exact Go.step (fun _ k => XS.dmulS X.here C.exec rfl (C.at hd) rfl hn rfl k) K
theorem g_ddiv (C : Cx p l s m meth c Z x0 code maxL ret) (X : Stand p l e R s m args below meth c T locs cells slots) {pc pc' : Nat} {Ls : Array Slot} {st : List Value} {x y : UInt64} (hd : decode code pc = .ok (.ddiv, 1)) (hn : Jvm.Free.Fl.NoNaN64 (FP.ddiv x y)) (hp : pc + 1 = pc')
    (K : Go p.tables e below G T (mkF m pc' Ls (.double (FP.ddiv x y) :: st))) : Go p.tables e below G T (mkF m pc Ls (.double y :: .double x :: st)) := by
  subst hp; exact Go.step (fun _ k => XS.ddivS X.here C.exec rfl (C.at hd) rfl hn rfl k) K
theorem g_lcmp (C : Cx p l s m meth c Z x0 code maxL ret) (X : Stand p l e R s m args below meth c T locs cells slots) {pc pc' : Nat} {Ls : Array Slot} {st : List Value} {x y : Int64} (hd : decode code pc = .ok (.lcmp, 1))  (hp : pc + 1 = pc')
    (K : Go p.tables e below G T (mkF m pc' Ls (.int (XT.cmpL x y) :: st))) : Go p.tables e below G T (mkF m pc Ls (.long y :: .long x :: st)) := by
  subst hp; exact Go.step (fun _ k => XT.lcmp X.here C.exec rfl (C.at hd) rfl k) K
theorem g_pop (C : Cx p l s m meth c Z x0 code maxL ret) (X : Stand p l e R s m args below meth c T locs cells slots) {pc pc' : Nat} {Ls : Array Slot} {st : List Value} {x : Value} (hd : decode code pc = .ok (.pop, 1)) (hc : x.category = 1) (hp : pc + 1 = pc')
    (K : Go p.tables e below G T (mkF m pc' Ls (st))) : Go p.tables e below G T (mkF m pc Ls (x :: st)) := by
  subst hp; exact Go.step (fun _ k => XT.pop X.here C.exec rfl (C.at hd) rfl hc k) K
theorem g_dup (C : Cx p l s m meth c Z x0 code maxL ret) (X : Stand p l e R s m args below meth c T locs cells slots) {pc pc' : Nat} {Ls : Array Slot} {st : List Value} {x : Value} (hd : decode code pc = .ok (.dup, 1)) (hc : x.category = 1) (hp : pc + 1 = pc')
    (K : Go p.tables e below G T (mkF m pc' Ls (x :: x :: st))) : Go p.tables e below G T (mkF m pc Ls (x :: st)) := by
  subst hp; exact Go.step (fun _ k => XS.dup X.here C.exec rfl (C.at hd) rfl hc k) K
theorem g_dupX1 (C : Cx p l s m meth c Z x0 code maxL ret) (X : Stand p l e R s m args below meth c T locs cells slots) {pc pc' : Nat} {Ls : Array Slot} {st : List Value} {x y : Value} (hd : decode code pc = .ok (.dup_x1, 1)) (hc : x.category = 1) (hc' : y.category = 1) (hp : pc + 1 = pc')
    (K : Go p.tables e below G T (mkF m pc' Ls (x :: y :: x :: st))) : Go p.tables e below G T (mkF m pc Ls (x :: y :: st)) := by
  subst hp; exact Go.step (fun _ k => XT.dupX1 X.here C.exec rfl (C.at hd) rfl hc hc' k) K
theorem g_dup2 (C : Cx p l s m meth c Z x0 code maxL ret) (X : Stand p l e R s m args below meth c T locs cells slots) {pc pc' : Nat} {Ls : Array Slot} {st : List Value} {x y : Value} (hd : decode code pc = .ok (.dup2, 1)) (hc : x.category = 1) (hc' : y.category = 1) (hp : pc + 1 = pc')
    (K : Go p.tables e below G T (mkF m pc' Ls (x :: y :: x :: y :: st))) : Go p.tables e below G T (mkF m pc Ls (x :: y :: st)) := by
  subst hp; exact Go.step (fun _ k => XT.dup2 X.here C.exec rfl (C.at hd) rfl hc hc' k) K
theorem g_iinc (C : Cx p l s m meth c Z x0 code maxL ret) (X : Stand p l e R s m args below meth c T locs cells slots) {pc pc' : Nat} {Ls : Array Slot} {st : List Value} {k : Nat} {cst : Int} {x z : Int32} {l' : Array Slot} (hd : decode code pc = .ok (.iinc k cst, 3)) (hl : Ls[k]? = some (.val (.int x))) (hz : z = x + Int32.ofInt cst) (hl' : storeLocals Ls k (.int z) = some l') (hp : pc + 3 = pc')
    (K : Go p.tables e below G T (mkF m pc' l' (st))) : Go p.tables e below G T (mkF m pc Ls (st)) := by
  subst hp; subst hz; exact Go.step (fun _ k => XS.iinc X.here C.exec rfl (C.at hd) hl hl' k) K
theorem g_irem (C : Cx p l s m meth c Z x0 code maxL ret) (X : Stand p l e R s m args below meth c T locs cells slots) {pc pc' : Nat} {Ls : Array Slot} {st : List Value} {x y : Int32} (hd : decode code pc = .ok (.irem, 1)) (hy : y ≠ 0) (hp : pc + 1 = pc')
    (K : Go p.tables e below G T (mkF m pc' Ls (.int (x % y) :: st))) : Go p.tables e below G T (mkF m pc Ls (.int y :: .int x :: st)) := by
  subst hp; exact Go.step (fun _ k => iremM X C.exec rfl (C.at hd) rfl hy k) K
theorem g_lushr (C : Cx p l s m meth c Z x0 code maxL ret) (X : Stand p l e R s m args below meth c T locs cells slots) {pc pc' : Nat} {Ls : Array Slot} {st : List Value} {x : Int64} {y : Int32} (hd : decode code pc = .ok (.lushr, 1)) (hp : pc + 1 = pc')
    (K : Go p.tables e below G T (mkF m pc' Ls (.long (XT.ushrL x y) :: st))) : Go p.tables e below G T (mkF m pc Ls (.int y :: .long x :: st)) := by
  subst hp; exact Go.step (fun _ k => XT.lushr X.here C.exec rfl (C.at hd) rfl k) K
/-- what a branch asks, of whole numbers -/
abbrev cpI : ClassFile.Cond → Int → Int → Prop
  | .eq, x, y => x = y
  | .ne, x, y => ¬ x = y
  | .lt, x, y => x < y
  | .ge, x, y => ¬ x < y
  | .gt, x, y => y < x
  | .le, x, y => ¬ y < x
theorem holds_icmp (cd : ClassFile.Cond) (x y : Int32) : if_icmp.holds cd x y = true ↔ cpI cd x.toInt y.toInt := by
  cases cd <;> simp only [if_icmp.holds, cpI, decide_eq_true_eq, beq_iff_eq, bne_iff_ne, ne_eq, Int32.lt_iff_toInt_lt, Int32.le_iff_toInt_le, Int32.toInt_inj, Int.not_lt, ge_iff_le, gt_iff_lt]
theorem holds_if (cd : ClassFile.Cond) (x : Int32) : ifCond.holds cd x = true ↔ cpI cd x.toInt 0 := by
  rw [if0]; exact holds_icmp cd x 0
theorem g_goto (C : Cx p l s m meth c Z x0 code maxL ret) (X : Stand p l e R s m args below meth c T locs cells slots) {pc pc' : Nat} {Ls : Array Slot} {st : List Value} {o : Int} (hd : decode code pc = .ok (.goto o, 3)) (ho : 0 ≤ (pc : Int) + o) (hp : ((pc : Int) + o).toNat = pc')
    (K : Go p.tables e below G T (mkF m pc' Ls st)) : Go p.tables e below G T (mkF m pc Ls st) :=
  Go.step (fun _ k => XS.goto X.here C.exec rfl rfl (C.at hd) ho hp k) K
theorem g_if (C : Cx p l s m meth c Z x0 code maxL ret) (X : Stand p l e R s m args below meth c T locs cells slots) {pc pc' pc'' : Nat} {Ls : Array Slot} {st : List Value} {cd : ClassFile.Cond} {x : Int32} {o : Int} (hd : decode code pc = .ok (.ifCond cd o, 3)) (ho : 0 ≤ (pc : Int) + o) (hp : ((pc : Int) + o).toNat = pc') (hp3 : pc + 3 = pc'')
    (K1 : cpI cd x.toInt 0 → Go p.tables e below G T (mkF m pc' Ls st)) (K2 : ¬ cpI cd x.toInt 0 → Go p.tables e below G T (mkF m pc'' Ls st)) : Go p.tables e below G T (mkF m pc Ls (.int x :: st)) := by
  subst hp3
  cases hc : ifCond.holds cd x with
  | true => exact Go.step (fun _ k => XS.ifYes X.here C.exec rfl rfl (C.at hd) rfl hc ho hp k) (K1 ((holds_if cd x).mp hc))
  | false => exact Go.step (fun _ k => XS.ifNo X.here C.exec rfl (C.at hd) rfl hc k) (K2 fun q => by rw [(holds_if cd x).mpr q] at hc; cases hc)
theorem g_icmp (C : Cx p l s m meth c Z x0 code maxL ret) (X : Stand p l e R s m args below meth c T locs cells slots) {pc pc' pc'' : Nat} {Ls : Array Slot} {st : List Value} {cd : ClassFile.Cond} {x y : Int32} {o : Int} (hd : decode code pc = .ok (.if_icmp cd o, 3)) (ho : 0 ≤ (pc : Int) + o) (hp : ((pc : Int) + o).toNat = pc') (hp3 : pc + 3 = pc'')
    (K1 : cpI cd x.toInt y.toInt → Go p.tables e below G T (mkF m pc' Ls st)) (K2 : ¬ cpI cd x.toInt y.toInt → Go p.tables e below G T (mkF m pc'' Ls st)) : Go p.tables e below G T (mkF m pc Ls (.int y :: .int x :: st)) := by
  subst hp3
  cases hc : if_icmp.holds cd x y with
  | true => exact Go.step (fun _ k => XS.icmpYes X.here C.exec rfl rfl (C.at hd) rfl hc ho hp k) (K1 ((holds_icmp cd x y).mp hc))
  | false => exact Go.step (fun _ k => XS.icmpNo X.here C.exec rfl (C.at hd) rfl hc k) (K2 fun q => by rw [(holds_icmp cd x y).mpr q] at hc; cases hc)
theorem g_ifY (C : Cx p l s m meth c Z x0 code maxL ret) (X : Stand p l e R s m args below meth c T locs cells slots) {pc pc' : Nat} {Ls : Array Slot} {st : List Value} {cd : ClassFile.Cond} {x : Int32} {o : Int} (hd : decode code pc = .ok (.ifCond cd o, 3)) (ho : 0 ≤ (pc : Int) + o) (hp : ((pc : Int) + o).toNat = pc') (hc : cpI cd x.toInt 0)
    (K1 : Go p.tables e below G T (mkF m pc' Ls st)) : Go p.tables e below G T (mkF m pc Ls (.int x :: st)) :=
  Go.step (fun _ k => XS.ifYes X.here C.exec rfl rfl (C.at hd) rfl ((holds_if cd x).mpr hc) ho hp k) K1
theorem g_ifN (C : Cx p l s m meth c Z x0 code maxL ret) (X : Stand p l e R s m args below meth c T locs cells slots) {pc pc' : Nat} {Ls : Array Slot} {st : List Value} {cd : ClassFile.Cond} {x : Int32} {o : Int} (hd : decode code pc = .ok (.ifCond cd o, 3)) (hc : ¬ cpI cd x.toInt 0) (hp : pc + 3 = pc')
    (K1 : Go p.tables e below G T (mkF m pc' Ls st)) : Go p.tables e below G T (mkF m pc Ls (.int x :: st)) := by
  subst hp
  exact Go.step (fun _ k => XS.ifNo X.here C.exec rfl (C.at hd) rfl (Bool.eq_false_iff.mpr fun q => hc ((holds_if cd x).mp q)) k) K1
theorem g_icmpY (C : Cx p l s m meth c Z x0 code maxL ret) (X : Stand p l e R s m args below meth c T locs cells slots) {pc pc' : Nat} {Ls : Array Slot} {st : List Value} {cd : ClassFile.Cond} {x y : Int32} {o : Int} (hd : decode code pc = .ok (.if_icmp cd o, 3)) (ho : 0 ≤ (pc : Int) + o) (hp : ((pc : Int) + o).toNat = pc') (hc : cpI cd x.toInt y.toInt)
    (K1 : Go p.tables e below G T (mkF m pc' Ls st)) : Go p.tables e below G T (mkF m pc Ls (.int y :: .int x :: st)) :=
  Go.step (fun _ k => XS.icmpYes X.here C.exec rfl rfl (C.at hd) rfl ((holds_icmp cd x y).mpr hc) ho hp k) K1
theorem g_icmpN (C : Cx p l s m meth c Z x0 code maxL ret) (X : Stand p l e R s m args below meth c T locs cells slots) {pc pc' : Nat} {Ls : Array Slot} {st : List Value} {cd : ClassFile.Cond} {x y : Int32} {o : Int} (hd : decode code pc = .ok (.if_icmp cd o, 3)) (hc : ¬ cpI cd x.toInt y.toInt) (hp : pc + 3 = pc')
    (K1 : Go p.tables e below G T (mkF m pc' Ls st)) : Go p.tables e below G T (mkF m pc Ls (.int y :: .int x :: st)) := by
  subst hp
  exact Go.step (fun _ k => XS.icmpNo X.here C.exec rfl (C.at hd) rfl (Bool.eq_false_iff.mpr fun q => hc ((holds_icmp cd x y).mp q)) k) K1
/-! leaving the body -/
theorem g_out {k n : Nat} {Q : Option Value → Heap → List Loc → Prop} (C : Cx p l s m meth c Z x0 code maxL ret) (X : Stand p l e R s m args below meth c T locs cells slots) {v : Option Value} {g : JFrame} (hv : ret = none → v = none)
    (st : ∀ fs, (∀ (f : JFrame) (acts : List Action), f.method = m → f.locked = none → f.entered = [] → (doReturn e (T.setTop f) acts v).1 = T.setFrames fs) → Steps p.tables e below (T.setTop g) (T.setFrames fs))
    (hQ : Q v T.heap locs) (hk : cells ≤ k) (hn : slots ≤ n) : Go p.tables e below (End s Q k n) T g := by
  obtain ⟨fs, hr, hrun, hended, hW, hsame⟩ := X.leave (v := v) (fun q => hv (C.rets ▸ q)) C.unlocked
  exact ⟨_, _, st fs hr, hrun, hended, v, locs, rfl, hQ, ⟨_, rfl⟩, hW, hsame.mono hk hn⟩
theorem g_ireturn {k n : Nat} {Q : Option Value → Heap → List Loc → Prop} (C : Cx p l s m meth c Z x0 code maxL (some .int)) (X : Stand p l e R s m args below meth c T locs cells slots) {pc : Nat} {Ls : Array Slot} {st : List Value} {z : Int32} (hd : decode code pc = .ok (.ireturn, 1))
    (hQ : Q (some (.int z)) T.heap locs) (hk : cells ≤ k) (hn : slots ≤ n) : Go p.tables e below (End s Q k n) T (mkF m pc Ls (.int z :: st)) :=
  g_out C X (v := some (.int z)) (fun q => by cases q) (fun fs hr => retOut X C.exec C.rets rfl (Or.inl ⟨rfl, Or.inl rfl, _, rfl⟩) (C.at hd) hr) hQ hk hn
theorem g_zreturn {k n : Nat} {Q : Option Value → Heap → List Loc → Prop} (C : Cx p l s m meth c Z x0 code maxL (some .boolean)) (X : Stand p l e R s m args below meth c T locs cells slots) {pc : Nat} {Ls : Array Slot} {st : List Value} {z w : Int32} (hd : decode code pc = .ok (.ireturn, 1)) (hw : nar .boolean z = w)
    (hQ : Q (some (.int w)) T.heap locs) (hk : cells ≤ k) (hn : slots ≤ n) : Go p.tables e below (End s Q k n) T (mkF m pc Ls (.int z :: st)) :=
  g_out C X (v := some (.int w)) (fun q => by cases q) (fun fs hr => retN X C.exec (t := .boolean) C.rets (by simp) (C.at hd) (hw ▸ hr)) hQ hk hn
theorem g_lreturn {k n : Nat} {Q : Option Value → Heap → List Loc → Prop} (C : Cx p l s m meth c Z x0 code maxL (some .long)) (X : Stand p l e R s m args below meth c T locs cells slots) {pc : Nat} {Ls : Array Slot} {st : List Value} {z : Int64} (hd : decode code pc = .ok (.lreturn, 1))
    (hQ : Q (some (.long z)) T.heap locs) (hk : cells ≤ k) (hn : slots ≤ n) : Go p.tables e below (End s Q k n) T (mkF m pc Ls (.long z :: st)) :=
  g_out C X (v := some (.long z)) (fun q => by cases q) (fun fs hr => retOut X C.exec C.rets rfl (Or.inr (Or.inl ⟨rfl, rfl, _, rfl⟩)) (C.at hd) hr) hQ hk hn
theorem g_dreturn {k n : Nat} {Q : Option Value → Heap → List Loc → Prop} (C : Cx p l s m meth c Z x0 code maxL (some .double)) (X : Stand p l e R s m args below meth c T locs cells slots) {pc : Nat} {Ls : Array Slot} {st : List Value} {z : UInt64} (hd : decode code pc = .ok (.dreturn, 1))
    (hQ : Q (some (.double z)) T.heap locs) (hk : cells ≤ k) (hn : slots ≤ n) : Go p.tables e below (End s Q k n) T (mkF m pc Ls (.double z :: st)) :=
  g_out C X (v := some (.double z)) (fun q => by cases q) (fun fs hr => retOut X C.exec C.rets rfl (Or.inr (Or.inr (Or.inl ⟨rfl, rfl, _, rfl⟩))) (C.at hd) hr) hQ hk hn
theorem g_areturn {k n : Nat} {Q : Option Value → Heap → List Loc → Prop} {t : FieldType} (C : Cx p l s m meth c Z x0 code maxL (some t)) (X : Stand p l e R s m args below meth c T locs cells slots) {pc : Nat} {Ls : Array Slot} {st : List Value} {w : Value} (hd : decode code pc = .ok (.areturn, 1)) (ht : t.isReference = true) (hw : w.isRef = true) (hna : narrow t w = w)
    (hQ : Q (some w) T.heap locs) (hk : cells ≤ k) (hn : slots ≤ n) : Go p.tables e below (End s Q k n) T (mkF m pc Ls (w :: st)) :=
  g_out C X (v := some w) (fun q => by cases q) (fun fs hr => retOut X C.exec C.rets hna (Or.inr (Or.inr (Or.inr (Or.inr ⟨rfl, ht, hw⟩)))) (C.at hd) hr) hQ hk hn
theorem g_return {k n : Nat} {Q : Option Value → Heap → List Loc → Prop} (C : Cx p l s m meth c Z x0 code maxL none) (X : Stand p l e R s m args below meth c T locs cells slots) {pc : Nat} {Ls : Array Slot} (hd : decode code pc = .ok (.return_, 1))
    (hQ : Q none T.heap locs) (hk : cells ≤ k) (hn : slots ≤ n) : Go p.tables e below (End s Q k n) T (mkF m pc Ls []) :=
  g_out C X (v := none) (fun _ => rfl) (fun fs hr => X.returnOut C.exec C.rets (C.at hd) hr) hQ hk hn
/-! calls -/
theorem g_callS (C : Cx p l s m meth c Z x0 code maxL ret) (X : Stand p l e R s m args below meth c T locs cells slots) {index : Nat} {y : MethodName} {bytes : ByteArray} {mL : Nat} {rt : Option FieldType} {rm : Room} {as : Array Value} {Q : Option Value → Heap → List Loc → Prop} (K0 : Con l Z y bytes mL rt rm as h Q)
    (w1 : (Cond.methodLink x0.cls index y).before a0 Z = true) (w2 : (Cond.static y).before a0 Z = true) (w3 : (Cond.initialized y.cls).before a0 Z = true) (w4 : (Cond.code y bytes mL rt).before a0 Z = true)
    (hy : y.cls ≠ "java/lang/invoke/MethodHandle" ∧ y.cls ≠ "java/lang/invoke/VarHandle") (eT : T.heap = h) {pc pc' : Nat} {Ls : Array Slot} {st : List Value} (hd : decode code pc = .ok (.invokestatic index, 3)) (hsz : Ls.size = maxL)
    {ps : List FieldType} {r : Option FieldType} (hpd : parseMethodDescriptor y.desc = some ⟨ps, r⟩) (argsL rest : List Value) (hlen : argsL.length = ps.length) (has : argsL.toArray = as) (hst : st = argsL.reverse ++ rest) (W : Nat) (hW : (rest.map fun v => v.category).sum = W)
    (hfr : rm.frames + 1 ≤ R.frames) (hlo : W + (mL + 11) + rm.locals ≤ R.locals) (hce : cells + rm.cells ≤ R.cells) (hsl : slots + rm.slots ≤ R.slots) (hp : pc + 3 = pc')
    (K : ∀ v T' L, Stand p l e R s m args below meth c T' (locs ++ L) (cells + rm.cells) (slots + rm.slots) → Q v T'.heap L → Go p.tables e below G T' (mkF m pc' Ls (v.toList ++ rest))) : Go p.tables e below G T (mkF m pc Ls st) := by
  subst hp has
  obtain ⟨v, _, ⟨T1, L1, k1, n1⟩, -, X1, ⟨Lc, hQ, q1, q2, q3⟩, st1⟩ := Jvm.LawKit.callS X C.exec (y := y) C.own (mvT C.warm w1) (mvT C.warm w2) (mvT C.warm w3) (mvT C.warm w4) hy (backOf (W := W) (K0 []) C.warm w4 w3 hfr hlo)
    (g := mkF m pc Ls st) rfl (by rw [C.maxl]; exact hsz) (argsL := argsL) (rest := rest) (lenOf hpd hlen) hst (by show 2 * 0 + _ ≤ _; rw [hW]; omega) (C.at hd) (fun _ _ => ⟨rfl, eT, hce, hsl⟩)
  dsimp only [Pt.U, Pt.locs, Pt.cells, Pt.slots] at X1 q1 q2 q3 st1 hQ
  subst q1 q2 q3
  exact Go.step st1 (K v T1 Lc X1 hQ)
theorem go_trans {tb : Tables} {T1 : State} {g g1 : JFrame} (st : Steps tb e below (T.setTop g) (T1.setTop g1)) (k : Go tb e below G T1 g1) : Go tb e below G T g := by
  obtain ⟨s2, o, h1, h2⟩ := k
  exact ⟨s2, o, st.trans h1, h2⟩
theorem g_callI (C : Cx p l s m meth c Z x0 code maxL ret) (X : Stand p l e R s m args below meth c T locs cells slots) {index : Nat} {y : MethodName} {bytes : ByteArray} {mL : Nat} {rm : Room} {as : Array Value} {Q : Option Value → Heap → List Loc → Prop} (K0 : Con l Z y bytes mL none rm as h Q) (hy1 : y.name = "<init>")
    (w1 : (Cond.methodLink x0.cls index y).before a0 Z = true) (w2 : (Cond.instanceMethod y).before a0 Z = true) (w3 : (Cond.initialized y.cls).before a0 Z = true) (w4 : (Cond.code y bytes mL none).before a0 Z = true)
    (hy : y.cls ≠ "java/lang/invoke/MethodHandle" ∧ y.cls ≠ "java/lang/invoke/VarHandle") (eT : T.heap = h) {pc pc' : Nat} {Ls : Array Slot} {st : List Value} (hd : decode code pc = .ok (.invokespecial index, 3)) (hsz : Ls.size = maxL)
    {ps : List FieldType} {r : Option FieldType} (hpd : parseMethodDescriptor y.desc = some ⟨ps, r⟩) (a : Addr) (argsL rest : List Value) (hlen : argsL.length = ps.length) (has : (.ref a :: argsL).toArray = as) (hst : st = argsL.reverse ++ .ref a :: rest) (W : Nat) (hW : (rest.map fun v => v.category).sum = W)
    (hfr : rm.frames + 1 ≤ R.frames) (hlo : W + (mL + 11) + rm.locals ≤ R.locals) (hce : cells + rm.cells ≤ R.cells) (hsl : slots + rm.slots ≤ R.slots) (hp : pc + 3 = pc')
    (K : ∀ v T' L, Stand p l e R s m args below meth c T' (locs ++ L) (cells + rm.cells) (slots + rm.slots) → Q v T'.heap L → Go p.tables e below G T' (mkF m pc' Ls (v.toList ++ rest))) : Go p.tables e below G T (mkF m pc Ls st) := by
  subst hp has
  obtain ⟨v, _, ⟨T1, L1, k1, n1⟩, -, X1, ⟨Lc, hQ, q1, q2, q3⟩, st1⟩ := X.specialBack C.exec (y := y) hy1 C.own (mvT C.warm w1) (mvT C.warm w2) (mvT C.warm w4) hy (backOf (W := W) (K0 []) C.warm w4 w3 hfr hlo)
    (g := mkF m pc Ls st) rfl (by rw [C.maxl]; exact hsz) (Steps.refl _) (a := a) (argsL := argsL) (rest := rest) (lenOf hpd hlen) hst (by show 2 * 0 + _ ≤ _; rw [hW]; omega) (C.at hd) (fun _ _ => ⟨rfl, eT, hce, hsl⟩)
  dsimp only [Pt.U, Pt.locs, Pt.cells, Pt.slots] at X1 q1 q2 q3 st1 hQ
  subst q1 q2 q3
  exact go_trans st1 (K v T1 Lc X1 hQ)
theorem g_callV (C : Cx p l s m meth c Z x0 code maxL ret) (X : Stand p l e R s m args below meth c T locs cells slots) {index : Nat} {y : MethodName} {cls : String} {bytes : ByteArray} {mL : Nat} {rt : Option FieldType} {rm : Room} {as : Array Value} {Q : Option Value → Heap → List Loc → Prop} (K0 : Con l Z y bytes mL rt rm as h Q)
    (w1 : (Cond.methodLink x0.cls index y).before a0 Z = true) (w2 : (Cond.declares y).before a0 Z = true) (w5 : (Cond.selects cls y y).before a0 Z = true) (w6 : (Cond.instanceMethod y).before a0 Z = true) (w3 : (Cond.initialized y.cls).before a0 Z = true) (w4 : (Cond.code y bytes mL rt).before a0 Z = true)
    (hy : y.cls ≠ "java/lang/invoke/MethodHandle" ∧ y.cls ≠ "java/lang/invoke/VarHandle") (eT : T.heap = h) {a : Addr} (E : Exa Z h a cls) {pc pc' : Nat} {Ls : Array Slot} {st : List Value} (hd : decode code pc = .ok (.invokevirtual index, 3)) (hsz : Ls.size = maxL)
    {ps : List FieldType} {r : Option FieldType} (hpd : parseMethodDescriptor y.desc = some ⟨ps, r⟩) (argsL rest : List Value) (hlen : argsL.length = ps.length) (has : (.ref a :: argsL).toArray = as) (hst : st = argsL.reverse ++ .ref a :: rest) (W : Nat) (hW : (rest.map fun v => v.category).sum = W)
    (hfr : rm.frames + 1 ≤ R.frames) (hlo : W + (mL + 11) + rm.locals ≤ R.locals) (hce : cells + rm.cells ≤ R.cells) (hsl : slots + rm.slots ≤ R.slots) (hp : pc + 3 = pc')
    (K : ∀ v T' L, Stand p l e R s m args below meth c T' (locs ++ L) (cells + rm.cells) (slots + rm.slots) → Q v T'.heap L → Go p.tables e below G T' (mkF m pc' Ls (v.toList ++ rest))) : Go p.tables e below G T (mkF m pc Ls st) := by
  subst hp has
  obtain ⟨cq, kq, qa, qb, qc⟩ := isOf C.warm eT E
  obtain ⟨v, _, ⟨T1, L1, k1, n1⟩, -, X1, ⟨Lc, hQ, q1, q2, q3⟩, st1⟩ := X.virtualBack C.exec (y := y) (z := y) C.own (mvT C.warm w1) (mvT C.warm w2) (notFace_of_selects (args := #[]) (mvT C.warm w5)) (mvT C.warm w5) (mvT C.warm w6) hy (backOf (W := W) (K0 []) C.warm w4 w3 hfr hlo) qa qc
    (g := mkF m pc Ls st) rfl (by rw [C.maxl]; exact hsz) (Steps.refl _) (argsL := argsL) (rest := rest) (lenOf hpd hlen) hst (by show 2 * 0 + _ ≤ _; rw [hW]; omega) (C.at hd) (fun _ _ => ⟨rfl, eT, hce, hsl⟩)
  dsimp only [Pt.U, Pt.locs, Pt.cells, Pt.slots] at X1 q1 q2 q3 st1 hQ
  subst q1 q2 q3
  exact go_trans st1 (K v T1 Lc X1 hQ)
theorem g_initO (C : Cx p l s m meth c Z x0 code maxL ret) (X : Stand p l e R s m args below meth c T locs cells slots) {index : Nat} (w1 : (Cond.methodLink x0.cls index Lib.objectInit).before a0 Z = true) (w2 : (Cond.instanceMethod Lib.objectInit).before a0 Z = true) (w3 : (Cond.code Lib.objectInit ⟨#[0xb1]⟩ 1 none).before a0 Z = true) (eT : T.heap = h)
    {pc pc' : Nat} {Ls : Array Slot} {a : Addr} {rest : List Value} (hd : decode code pc = .ok (.invokespecial index, 3)) (hsz : Ls.size = maxL) (W : Nat) (hW : (rest.map fun v => v.category).sum = W) (hfr : 1 ≤ R.frames) (hlo : W + 12 ≤ R.locals) (hp : pc + 3 = pc')
    (K : ∀ T', Stand p l e R s m args below meth c T' locs cells slots → T'.heap = h → Go p.tables e below G T' (mkF m pc' Ls rest)) : Go p.tables e below G T (mkF m pc Ls (.ref a :: rest)) := by
  subst hp
  obtain ⟨T1, X1, e1, st1⟩ := initO X C.exec C.warm C.own w1 w2 w3 eT (g := mkF m pc Ls (.ref a :: rest)) rfl (by rw [C.maxl]; exact hsz) rfl (C.at hd) hfr (W := W) (by show 2 * 0 + _ ≤ _; rw [hW]; omega) hlo
  exact Go.step st1 (K T1 X1 e1)
/-! the heap -/
theorem g_new (C : Cx p l s m meth c Z x0 code maxL ret) (X : Stand p l e R s m args below meth c T locs cells slots) {cls : String} {index n : Nat} (w : (Cond.classLink x0.cls index cls).before a0 Z = true) (wi : (Cond.instantiable cls n).before a0 Z = true) (wz : (Cond.initialized cls).before a0 Z = true) (eT : T.heap = h)
    {pc pc' : Nat} {Ls : Array Slot} {st : List Value} (hd : decode code pc = .ok (.new index, 3)) (hc : cells + 1 ≤ R.cells) (hl : slots + n ≤ R.slots) (hp : pc + 3 = pc')
    (K : ∀ T' h' a, a = h.size → Stand p l e R s m args below meth c T' locs (cells + 1) (slots + n) → T'.heap = h' → Ext h h' → Exa Z h' a cls → (∀ {O nm d : String} {ty : FieldType}, Laid Z a0 cls O nm d → parseFieldDescriptor d = some ty → Fld Z h' a O nm d (defaultValue ty)) → Go p.tables e below G T' (mkF m pc' Ls (.ref a :: st))) :
    Go p.tables e below G T (mkF m pc Ls st) := by
  subst hp
  obtain ⟨T1, h1, X1, e1, E1, A1, D1, -, st1⟩ := newO X C.exec C.warm C.own w wi wz eT (g := mkF m pc Ls st) rfl (C.at hd) hc hl
  exact Go.step st1 (K T1 h1 h.size rfl X1 e1 E1 A1 D1)
theorem g_newP (C : Cx p l s m meth c Z x0 code maxL ret) (X : Stand p l e R s m args below meth c T locs cells slots) {aty : ArrayType} (w : (Cond.arrayClass (newarray.typeOf aty)).before a0 Z = true) (eT : T.heap = h)
    {pc pc' : Nat} {Ls : Array Slot} {st : List Value} {z : Int32} (hd : decode code pc = .ok (.newarray aty, 2)) (hz : ¬ z < 0) (cap : Nat) (hcap : z.toNatClampNeg ≤ cap) (hb : cap * 8 ≤ 536870912) (hc : cells + 1 ≤ R.cells) (hl : slots + cap ≤ R.slots) (hp : pc + 2 = pc')
    (K : ∀ T' h' a k, a = h.size → Stand p l e R s m args below meth c T' locs (cells + 1) (slots + cap) → T'.heap = h' → Ext h h' → Arv Z h' a k (newarray.typeOf aty) z [] (defaultValue (newarray.typeOf aty)) → Go p.tables e below G T' (mkF m pc' Ls (.ref a :: st))) :
    Go p.tables e below G T (mkF m pc Ls (.int z :: st)) := by
  subst hp
  obtain ⟨T1, h1, cA, X1, e1, E1, A1, st1⟩ := newP X C.exec C.warm w eT (g := mkF m pc Ls (.int z :: st)) rfl (C.at hd) rfl hz hcap hb hc hl
  exact Go.step st1 (K T1 h1 h.size cA rfl X1 e1 E1 (Arv.new A1 hz))
theorem g_getF (C : Cx p l s m meth c Z x0 code maxL ret) (X : Stand p l e R s m args below meth c T locs cells slots) {R0 O n d host : String} {index : Nat} (w : (Cond.fieldLink x0.cls index R0 n d).before a0 Z = true ∨ (Cond.fieldLinkNest x0.cls index R0 n d host).before a0 Z = true) (via : Via Z R0 O n d) (eT : T.heap = h) {a : Addr} {v : Value} (F : Fld Z h a O n d v)
    {pc pc' : Nat} {Ls : Array Slot} {st : List Value} (hd : decode code pc = .ok (.getfield index, 3)) (hp : pc + 3 = pc')
    (K : ∀ T', Stand p l e R s m args below meth c T' locs cells slots → T'.heap = h → Go p.tables e below G T' (mkF m pc' Ls (v :: st))) : Go p.tables e below G T (mkF m pc Ls (.ref a :: st)) := by
  subst hp
  obtain ⟨T1, X1, e1, st1⟩ := getF X C.exec C.warm C.own w via eT F (g := mkF m pc Ls (.ref a :: st)) rfl rfl (C.at hd)
  exact Go.step st1 (K T1 X1 e1)
theorem g_putF (C : Cx p l s m meth c Z x0 code maxL ret) (X : Stand p l e R s m args below meth c T locs cells slots) {R0 O n d host cls : String} {index kk : Nat} {ty : FieldType} (w : (Cond.fieldLink x0.cls index R0 n d).before a0 Z = true ∨ (Cond.fieldLinkNest x0.cls index R0 n d host).before a0 Z = true) (via : Via Z R0 O n d) (eT : T.heap = h) {a : Addr} {v old : Value} (F : Fld Z h a O n d old) (E : Exa Z h a cls)
    (L : (Cond.lays cls O n d).before a0 Z = true ∨ ((Cond.laysFinal cls O n d).before a0 Z = true ∧ x0.cls = O ∧ x0.name = "<init>")) (wi : (Cond.instantiable cls kk).before a0 Z = true) (hty : parseFieldDescriptor d = some ty) (hn : narrow ty v = v) (hf : fits ty v = true)
    {pc pc' : Nat} {Ls : Array Slot} {st : List Value} (hd : decode code pc = .ok (.putfield index, 3)) (hp : pc + 3 = pc')
    (K : ∀ T' h', Stand p l e R s m args below meth c T' (locs ++ [⟨a, RoadKit.slotOf Z O n d⟩]) cells slots → T'.heap = h' → Wr h h' a (RoadKit.slotOf Z O n d) v → Go p.tables e below G T' (mkF m pc' Ls st)) : Go p.tables e below G T (mkF m pc Ls (v :: .ref a :: st)) := by
  subst hp
  obtain ⟨T1, h1, X1, e1, W1, st1⟩ := putF X C.exec C.warm C.own w via eT F E (L.imp id fun q => ⟨q.1, q.2.1, C.nm.trans q.2.2⟩) wi hty hn hf (g := mkF m pc Ls (v :: .ref a :: st)) rfl rfl (C.at hd)
  exact Go.step st1 (K T1 h1 X1 e1 W1)
/-- an array whose values are a list: read, length, store -/
theorem Arv.cell {a : Addr} {k : ClassId} {ty : FieldType} {z : Int32} {vs : List Value} {d : Value} (A : Arv Z h a k ty z vs d) : ∃ cl : Cell, Arr Z h a cl ty ∧ cl.slots.size = z.toNatClampNeg ∧ ¬ z < 0 ∧ Has cl vs d := by
  obtain ⟨cl, A1, -, S, N, H, -⟩ := A
  exact ⟨cl, A1, S, N, H⟩
theorem g_len (C : Cx p l s m meth c Z x0 code maxL ret) (X : Stand p l e R s m args below meth c T locs cells slots) {a : Addr} {k : ClassId} {ty : FieldType} {z : Int32} {vs : List Value} {d : Value} (eT : T.heap = h) (A : Arv Z h a k ty z vs d) {pc pc' : Nat} {Ls : Array Slot} {st : List Value} (hd : decode code pc = .ok (.arraylength, 1)) (hp : pc + 1 = pc')
    (K : Go p.tables e below G T (mkF m pc' Ls (.int z :: st))) : Go p.tables e below G T (mkF m pc Ls (.ref a :: st)) := by
  subst hp
  obtain ⟨cl, A1, S, N, H⟩ := Arv.cell A
  refine Go.step (fun t q => X.arraylength C.exec (cell := cl) (by rw [eT]; exact A1.1) (State.isArrayOf_alike C.warm.alike A1.2.1) (g := mkF m pc Ls (.ref a :: st)) rfl rfl (C.at hd) t ?_) K
  rw [len_of S N]; exact q
theorem inb {cl : Cell} {z j : Int32} (S : cl.slots.size = z.toNatClampNeg) (h0 : 0 ≤ j.toInt) (h1 : j.toInt < z.toInt) : ¬ (j < 0 ∨ cl.slots.size ≤ j.toNatClampNeg) :=
  inb_of S ⟨fun q => by rw [Int32.lt_iff_toInt_lt] at q; exact absurd q (Int.not_lt.mpr h0), Int32.lt_iff_toInt_lt.mpr h1⟩
theorem g_iaload (C : Cx p l s m meth c Z x0 code maxL ret) (X : Stand p l e R s m args below meth c T locs cells slots) {a : Addr} {k : ClassId} {z j : Int32} {vs : List Value} {d : Value} {v : Int32} (eT : T.heap = h) (A : Arv Z h a k .int z vs d) (h0 : 0 ≤ j.toInt) (h1 : j.toInt < z.toInt) (i : Nat) (hj : j.toNatClampNeg = i) (hv : vs.getD i d = .int v) {pc pc' : Nat} {Ls : Array Slot} {st : List Value} (hd : decode code pc = .ok (.iaload, 1)) (hp : pc + 1 = pc')
    (K : Go p.tables e below G T (mkF m pc' Ls (.int v :: st))) : Go p.tables e below G T (mkF m pc Ls (.int j :: .ref a :: st)) := by
  subst hp
  obtain ⟨cl, A1, S, N, H⟩ := Arv.cell A
  exact Go.step (fun t q => X.iaload C.exec (j := j) (v := .int v) (by rw [eT]; exact A1.1) (State.isArrayOf_alike C.warm.alike A1.2.1) A1.2.2 (inb S h0 h1) (H.at (inb S h0 h1) (by rw [hj]; exact hv)) (g := mkF m pc Ls (.int j :: .ref a :: st)) rfl rfl (C.at hd) t q) K
theorem g_daload (C : Cx p l s m meth c Z x0 code maxL ret) (X : Stand p l e R s m args below meth c T locs cells slots) {a : Addr} {k : ClassId} {z j : Int32} {vs : List Value} {d : Value} {v : UInt64} (eT : T.heap = h) (A : Arv Z h a k .double z vs d) (h0 : 0 ≤ j.toInt) (h1 : j.toInt < z.toInt) (i : Nat) (hj : j.toNatClampNeg = i) (hv : vs.getD i d = .double v) {pc pc' : Nat} {Ls : Array Slot} {st : List Value} (hd : decode code pc = .ok (.daload, 1)) (hp : pc + 1 = pc')
    (K : Go p.tables e below G T (mkF m pc' Ls (.double v :: st))) : Go p.tables e below G T (mkF m pc Ls (.int j :: .ref a :: st)) := by
  subst hp
  obtain ⟨cl, A1, S, N, H⟩ := Arv.cell A
  exact Go.step (fun t q => X.daload C.exec (j := j) (v := .double v) (by rw [eT]; exact A1.1) (State.isArrayOf_alike C.warm.alike A1.2.1) A1.2.2 (inb S h0 h1) (H.at (inb S h0 h1) (by rw [hj]; exact hv)) (g := mkF m pc Ls (.int j :: .ref a :: st)) rfl rfl (C.at hd) t q) K
theorem g_aaload (C : Cx p l s m meth c Z x0 code maxL ret) (X : Stand p l e R s m args below meth c T locs cells slots) {a : Addr} {k : ClassId} {z j : Int32} {ty : FieldType} {vs : List Value} {d v : Value} (eT : T.heap = h) (A : Arv Z h a k ty z vs d) (hty : ty.isReference = true) (hr : v.isRef = true) (h0 : 0 ≤ j.toInt) (h1 : j.toInt < z.toInt) (i : Nat) (hj : j.toNatClampNeg = i) (hv : vs.getD i d = v) {pc pc' : Nat} {Ls : Array Slot} {st : List Value} (hd : decode code pc = .ok (.aaload, 1)) (hp : pc + 1 = pc')
    (K : Go p.tables e below G T (mkF m pc' Ls (v :: st))) : Go p.tables e below G T (mkF m pc Ls (.int j :: .ref a :: st)) := by
  subst hp
  obtain ⟨cl, A1, S, N, H⟩ := Arv.cell A
  exact Go.step (fun t q => X.aaload C.exec (j := j) (v := v) (by rw [eT]; exact A1.1) (State.isArrayOf_alike C.warm.alike A1.2.1) hty A1.2.2 (inb S h0 h1) (H.at (inb S h0 h1) (by rw [hj]; exact hv)) (g := mkF m pc Ls (.int j :: .ref a :: st)) rfl rfl (C.at hd) t q) K
theorem Arv.put {h' : Heap} {a : Addr} {k : ClassId} {ty : FieldType} {z j : Int32} {vs : List Value} {d v : Value} (A : Arv Z h a k ty z vs d) (W : Wr h h' a j.toNatClampNeg v) (hv : fits ty v = true) (i : Nat) (hj : j.toNatClampNeg = i) (n : Nat) (hi : i < vs.length + n) : Arv Z h' a k ty z ((vs ++ List.replicate n d).set i v) d := by
  obtain ⟨cl, A1, q1, S, N, H, Gf⟩ := Arv.pad A (pad_rep vs d n)
  exact Arv.set A1 q1 S N H Gf hv W i hj (by rw [List.length_append, List.length_replicate]; exact hi)
theorem g_iastore (C : Cx p l s m meth c Z x0 code maxL ret) (X : Stand p l e R s m args below meth c T locs cells slots) {a : Addr} {k : ClassId} {z j x : Int32} {vs : List Value} {d : Value} (eT : T.heap = h) (A : Arv Z h a k .int z vs d) (h0 : 0 ≤ j.toInt) (h1 : j.toInt < z.toInt) (i n : Nat) (hj : j.toNatClampNeg = i) (hi : i < vs.length + n) {pc pc' : Nat} {Ls : Array Slot} {st : List Value} (hd : decode code pc = .ok (.iastore, 1)) (hp : pc + 1 = pc')
    (K : ∀ T' h', Stand p l e R s m args below meth c T' (locs ++ [⟨a, j.toNatClampNeg⟩]) cells slots → T'.heap = h' → Wr h h' a j.toNatClampNeg (.int x) → Arv Z h' a k .int z ((vs ++ List.replicate n d).set i (.int x)) d → Go p.tables e below G T' (mkF m pc' Ls st)) : Go p.tables e below G T (mkF m pc Ls (.int x :: .int j :: .ref a :: st)) := by
  subst hp
  obtain ⟨cl, A1, S, N, H⟩ := Arv.cell A
  obtain ⟨T1, h2, X1, e1, W1, st1⟩ := stI X C.exec C.warm eT A1 (inb S h0 h1) (g := mkF m pc Ls (.int x :: .int j :: .ref a :: st)) rfl rfl (C.at hd)
  exact Go.step st1 (K T1 h2 X1 e1 W1 (Arv.put A W1 rfl i hj n hi))
theorem g_dastore (C : Cx p l s m meth c Z x0 code maxL ret) (X : Stand p l e R s m args below meth c T locs cells slots) {a : Addr} {k : ClassId} {z j : Int32} {x : UInt64} {vs : List Value} {d : Value} (eT : T.heap = h) (A : Arv Z h a k .double z vs d) (h0 : 0 ≤ j.toInt) (h1 : j.toInt < z.toInt) (i n : Nat) (hj : j.toNatClampNeg = i) (hi : i < vs.length + n) {pc pc' : Nat} {Ls : Array Slot} {st : List Value} (hd : decode code pc = .ok (.dastore, 1)) (hp : pc + 1 = pc')
    (K : ∀ T' h', Stand p l e R s m args below meth c T' (locs ++ [⟨a, j.toNatClampNeg⟩]) cells slots → T'.heap = h' → Wr h h' a j.toNatClampNeg (.double x) → Arv Z h' a k .double z ((vs ++ List.replicate n d).set i (.double x)) d → Go p.tables e below G T' (mkF m pc' Ls st)) : Go p.tables e below G T (mkF m pc Ls (.double x :: .int j :: .ref a :: st)) := by
  subst hp
  obtain ⟨cl, A1, S, N, H⟩ := Arv.cell A
  obtain ⟨T1, h2, X1, e1, W1, st1⟩ := stD X C.exec C.warm eT A1 (inb S h0 h1) (g := mkF m pc Ls (.double x :: .int j :: .ref a :: st)) rfl rfl (C.at hd)
  exact Go.step st1 (K T1 h2 X1 e1 W1 (Arv.put A W1 rfl i hj n hi))
theorem g_ldc2J (C : Cx p l s m meth c Z x0 code maxL ret) (X : Stand p l e R s m args below meth c T locs cells slots) {index : Nat} {v : Int64} (w : (Cond.constantLong x0.cls index v).before a0 Z = true) {pc pc' : Nat} {Ls : Array Slot} {st : List Value} (hd : decode code pc = .ok (.ldc2_w index, 3)) (hp : pc + 3 = pc')
    (K : Go p.tables e below G T (mkF m pc' Ls (.long v :: st))) : Go p.tables e below G T (mkF m pc Ls st) := by
  subst hp
  exact Go.step (fun t q => X.ldc2Long C.exec C.own (mvT C.warm w) (g := mkF m pc Ls st) rfl (C.at hd) t q) K
theorem g_ldcI (C : Cx p l s m meth c Z x0 code maxL ret) (X : Stand p l e R s m args below meth c T locs cells slots) {index : Nat} {v : Int32} (w : (Cond.constant x0.cls index v).before a0 Z = true) {pc pc' : Nat} {Ls : Array Slot} {st : List Value} (hd : decode code pc = .ok (.ldc index, 2)) (hp : pc + 2 = pc')
    (K : Go p.tables e below G T (mkF m pc' Ls (.int v :: st))) : Go p.tables e below G T (mkF m pc Ls st) := by
  subst hp
  exact Go.step (fun t q => X.ldcInt C.exec C.own (mvT C.warm w) (g := mkF m pc Ls st) rfl (C.at hd) t q) K
theorem FldE.wr {h' : Heap} {a b : Addr} {C n d : String} {sl : Nat} {v : Value} (W : Wr h h' b sl v) (F : ∃ w, Fld Z h a C n d w) : ∃ w, Fld Z h' a C n d w := by
  obtain ⟨w, F⟩ := F
  by_cases q : a ≠ b ∨ RoadKit.slotOf Z C n d ≠ sl
  · exact ⟨w, F.other W q⟩
  · have q1 : a = b := Decidable.not_not.mp fun z => q (Or.inl z)
    have q2 : RoadKit.slotOf Z C n d = sl := Decidable.not_not.mp fun z => q (Or.inr z)
    subst q1 q2
    exact ⟨v, F.same W⟩
theorem g_ldc2D (C : Cx p l s m meth c Z x0 code maxL ret) (X : Stand p l e R s m args below meth c T locs cells slots) {index : Nat} {b : UInt64} (w : (Cond.constantDouble x0.cls index b).before a0 Z = true) {pc pc' : Nat} {Ls : Array Slot} {st : List Value} (hd : decode code pc = .ok (.ldc2_w index, 3)) (hp : pc + 3 = pc')
    (K : Go p.tables e below G T (mkF m pc' Ls (.double b :: st))) : Go p.tables e below G T (mkF m pc Ls st) := by
  subst hp
  exact Go.step (fun t q => X.ldc2DoubleC C.exec C.own (mvT C.warm w) (g := mkF m pc Ls st) rfl (C.at hd) t q) K
end Walk
/-! doubles that are whole numbers -/
section Dbl
open Jvm.FP.Core Jvm.Free.Fl
theorem nn_of_int {i : Int} {a : UInt64} (q : DInt i a) : NoNaN64 a := val64_no.mpr (DInt_ne_nan q)
def cmpI (i j : Int) : Int32 := if j < i then 1 else if i = j then 0 else -1
theorem cmpI_lt (i j : Int) : (cmpI i j).toInt < 0 ↔ i < j := by
  unfold cmpI
  split
  · exact ⟨fun q => absurd q (by decide), fun q => by omega⟩
  · split
    · exact ⟨fun q => absurd q (by decide), fun q => by omega⟩
    · exact ⟨fun _ => by omega, fun _ => by decide⟩
theorem cmpI_gt (i j : Int) : 0 < (cmpI i j).toInt ↔ j < i := by
  unfold cmpI
  split
  · exact ⟨fun _ => by assumption, fun _ => by decide⟩
  · split
    · exact ⟨fun q => absurd q (by decide), fun q => by omega⟩
    · exact ⟨fun q => absurd q (by decide), fun q => by omega⟩
theorem cmpI_eq (i j : Int) : (cmpI i j).toInt = 0 ↔ i = j := by
  unfold cmpI
  split
  · exact ⟨fun q => absurd q (by decide), fun q => by omega⟩
  · split
    · exact ⟨fun _ => by assumption, fun _ => by decide⟩
    · exact ⟨fun q => absurd q (by decide), fun q => by omega⟩
theorem cmpI_self (i : Int) : cmpI i i = 0 := by
  unfold cmpI
  rw [if_neg (Int.lt_irrefl i), if_pos rfl]
theorem cmpL_lt (x y : Int64) : (XT.cmpL x y).toInt < 0 ↔ x.toInt < y.toInt := by
  unfold XT.cmpL
  rw [← Int64.lt_iff_toInt_lt]
  split
  · rename_i q; exact ⟨fun q => absurd q (by decide), fun q' => absurd q' (Int64.lt_asymm q)⟩
  · split
    · rename_i q; subst q; exact ⟨fun q => absurd q (by decide), fun q' => absurd q' Int64.lt_irrefl⟩
    · rename_i q1 q2; exact ⟨fun _ => by have q3 : ¬ x.toInt = y.toInt := fun q => q2 (Int64.toInt_inj.mp q); rw [Int64.lt_iff_toInt_lt] at q1 ⊢; omega, fun _ => by decide⟩
theorem cmpL_gt (x y : Int64) : 0 < (XT.cmpL x y).toInt ↔ y.toInt < x.toInt := by
  unfold XT.cmpL
  rw [← Int64.lt_iff_toInt_lt]
  split
  · rename_i q; exact ⟨fun _ => q, fun _ => by decide⟩
  · split
    · rename_i q0 q; exact ⟨fun q => absurd q (by decide), fun q' => absurd q' q0⟩
    · rename_i q0 q; exact ⟨fun q => absurd q (by decide), fun q' => absurd q' q0⟩
theorem cmpL_eq (x y : Int64) : (XT.cmpL x y).toInt = 0 ↔ x.toInt = y.toInt := by
  unfold XT.cmpL
  rw [Int64.toInt_inj]
  split
  · rename_i q; exact ⟨fun q => absurd q (by decide), fun q' => absurd q (by rw [q']; exact Int64.lt_irrefl)⟩
  · split
    · rename_i q; exact ⟨fun _ => q, fun _ => by decide⟩
    · rename_i q0 q; exact ⟨fun q => absurd q (by decide), fun q' => absurd q' q⟩
theorem cmpV_of {r : Option Ordering} {i j : Int} (q : r = some (compare i j)) (o : CmpOp) : cmpValue r o = cmpI i j := by
  subst q
  unfold cmpI
  split
  · rename_i q; rw [(compare_gt_iff i j).mpr q]; rfl
  · split
    · rename_i q; rw [(compare_eq_iff i j).mpr q]; rfl
    · rename_i q1 q2; rw [(compare_lt_iff i j).mpr (by omega)]; rfl
theorem dcmp_cmpI {i j : Int} {a b : UInt64} (ha : DInt i a) (hb : DInt j b) (o : CmpOp) : cmpValue (FP.dcmp a b) o = cmpI i j := cmpV_of (dcmp_int ha hb) o
theorem dint_zero : DInt 0 FP.dconst0 := by
  unfold DInt
  rw [show val64 FP.dconst0 = _ from val64_dconst0]
  show signed false (0 * _) = 0 * _
  rw [Nat.zero_mul, Int.zero_mul]; rfl
end Dbl
end Jvm.OwnKit
namespace Jvm.OwnKit
open Sem ClassFile Op Lib Jvm.Stand Jvm.Free Jvm.LawKit Jvm.RoadKit
section More
variable {p : Program} {l : Launch} {e : Env} {R : Room} {s : State} {m : MethodId} {args : Array Value} {below : List Frame} {meth : Method} {c : Code} {T : State} {locs : List Loc} {cells slots : Nat} {Z : State} {a0 : Array Value} {h : Heap} {G : Outcome → State → Prop}
variable {x0 : MethodName} {code : ByteArray} {maxL : Nat} {ret : Option FieldType}
theorem g_newPE (C : Cx p l s m meth c Z x0 code maxL ret) (X : Stand p l e R s m args below meth c T locs cells slots) {aty : ArrayType} {ad : String} (had : "[" ++ (newarray.typeOf aty).toString = ad) (w : (Cond.arrayClass (newarray.typeOf aty)).before a0 Z = true) (eT : T.heap = h)
    {pc pc' : Nat} {Ls : Array Slot} {st : List Value} {z : Int32} (hd : decode code pc = .ok (.newarray aty, 2)) (hz : ¬ z < 0) (cap : Nat) (hcap : z.toNatClampNeg ≤ cap) (hb : cap * 8 ≤ 536870912) (hc : cells + 1 ≤ R.cells) (hl : slots + cap ≤ R.slots) (hp : pc + 2 = pc')
    (K : ∀ T' h' a k, a = h.size → Stand p l e R s m args below meth c T' locs (cells + 1) (slots + cap) → T'.heap = h' → Ext h h' → Arv Z h' a k (newarray.typeOf aty) z [] (defaultValue (newarray.typeOf aty)) → Exa Z h' a ad → Go p.tables e below G T' (mkF m pc' Ls (.ref a :: st))) :
    Go p.tables e below G T (mkF m pc Ls (.int z :: st)) := by
  subst hp
  obtain ⟨T1, h1, cA, X1, e1, E1, A1, B1, st1⟩ := newPE X C.exec C.warm w eT (g := mkF m pc Ls (.int z :: st)) rfl (C.at hd) rfl hz hcap hb hc hl had
  exact Go.step st1 (K T1 h1 h.size cA rfl X1 e1 E1 (Arv.new A1 hz) B1)
theorem g_clone (C : Cx p l s m meth c Z x0 code maxL ret) (X : Stand p l e R s m args below meth c T locs cells slots) {index : Nat} {ad : String} {ty : FieldType} (w1 : (Cond.methodLink x0.cls index ⟨ad, "clone", "()Ljava/lang/Object;"⟩).before a0 Z = true) (w2 : (Cond.sameMethod ad "java/lang/Object" "clone" "()Ljava/lang/Object;").before a0 Z = true) (w3 : (Cond.native ⟨"java/lang/Object", "clone", "()Ljava/lang/Object;"⟩).before a0 Z = true)
    (w4 : (Cond.instanceMethod ⟨"java/lang/Object", "clone", "()Ljava/lang/Object;"⟩).before a0 Z = true) (w5 : (Cond.selects ad ⟨ad, "clone", "()Ljava/lang/Object;"⟩ ⟨"java/lang/Object", "clone", "()Ljava/lang/Object;"⟩).before a0 Z = true) (w6 : (Cond.castable ad "java/lang/Cloneable").before a0 Z = true) (eT : T.heap = h)
    {a : Addr} {k : ClassId} {z : Int32} {vs : List Value} {d : Value} (A : Arv Z h a k ty z vs d) (E : Exa Z h a ad) {pc pc' : Nat} {Ls : Array Slot} {rest : List Value} (hd : decode code pc = .ok (.invokevirtual index, 3)) (hsz : Ls.size = maxL) (W : Nat) (hW : (rest.map fun v => v.category).sum = W) (hfr : 1 ≤ R.frames) (hlo : W + 14 ≤ R.locals)
    (cap : Nat) (hcap : z.toNatClampNeg ≤ cap) (hc : cells + 1 ≤ R.cells) (hl : slots + cap ≤ R.slots) (hp : pc + 3 = pc')
    (K : ∀ T' h' a', a' = h.size → Stand p l e R s m args below meth c T' locs (cells + 1) (slots + cap) → T'.heap = h' → Ext h h' → Arv Z h' a' k ty z vs d → Exa Z h' a' ad → Go p.tables e below G T' (mkF m pc' Ls (.ref a' :: rest))) :
    Go p.tables e below G T (mkF m pc Ls (.ref a :: rest)) := by
  subst hp
  obtain ⟨T1, h1, X1, e1, E1, A1, B1, st1⟩ := cloneH X C.exec C.warm C.own w1 w2 w3 w4 w5 w6 eT A.arh E (g := mkF m pc Ls (.ref a :: rest)) rfl (by rw [C.maxl]; exact hsz) rfl (C.at hd) hfr (W := W) (by show 2 * 0 + _ ≤ _; rw [hW]; omega) hlo hcap hc hl
  exact Go.step st1 (K T1 h1 h.size rfl X1 e1 E1 A1 B1)
theorem g_cast (C : Cx p l s m meth c Z x0 code maxL ret) (X : Stand p l e R s m args below meth c T locs cells slots) {cls : String} {index : Nat} (w : (Cond.classLink x0.cls index cls).before a0 Z = true) (eT : T.heap = h) {a : Addr} (F : Ins Z h a cls true) {pc pc' : Nat} {Ls : Array Slot} {rest : List Value} (hd : decode code pc = .ok (.checkcast index, 3)) (hp : pc + 3 = pc')
    (K : ∀ T', Stand p l e R s m args below meth c T' locs cells slots → T'.heap = h → Go p.tables e below G T' (mkF m pc' Ls (.ref a :: rest))) : Go p.tables e below G T (mkF m pc Ls (.ref a :: rest)) := by
  subst hp
  obtain ⟨T1, X1, e1, st1⟩ := castY X C.exec C.warm C.own w eT F (g := mkF m pc Ls (.ref a :: rest)) rfl rfl (C.at hd)
  exact Go.step st1 (K T1 X1 e1)
theorem g_acmpY (C : Cx p l s m meth c Z x0 code maxL ret) (X : Stand p l e R s m args below meth c T locs cells slots) {pc pc' : Nat} {Ls : Array Slot} {st : List Value} {cd : ClassFile.ACond} {v w : Value} {o : Int} (hd : decode code pc = .ok (.if_acmp cd o, 3)) (hv : v.isRef = true) (hw : w.isRef = true) (hc : XT.acmp cd v w = true) (ho : 0 ≤ (pc : Int) + o) (hp : ((pc : Int) + o).toNat = pc')
    (K : Go p.tables e below G T (mkF m pc' Ls st)) : Go p.tables e below G T (mkF m pc Ls (w :: v :: st)) :=
  Go.step (fun _ k => XT.acmpYes X.here C.exec rfl rfl (C.at hd) rfl hv hw hc ho hp k) K
theorem g_acmpN (C : Cx p l s m meth c Z x0 code maxL ret) (X : Stand p l e R s m args below meth c T locs cells slots) {pc pc' : Nat} {Ls : Array Slot} {st : List Value} {cd : ClassFile.ACond} {v w : Value} {o : Int} (hd : decode code pc = .ok (.if_acmp cd o, 3)) (hv : v.isRef = true) (hw : w.isRef = true) (hc : XT.acmp cd v w = false) (hp : pc + 3 = pc')
    (K : Go p.tables e below G T (mkF m pc' Ls st)) : Go p.tables e below G T (mkF m pc Ls (w :: v :: st)) := by
  subst hp
  exact Go.step (fun _ k => XT.acmpNo X.here C.exec rfl (C.at hd) rfl hv hw hc k) K
theorem ac_same (v : Value) : XT.acmp .eq v v = true ∧ XT.acmp .ne v v = false := by simp [XT.acmp]
theorem ac_diff {v w : Value} (q : v ≠ w) : XT.acmp .eq v w = false ∧ XT.acmp .ne v w = true := by simp [XT.acmp, q]
theorem ref_ne {a b : Addr} (q : a ≠ b) : Value.ref a ≠ Value.ref b := fun z => q (Value.ref.inj z)
theorem g_ifnullY (C : Cx p l s m meth c Z x0 code maxL ret) (X : Stand p l e R s m args below meth c T locs cells slots) {pc pc' : Nat} {Ls : Array Slot} {st : List Value} {o : Int} (hd : decode code pc = .ok (.ifnull o, 3)) (ho : 0 ≤ (pc : Int) + o) (hp : ((pc : Int) + o).toNat = pc')
    (K : Go p.tables e below G T (mkF m pc' Ls st)) : Go p.tables e below G T (mkF m pc Ls (.null :: st)) :=
  Go.step (fun _ k => XS.ifnullYes X.here C.exec rfl rfl (C.at hd) rfl ho hp k) K
theorem g_ifnullN (C : Cx p l s m meth c Z x0 code maxL ret) (X : Stand p l e R s m args below meth c T locs cells slots) {pc pc' : Nat} {Ls : Array Slot} {st : List Value} {a : Addr} {o : Int} (hd : decode code pc = .ok (.ifnull o, 3)) (hp : pc + 3 = pc')
    (K : Go p.tables e below G T (mkF m pc' Ls st)) : Go p.tables e below G T (mkF m pc Ls (.ref a :: st)) := by
  subst hp
  exact Go.step (fun _ k => XS.ifnullNo X.here C.exec rfl (C.at hd) rfl k) K
theorem g_ifnonnullN (C : Cx p l s m meth c Z x0 code maxL ret) (X : Stand p l e R s m args below meth c T locs cells slots) {pc pc' : Nat} {Ls : Array Slot} {st : List Value} {o : Int} (hd : decode code pc = .ok (.ifnonnull o, 3)) (hp : pc + 3 = pc')
    (K : Go p.tables e below G T (mkF m pc' Ls st)) : Go p.tables e below G T (mkF m pc Ls (.null :: st)) := by
  subst hp
  exact Go.step (fun _ k => XT.ifnonnullNo X.here C.exec rfl (C.at hd) rfl k) K
theorem g_ifnonnullY (C : Cx p l s m meth c Z x0 code maxL ret) (X : Stand p l e R s m args below meth c T locs cells slots) {pc pc' : Nat} {Ls : Array Slot} {st : List Value} {a : Addr} {o : Int} (hd : decode code pc = .ok (.ifnonnull o, 3)) (ho : 0 ≤ (pc : Int) + o) (hp : ((pc : Int) + o).toNat = pc')
    (K : Go p.tables e below G T (mkF m pc' Ls st)) : Go p.tables e below G T (mkF m pc Ls (.ref a :: st)) :=
  Go.step (fun _ k => XT.ifnonnullYes X.here C.exec rfl rfl (C.at hd) rfl ho hp k) K
theorem g_getS (C : Cx p l s m meth c Z x0 code maxL ret) (X : Stand p l e R s m args below meth c T locs cells slots) {R0 O n d : String} {index : Nat} (w : (Cond.fieldLink x0.cls index R0 n d).before a0 Z = true) (via : Via Z R0 O n d) (eT : T.heap = h) {v : Value} (F : Sta Z h O n d v)
    {pc pc' : Nat} {Ls : Array Slot} {st : List Value} (hd : decode code pc = .ok (.getstatic index, 3)) (hp : pc + 3 = pc')
    (K : ∀ T', Stand p l e R s m args below meth c T' locs cells slots → T'.heap = h → Go p.tables e below G T' (mkF m pc' Ls (v :: st))) : Go p.tables e below G T (mkF m pc Ls st) := by
  subst hp
  obtain ⟨T1, X1, e1, st1⟩ := getS (host := "") X C.exec C.warm C.own w via eT F (g := mkF m pc Ls st) rfl (C.at hd)
  exact Go.step st1 (K T1 X1 e1)
theorem g_lshl (C : Cx p l s m meth c Z x0 code maxL ret) (X : Stand p l e R s m args below meth c T locs cells slots) {pc pc' : Nat} {Ls : Array Slot} {st : List Value} {x : Int64} {y : Int32} (hd : decode code pc = .ok (.lshl, 1)) (hp : pc + 1 = pc')
    (K : Go p.tables e below G T (mkF m pc' Ls (.long (x <<< (y.toInt64 &&& 63)) :: st))) : Go p.tables e below G T (mkF m pc Ls (.int y :: .long x :: st)) := by
  subst hp; exact Go.step (fun _ k => XT.lshl X.here C.exec rfl (C.at hd) rfl k) K
end More
end Jvm.OwnKit
namespace Jvm.OwnKit
open Sem ClassFile Op Lib Jvm.Stand Jvm.Free Jvm.LawKit Jvm.RoadKit
section More2
variable {p : Program} {l : Launch} {e : Env} {R : Room} {s : State} {m : MethodId} {args : Array Value} {below : List Frame} {meth : Method} {c : Code} {T : State} {locs : List Loc} {cells slots : Nat} {Z : State} {a0 : Array Value} {h : Heap} {G : Outcome → State → Prop}
variable {x0 : MethodName} {code : ByteArray} {maxL : Nat} {ret : Option FieldType}
/-- a virtual call of a method that a superclass declares -/
theorem g_callVU (C : Cx p l s m meth c Z x0 code maxL ret) (X : Stand p l e R s m args below meth c T locs cells slots) {index : Nat} {w y : MethodName} {owner cls : String} {bytes : ByteArray} {mL : Nat} {rt : Option FieldType} {rm : Room} {as : Array Value} {Q : Option Value → Heap → List Loc → Prop} (K0 : Con l Z y bytes mL rt rm as h Q)
    (w1 : (Cond.methodLink x0.cls index w).before a0 Z = true) (w2 : (Cond.sameMethod w.cls owner w.name w.desc).before a0 Z = true) (w7 : (Cond.declares ⟨owner, w.name, w.desc⟩).before a0 Z = true) (w5 : (Cond.selects cls w y).before a0 Z = true) (w6 : (Cond.instanceMethod y).before a0 Z = true) (w3 : (Cond.initialized y.cls).before a0 Z = true) (w4 : (Cond.code y bytes mL rt).before a0 Z = true)
    (hy : owner ≠ "java/lang/invoke/MethodHandle" ∧ owner ≠ "java/lang/invoke/VarHandle") (eT : T.heap = h) {a : Addr} (E : Exa Z h a cls) {pc pc' : Nat} {Ls : Array Slot} {st : List Value} (hd : decode code pc = .ok (.invokevirtual index, 3)) (hsz : Ls.size = maxL)
    {ps : List FieldType} {r : Option FieldType} (hpd : parseMethodDescriptor w.desc = some ⟨ps, r⟩) (argsL rest : List Value) (hlen : argsL.length = ps.length) (has : (.ref a :: argsL).toArray = as) (hst : st = argsL.reverse ++ .ref a :: rest) (W : Nat) (hW : (rest.map fun v => v.category).sum = W)
    (hfr : rm.frames + 1 ≤ R.frames) (hlo : W + (mL + 11) + rm.locals ≤ R.locals) (hce : cells + rm.cells ≤ R.cells) (hsl : slots + rm.slots ≤ R.slots) (hp : pc + 3 = pc')
    (K : ∀ v T' L, Stand p l e R s m args below meth c T' (locs ++ L) (cells + rm.cells) (slots + rm.slots) → Q v T'.heap L → Go p.tables e below G T' (mkF m pc' Ls (v.toList ++ rest))) : Go p.tables e below G T (mkF m pc Ls st) := by
  subst hp has
  obtain ⟨cq, kq, qa, qb, qc⟩ := isOf C.warm eT E
  obtain ⟨v, _, ⟨T1, L1, k1, n1⟩, -, X1, ⟨Lc, hQ, q1, q2, q3⟩, st1⟩ := X.virtualBackUp C.exec C.own (mvT C.warm w1) (mvT C.warm w2) (mvT C.warm w7) hy (mvT C.warm w5) (mvT C.warm w6) (backOf (W := W) (K0 []) C.warm w4 w3 hfr hlo) qa qc
    (g := mkF m pc Ls st) rfl (by rw [C.maxl]; exact hsz) (Steps.refl _) (argsL := argsL) (rest := rest) (lenOf hpd hlen) hst (by show 2 * 0 + _ ≤ _; rw [hW]; omega) (C.at hd) (fun _ _ => ⟨rfl, eT, hce, hsl⟩)
  dsimp only [Pt.U, Pt.locs, Pt.cells, Pt.slots] at X1 q1 q2 q3 st1 hQ
  subst q1 q2 q3
  exact go_trans st1 (K v T1 Lc X1 hQ)
theorem g_tsw (C : Cx p l s m meth c Z x0 code maxL ret) (X : Stand p l e R s m args below meth c T locs cells slots) {pc pc' : Nat} {Ls : Array Slot} {st : List Value} {dflt low high : Int} {offs : Array Int} {len : Nat} {o : Int} {i : Int32} (hd : decode code pc = .ok (.tableswitch dflt low high offs, len)) (hin : ¬ (i.toInt < low ∨ i.toInt > high)) (hoff : offs[(i.toInt - low).toNat]? = some o) (ho : 0 ≤ (pc : Int) + o) (hp : ((pc : Int) + o).toNat = pc')
    (K : Go p.tables e below G T (mkF m pc' Ls st)) : Go p.tables e below G T (mkF m pc Ls (.int i :: st)) :=
  Go.step (fun _ k => XS.tswIn X.here C.exec rfl rfl (C.at hd) rfl hin hoff ho hp k) K
end More2
end Jvm.OwnKit
namespace Jvm.OwnKit
open Sem ClassFile Op Lib Jvm.Stand Jvm.Free Jvm.LawKit Jvm.RoadKit Jvm.Free.Fl
section Grid
variable {p : Program} {l : Launch} {e : Env} {R : Room} {s : State} {m : MethodId} {args : Array Value} {below : List Frame} {meth : Method} {c : Code} {T : State} {locs : List Loc} {cells slots : Nat} {Z : State} {a0 : Array Value} {h : Heap} {G : Outcome → State → Prop}
variable {x0 : MethodName} {code : ByteArray} {maxL : Nat} {ret : Option FieldType}
theorem al0 {P : Addr → Prop} : ∀ x ∈ ([] : List Addr), P x := fun _ q => nomatch q
theorem alc {P : Addr → Prop} {b : Addr} {l : List Addr} (q : P b) (t : ∀ x ∈ l, P x) : ∀ x ∈ b :: l, P x := fun x hx => by
  rcases List.mem_cons.mp hx with rfl | hx
  · exact q
  · exact t x hx
theorem g_newRA (C : Cx p l s m meth c Z x0 code maxL ret) (X : Stand p l e R s m args below meth c T locs cells slots) {D ad : String} {ty : FieldType} {index : Nat} (hC : (FieldType.array ty).toString = D) (had : "[" ++ D = ad) (w1 : (Cond.classLink x0.cls index D).before a0 Z = true) (w2 : (Cond.arrayOver (.array ty)).before a0 Z = true) (eT : T.heap = h)
    {pc pc' : Nat} {Ls : Array Slot} {st : List Value} {z : Int32} (hd : decode code pc = .ok (.anewarray index, 3)) (hz : ¬ z < 0) (cap : Nat) (hcap : z.toNatClampNeg ≤ cap) (hb : cap * 8 ≤ 536870912) (hc : cells + 1 ≤ R.cells) (hl : slots + cap ≤ R.slots) (hp : pc + 3 = pc')
    (K : ∀ T' h' a k, a = h.size → Stand p l e R s m args below meth c T' locs (cells + 1) (slots + cap) → T'.heap = h' → Ext h h' → Arv Z h' a k (.array ty) z [] .null → Exa Z h' a ad → OvrA Z k ty D → Go p.tables e below G T' (mkF m pc' Ls (.ref a :: st))) :
    Go p.tables e below G T (mkF m pc Ls (.int z :: st)) := by
  subst hp
  obtain ⟨T1, h1, cA, X1, e1, E1, A1, B1, O1, st1⟩ := newRA X C.exec C.warm C.own hC w1 w2 eT (g := mkF m pc Ls (.int z :: st)) rfl (C.at hd) rfl hz hcap hb hc hl had
  exact Go.step st1 (K T1 h1 h.size cA rfl X1 e1 E1 (Arv.new A1 hz) B1 O1)
theorem g_grid (C : Cx p l s m meth c Z x0 code maxL ret) (X : Stand p l e R s m args below meth c T locs cells slots) {D ad : String} {ty : FieldType} {index : Nat} (hC : (FieldType.array ty).toString = D) (had : "[" ++ D = ad) (w1 : (Cond.classLink x0.cls index ad).before a0 Z = true) (w2 : (Cond.arrayOver (.array ty)).before a0 Z = true) (w3 : (Cond.arrayClass ty).before a0 Z = true) (eT : T.heap = h)
    {pc pc' : Nat} {Ls : Array Slot} {st : List Value} {n k : Int32} (hd : decode code pc = .ok (.multianewarray index 2, 4)) (hn : ¬ n < 0) (hk : ¬ k < 0) (N : Nat) (hN : n.toNatClampNeg = N) (cap : Nat) (hcap : k.toNatClampNeg ≤ cap) (hb : cap * 8 ≤ 536870912) (hb1 : N ≤ 1000) (hdf : fits ty (defaultValue ty) = true) (hdd : (defaultValue ty).isDefault = true) (hc : cells + (1 + N) ≤ R.cells) (hl : slots + (N + N * cap) ≤ R.slots) (hp : pc + 4 = pc')
    (K : ∀ T' h' a cA comp xs, a = h.size → xs = (List.range N).map (fun j => h.size + 1 + j) → Stand p l e R s m args below meth c T' locs (cells + (1 + N)) (slots + (N + N * cap)) → T'.heap = h' → Ext h h' → Arv Z h' a cA (.array ty) n (xs.map .ref) .null → Exa Z h' a ad → OvrA Z cA ty D → (∀ (j : Nat) (x : Addr), xs[j]? = some x → Arv Z h' x comp ty k [] (defaultValue ty) ∧ Exa Z h' x D) → Go p.tables e below G T' (mkF m pc' Ls (.ref a :: st))) :
    Go p.tables e below G T (mkF m pc Ls (.int k :: .int n :: st)) := by
  subst hp
  obtain ⟨T1, h1, cA, comp, X1, e1, E1, A1, O1, B1, I1, st1⟩ := gridM X C.exec C.warm C.own hC had w1 w2 w3 eT (g := mkF m pc Ls (.int k :: .int n :: st)) rfl (C.at hd) rfl hn hk hN rfl hcap hb hb1 hdf hdd hc hl
  exact Go.step st1 (K T1 h1 h.size cA comp _ rfl rfl X1 e1 E1 A1 B1 O1 fun j x q => ⟨Arv.new (I1 j x q).1 hk, (I1 j x q).2⟩)
theorem sto_of {a y : Addr} {k : ClassId} {t0 ty : FieldType} {z : Int32} {vs : List Value} {d : Value} {D : String} (A : Arv Z h a k t0 z vs d) (O : OvrA Z k ty D) (I : Ins Z h y D true) : Sto Z h a (.ref y) := by
  obtain ⟨cl, A1, q, -⟩ := A
  exact Sto.ofVA A1 q O I
theorem sto_null {a : Addr} : Sto Z h a .null := Or.inl rfl
theorem g_aastore (C : Cx p l s m meth c Z x0 code maxL ret) (X : Stand p l e R s m args below meth c T locs cells slots) {a : Addr} {k : ClassId} {z j : Int32} {x : Value} {ty : FieldType} {vs : List Value} {d : Value} (eT : T.heap = h) (A : Arv Z h a k ty z vs d) (hty : ty.isReference = true) (hx : fits ty x = true) (F : Sto Z h a x) (h0 : 0 ≤ j.toInt) (h1 : j.toInt < z.toInt) (i n : Nat) (hj : j.toNatClampNeg = i) (hi : i < vs.length + n) {pc pc' : Nat} {Ls : Array Slot} {st : List Value} (hd : decode code pc = .ok (.aastore, 1)) (hp : pc + 1 = pc')
    (K : ∀ T' h', Stand p l e R s m args below meth c T' (locs ++ [⟨a, j.toNatClampNeg⟩]) cells slots → T'.heap = h' → Wr h h' a j.toNatClampNeg x → Arv Z h' a k ty z ((vs ++ List.replicate n d).set i x) d → Go p.tables e below G T' (mkF m pc' Ls st)) : Go p.tables e below G T (mkF m pc Ls (x :: .int j :: .ref a :: st)) := by
  subst hp
  obtain ⟨cl, A1, S, N, H⟩ := Arv.cell A
  obtain ⟨T1, h2, X1, e1, W1, st1⟩ := stR X C.exec C.warm eT A1 (inb S h0 h1) hty F (g := mkF m pc Ls (x :: .int j :: .ref a :: st)) rfl rfl (C.at hd)
  exact Go.step st1 (K T1 h2 X1 e1 W1 (Arv.put A W1 hx i hj n hi))
theorem g_absD (C : Cx p l s m meth c Z x0 code maxL ret) (X : Stand p l e R s m args below meth c T locs cells slots) {index : Nat} (w1 : (Cond.methodLink x0.cls index Abs.absDN).before a0 Z = true) (w2 : (Cond.static Abs.absDN).before a0 Z = true) (w3 : (Cond.initialized Abs.absDN.cls).before a0 Z = true) (w4 : (Cond.code Abs.absDN Abs.absDCode 2 (some .double)).before a0 Z = true) (eT : T.heap = h)
    {x : UInt64} (hn : NoNaN64 x) {pc pc' : Nat} {Ls : Array Slot} {rest : List Value} (hd : decode code pc = .ok (.invokestatic index, 3)) (hsz : Ls.size = maxL) (W : Nat) (hW : (rest.map fun v => v.category).sum = W) (hfr : 1 ≤ R.frames) (hlo : W + 13 ≤ R.locals) (hc : cells ≤ R.cells) (hs : slots ≤ R.slots) (hp : pc + 3 = pc')
    (K : ∀ T', Stand p l e R s m args below meth c T' locs cells slots → T'.heap = h → Go p.tables e below G T' (mkF m pc' Ls (.double (x &&& 0x7fffffffffffffff) :: rest))) : Go p.tables e below G T (mkF m pc Ls (.double x :: rest)) := by
  subst hp
  obtain ⟨T1, X1, e1, st1⟩ := natS X C.exec C.warm C.own w1 w2 w3 w4 (by decide) eT (W := W) (fun hk => Abs.absD_pays (W := W) x hk hfr hlo) (g := mkF m pc Ls (.double x :: rest)) rfl (by rw [C.maxl]; exact hsz) (argsL := [.double x]) (rest := rest)
    (lenOf (show parseMethodDescriptor Abs.absDN.desc = some ⟨[.double], some .double⟩ from by decide +kernel) rfl) rfl (by show 2 * 0 + _ ≤ _; rw [hW]; omega) (C.at hd) hc hs ⟨rfl, hn⟩ rfl
  exact Go.step st1 (K T1 X1 e1)
theorem g_callP (C : Cx p l s m meth c Z x0 code maxL ret) (X : Stand p l e R s m args below meth c T locs cells slots) {index : Nat} {y y2 : MethodName} {cls : String} {bytes : ByteArray} {mL : Nat} {rt : Option FieldType} {rm : Room} {as : Array Value} {Q : Option Value → Heap → List Loc → Prop} (K0 : Con l Z y bytes mL rt rm as h Q)
    (w1 : (Cond.methodLink x0.cls index y).before a0 Z = true) (wp : (Cond.privateMethod y).before a0 Z = true) (w5 : (Cond.selects y2.cls y2 y2).before a0 Z = true) (hy2 : y2.cls = y.cls) (w6 : (Cond.instanceMethod y).before a0 Z = true) (w3 : (Cond.initialized y.cls).before a0 Z = true) (w4 : (Cond.code y bytes mL rt).before a0 Z = true)
    (hy : y.cls ≠ "java/lang/invoke/MethodHandle" ∧ y.cls ≠ "java/lang/invoke/VarHandle") (eT : T.heap = h) {a : Addr} (E : Exa Z h a cls) {pc pc' : Nat} {Ls : Array Slot} {st : List Value} (hd : decode code pc = .ok (.invokevirtual index, 3)) (hsz : Ls.size = maxL)
    {ps : List FieldType} {r : Option FieldType} (hpd : parseMethodDescriptor y.desc = some ⟨ps, r⟩) (argsL rest : List Value) (hlen : argsL.length = ps.length) (has : (.ref a :: argsL).toArray = as) (hst : st = argsL.reverse ++ .ref a :: rest) (W : Nat) (hW : (rest.map fun v => v.category).sum = W)
    (hfr : rm.frames + 1 ≤ R.frames) (hlo : W + (mL + 11) + rm.locals ≤ R.locals) (hce : cells + rm.cells ≤ R.cells) (hsl : slots + rm.slots ≤ R.slots) (hp : pc + 3 = pc')
    (K : ∀ v T' L, Stand p l e R s m args below meth c T' (locs ++ L) (cells + rm.cells) (slots + rm.slots) → Q v T'.heap L → Go p.tables e below G T' (mkF m pc' Ls (v.toList ++ rest))) : Go p.tables e below G T (mkF m pc Ls st) := by
  subst hp has
  have ws : (Cond.selects y2.cls y2 y2).before args s = true := mvT C.warm w5
  obtain ⟨c2, r2, m2, -, -, q3, -, kP, hkP, hkPi⟩ := Cond.selects_spec ws
  have hc := findClass_of_methodNamed q3
  rw [hy2] at hc
  have hpr := Cond.privateMethod_at (mvP (args := args) C.warm wp)
  have w6' : (Cond.instanceMethod y).before args s = true := mvT C.warm w6
  have hsel := selects_self_of_private hc hkP hkPi hpr w6' hy
  obtain ⟨cq, qa, qb⟩ := E.cell
  obtain ⟨v, _, ⟨T1, L1, k1, n1⟩, -, X1, ⟨Lc, hQ, q1, q2, q3'⟩, st1⟩ := X.privateBack C.exec (y := y) C.own (mvT C.warm w1) w6' hsel hpr (mvT C.warm w4) hy (backOf (W := W) (K0 []) C.warm w4 w3 hfr hlo)
    (g := mkF m pc Ls st) rfl (by rw [C.maxl]; exact hsz) (Steps.refl _) (by rw [eT]; exact qa) qb (argsL := argsL) (rest := rest) (lenOf hpd hlen) hst (by show 2 * 0 + _ ≤ _; rw [hW]; omega) (C.at hd) (fun _ _ => ⟨rfl, eT, hce, hsl⟩)
  dsimp only [Pt.U, Pt.locs, Pt.cells, Pt.slots] at X1 q1 q2 q3' st1 hQ
  subst q1 q2 q3'
  exact go_trans st1 (K v T1 Lc X1 hQ)
theorem g_callIN (C : Cx p l s m meth c Z x0 code maxL ret) (X : Stand p l e R s m args below meth c T locs cells slots) {index : Nat} {host : String} {y : MethodName} {bytes : ByteArray} {mL : Nat} {rm : Room} {as : Array Value} {Q : Option Value → Heap → List Loc → Prop} (K0 : Con l Z y bytes mL none rm as h Q) (hy1 : y.name = "<init>")
    (w1 : (Cond.methodLinkNest x0.cls index y host).before a0 Z = true) (w2 : (Cond.instanceMethod y).before a0 Z = true) (w3 : (Cond.initialized y.cls).before a0 Z = true) (w4 : (Cond.code y bytes mL none).before a0 Z = true)
    (hy : y.cls ≠ "java/lang/invoke/MethodHandle" ∧ y.cls ≠ "java/lang/invoke/VarHandle") (eT : T.heap = h) {pc pc' : Nat} {Ls : Array Slot} {st : List Value} (hd : decode code pc = .ok (.invokespecial index, 3)) (hsz : Ls.size = maxL)
    {ps : List FieldType} {r : Option FieldType} (hpd : parseMethodDescriptor y.desc = some ⟨ps, r⟩) (a : Addr) (argsL rest : List Value) (hlen : argsL.length = ps.length) (has : (.ref a :: argsL).toArray = as) (hst : st = argsL.reverse ++ .ref a :: rest) (W : Nat) (hW : (rest.map fun v => v.category).sum = W)
    (hfr : rm.frames + 1 ≤ R.frames) (hlo : W + (mL + 11) + rm.locals ≤ R.locals) (hce : cells + rm.cells ≤ R.cells) (hsl : slots + rm.slots ≤ R.slots) (hp : pc + 3 = pc')
    (K : ∀ v T' L, Stand p l e R s m args below meth c T' (locs ++ L) (cells + rm.cells) (slots + rm.slots) → Q v T'.heap L → Go p.tables e below G T' (mkF m pc' Ls (v.toList ++ rest))) : Go p.tables e below G T (mkF m pc Ls st) := by
  subst hp has
  have w1' : (Cond.methodLinkNest x0.cls index y host).before args s = true := (Cond.methodLinkNest_wide C.warm w1 :)
  obtain ⟨v, _, ⟨T1, L1, k1, n1⟩, -, X1, ⟨Lc, hQ, q1, q2, q3⟩, st1⟩ := X.specialBackNest C.exec (y := y) hy1 C.own w1' (mvT C.warm w2) (mvT C.warm w4) hy (backOf (W := W) (K0 []) C.warm w4 w3 hfr hlo)
    (g := mkF m pc Ls st) rfl (by rw [C.maxl]; exact hsz) (Steps.refl _) (a := a) (argsL := argsL) (rest := rest) (lenOf hpd hlen) hst (by show 2 * 0 + _ ≤ _; rw [hW]; omega) (C.at hd) (fun _ _ => ⟨rfl, eT, hce, hsl⟩)
  dsimp only [Pt.U, Pt.locs, Pt.cells, Pt.slots] at X1 q1 q2 q3 st1 hQ
  subst q1 q2 q3
  exact go_trans st1 (K v T1 Lc X1 hQ)
theorem bn_nneg {z : Int32} {lo hi : Int} (h : lo ≤ z.toInt ∧ z.toInt ≤ hi) (h0 : 0 ≤ lo) : ¬ z < 0 := fun q => by
  have q1 : z.toInt < (0 : Int32).toInt := Int32.lt_iff_toInt_lt.mp q
  have q2 : (0 : Int32).toInt = 0 := by decide
  omega
theorem bn_cap {z : Int32} {lo hi : Int} {n : Nat} (h : lo ≤ z.toInt ∧ z.toInt ≤ hi) (hn : hi ≤ n) : z.toNatClampNeg ≤ n := by
  show z.toInt.toNat ≤ n
  omega
theorem bn_in {z j : Int32} {lo hi : Int} (h : lo ≤ z.toInt ∧ z.toInt ≤ hi) (hj : j.toInt < lo) : j.toInt < z.toInt := by omega
theorem own_b32 (x : Int32) : -2147483648 ≤ x.toInt ∧ x.toInt ≤ 2147483647 := by
  have := rng32 x
  omega
end Grid
end Jvm.OwnKit
namespace Jvm.OwnKit
open Sem ClassFile Op Lib Jvm.Stand Jvm.Free Jvm.LawKit Jvm.RoadKit Jvm.Free.Fl
section Str
variable {p : Program} {l : Launch} {e : Env} {R : Room} {s : State} {m : MethodId} {args : Array Value} {below : List Frame} {meth : Method} {c : Code} {T : State} {locs : List Loc} {cells slots : Nat} {Z : State} {a0 : Array Value} {h : Heap} {G : Outcome → State → Prop}
variable {x0 : MethodName} {code : ByteArray} {maxL : Nat} {ret : Option FieldType}
/-- the end of a walk that may have interned -/
def EndW (s : State) (Q : Option Value → Heap → List Loc → Prop) (k n : Nat) (o : Outcome) (U : State) : Prop := ∃ v L, o = .returned v ∧ Q v U.heap L ∧ ReturnedEndW s o U L k n
def ConW (l : Launch) (Z : State) (y : MethodName) (bytes : ByteArray) (maxL : Nat) (ret : Option FieldType) (rm : Room) (as : Array Value) (h : Heap) (Q : Option Value → Heap → List Loc → Prop) : Prop :=
  ∀ ws, MetFree l y (head1 (Cond.code y bytes maxL ret :: ws) rm) (fun a U => a = as ∧ Z.Warmed39 U.vm ∧ U.heap = h) (fun _ _ _ _ _ => True) (fun _ U o U' => EndW U Q rm.cells rm.slots o U')
theorem conW_of_go {rm : Room} {as : Array Value} {Q : Option Value → Heap → List Loc → Prop} {Ls : Array Slot} (hn : plainName x0.cls = true) (hef : ∀ m, entryFrame m as maxL = mkF m 0 Ls [])
    (H : ∀ (p : Program) (e : Env) (s : State) (m : MethodId) (below : List Frame) (meth : Method) (c : Code) (T : State), Cx p l s m meth c Z x0 code maxL ret → Stand p l e rm s m as below meth c T [] 0 0 → T.heap = h → Go p.tables e below (EndW s Q rm.cells rm.slots) T (mkF m 0 Ls [])) :
    ConW l Z x0 code maxL ret rm as h Q := by
  intro ws
  refine MetFree.of_bodySF (plainFor_of_name hn) hisR ?_
  intro p e s m args below meth c s₁ Bd hml hP hK
  obtain ⟨rfl, hZ, hh⟩ := hP
  have X0 : Stand p l e rm s m args below meth c s₁ [] 0 0 := Stand.of_body Bd
  have e0 : s₁.heap = h := by rw [← hh, Bd.state]; rfl
  have q := H p e s m below meth c s₁ ⟨Bd.exec, hZ, Bd.bytes, hml, findClass_of_methodNamed Bd.named, Bd.returns, Bd.notSynchronized, (name_of_methodNamed Bd.named Bd.method).1⟩ X0 e0
  rw [hef]
  exact q
def Siz (k : Nat) (h : Heap) : Prop := k ≤ h.size
theorem Siz.ext {k : Nat} {h h' : Heap} (S : Siz k h) (E : Ext h h') : Siz k h' := Nat.le_trans S E.1
theorem Siz.wr {k : Nat} {h h' : Heap} {a : Addr} {sl : Nat} {v : Value} (S : Siz k h) (W : Wr h h' a sl v) : Siz k h' := by
  unfold Siz at *; rw [W.size]; exact S
theorem Siz.keep {k : Nat} {h h' : Heap} {ws : List Addr} (S : Siz k h) (K : Keep h h' ws) : Siz k h' := Nat.le_trans S K.1
theorem g_ldcS {vm0 : Vm} {s : State} (C : Cx p l (s.setVm vm0) m meth c Z x0 code maxL ret) (X : Stand p l e R (s.setVm vm0) m args below meth c T locs cells slots) {text : String} {index k0 : Nat} (hS : s.Since vm0 k0) (hk : Siz k0 h) (w : (Cond.stringLink x0.cls index text).before a0 Z = true) (wS : ∀ a ∈ Bundle.stringAtoms, a.before a0 Z = true)
    (eT : T.heap = h) {pc pc' : Nat} {Ls : Array Slot} {st : List Value} (hd : decode code pc = .ok (.ldc index, 2)) (n : Nat) (hn : 4 * text.toList.length ≤ n) (hbig : n ≤ 536870912) (hc : cells + 2 ≤ R.cells) (hl : slots + (n + 4) ≤ R.slots) (hp : pc + 2 = pc')
    (K : ∀ a T' h' k1, Cx p l (s.setVm T'.vm) m meth c Z x0 code maxL ret → Stand p l e R (s.setVm T'.vm) m args below meth c T' locs (cells + 2) (slots + (n + 4)) → T'.heap = h' → Ext h h' → s.Since T'.vm k1 → Siz k1 h' → Go p.tables e below G T' (mkF m pc' Ls (.ref a :: st))) :
    Go p.tables e below G T (mkF m pc Ls st) := by
  subst hp
  obtain ⟨a, T', h', k1, X', e1, E1, S1, hk1, w1, o1, st1⟩ := ldcS X C.exec C.warm C.own w wS eT hS hk (g := mkF m pc Ls st) rfl (C.at hd) hn hbig hc hl
  exact Go.step st1 (K a T' h' k1 ⟨C.exec, w1, C.bytes, C.maxl, o1, C.rets, C.unlocked, C.nm⟩ X' e1 E1 S1 hk1)
theorem g_ldcS1 (C : Cx p l s m meth c Z x0 code maxL ret) (X : Stand p l e R s m args below meth c T locs cells slots) {text : String} {index : Nat} (w : (Cond.stringLink x0.cls index text).before a0 Z = true) (wS : ∀ a ∈ Bundle.stringAtoms, a.before a0 Z = true)
    (eT : T.heap = h) {pc pc' : Nat} {Ls : Array Slot} {st : List Value} (hd : decode code pc = .ok (.ldc index, 2)) (n : Nat) (hn : 4 * text.toList.length ≤ n) (hbig : n ≤ 536870912) (hc : cells + 2 ≤ R.cells) (hl : slots + (n + 4) ≤ R.slots) (hp : pc + 2 = pc')
    (K : ∀ a T' h' k1, Cx p l (s.setVm T'.vm) m meth c Z x0 code maxL ret → Stand p l e R (s.setVm T'.vm) m args below meth c T' locs (cells + 2) (slots + (n + 4)) → T'.heap = h' → Ext h h' → s.Since T'.vm k1 → Siz k1 h' → Go p.tables e below G T' (mkF m pc' Ls (.ref a :: st))) :
    Go p.tables e below G T (mkF m pc Ls st) :=
  g_ldcS (vm0 := s.vm) (s := s) C X (k0 := h.size) ((State.WarmedH.refl s).since _) (Nat.le_refl _) w wS eT hd n hn hbig hc hl hp K
theorem g_zreturnW {vm1 : Vm} {k1 k n : Nat} {Q : Option Value → Heap → List Loc → Prop} {s : State} (C : Cx p l (s.setVm vm1) m meth c Z x0 code maxL (some .boolean)) (X : Stand p l e R (s.setVm vm1) m args below meth c T locs cells slots) (hS : s.Since vm1 k1) (eT : T.heap = h) (hk1 : Siz k1 h) {pc : Nat} {Ls : Array Slot} {st : List Value} {z w : Int32} (hd : decode code pc = .ok (.ireturn, 1)) (hw : nar .boolean z = w)
    (hQ : Q (some (.int w)) T.heap locs) (hk : cells ≤ k) (hn : slots ≤ n) : Go p.tables e below (EndW s Q k n) T (mkF m pc Ls (.int z :: st)) := by
  obtain ⟨fs, hr, hrun, hended, hv, h1, h2, h3⟩ := X.leaveW hS (by rw [eT]; exact hk1) (v := some (.int w)) (fun q => by rw [C.rets] at q; cases q) C.unlocked
  exact ⟨_, _, retN X C.exec (t := .boolean) C.rets (by simp) (C.at hd) (hw ▸ hr), hrun, hended, _, locs, rfl, hQ, hv, h1, h2, h3.mono hk hn⟩
end Str
end Jvm.OwnKit
namespace Jvm.OwnKit
section Dbl
open Jvm.FP.Core Jvm.Free.Fl
theorem i2d_D (x : Int32) : DInt x.toInt (FP.i2d x) := i2d_int x
theorem l2d_D {x : Int64} (h : x.toInt.natAbs ≤ 2 ^ 53) : DInt x.toInt (FP.l2d x) := l2d_int h
theorem dadd_D {i j : Int} {a b : UInt64} (ha : DInt i a) (hb : DInt j b) (h : (i + j).natAbs ≤ 2 ^ 53) : DInt (i + j) (FP.dadd a b) := dadd_int ha hb h
theorem dsub_D {i j : Int} {a b : UInt64} (ha : DInt i a) (hb : DInt j b) (h : (i - j).natAbs ≤ 2 ^ 53) : DInt (i - j) (FP.dsub a b) := dsub_int ha hb h
theorem dmul_D {i j : Int} {a b : UInt64} (ha : DInt i a) (hb : DInt j b) (h : (i * j).natAbs ≤ 2 ^ 53) : DInt (i * j) (FP.dmul a b) := dmul_int ha hb h
theorem dint_one' : DInt 1 FP.dconst1 := dint_one
theorem dneg_int' {i : Int} {a : UInt64} (ha : DInt i a) : DInt (-i) (FP.dneg a) := by
  unfold DInt
  rw [FP.val64_dneg]
  exact whole_negate ha
theorem own_pow_cancel {c k d q1 q2 r1 r2 : Nat} {q r : Int} (hq : (q1 : Int) - q2 = q) (hr : (r1 : Int) - r2 = r) (h : c * 2 ^ (q1 + r2) = k * d * 2 ^ (q2 + r1)) : c * 2 ^ (q - r).toNat = k * d * 2 ^ (r - q).toNat := by
  obtain ⟨n, hn⟩ : ∃ n : Nat, n = min (q1 + r2) (q2 + r1) := ⟨_, rfl⟩
  have e1 : q1 + r2 = (q - r).toNat + n := by omega
  have e2 : q2 + r1 = (r - q).toNat + n := by omega
  rw [e1, e2, Nat.pow_add, Nat.pow_add, ← Nat.mul_assoc, ← Nat.mul_assoc] at h
  exact Nat.eq_of_mul_eq_mul_right (Nat.two_pow_pos n) h
theorem ddiv_int {i j k : Int} {a b : UInt64} (ha : DInt i a) (hb : DInt j b) (hj : j ≠ 0) (hk : i = k * j) (h : k.natAbs ≤ 2 ^ 53) : DInt k (FP.ddiv a b) := by
  unfold DInt at *
  show Whole k (val64 (ddiv a b))
  rw [val64_ddiv]
  cases hva : val64 a with
  | nan => rw [hva] at ha; exact ha.elim
  | inf => rw [hva] at ha; exact ha.elim
  | fin s c q =>
    cases hvb : val64 b with
    | nan => rw [hvb] at hb; exact hb.elim
    | inf => rw [hvb] at hb; exact hb.elim
    | fin t d r =>
      rw [hva] at ha
      rw [hvb] at hb
      have hd : d ≠ 0 := fun q => hj ((whole_zero hb).mp q)
      have h1 := whole_natAbs ha
      have h2 := whole_natAbs hb
      have e1 : quotient b64 (.fin s c q) (.fin t d r) = round b64 (.fin (s != t) k.natAbs 0) := by
        show (if d = 0 then _ else roundRatio b64 (s != t) c d (q - r)) = roundRatio b64 (s != t) k.natAbs 1 0
        rw [if_neg hd]
        refine roundRatio_congr (by omega) (by decide) ?_
        have e2 : c * 2 ^ (q.toNat + (-r).toNat) = k.natAbs * d * 2 ^ ((-q).toNat + r.toNat) := by
          rw [Nat.pow_add, Nat.pow_add, ← Nat.mul_assoc, h1, hk, Int.natAbs_mul]
          calc k.natAbs * j.natAbs * 2 ^ (-q).toNat * 2 ^ (-r).toNat = k.natAbs * 2 ^ (-q).toNat * (j.natAbs * 2 ^ (-r).toNat) := by ac_rfl
            _ = k.natAbs * 2 ^ (-q).toNat * (d * 2 ^ r.toNat) := by rw [h2]
            _ = k.natAbs * d * (2 ^ (-q).toNat * 2 ^ r.toNat) := by ac_rfl
        have e3 := own_pow_cancel (q := q) (r := r) (by omega) (by omega) e2
        rw [Nat.mul_one, show (q - r - 0).toNat = (q - r).toNat by omega, show (0 - (q - r)).toNat = (r - q).toNat by omega]
        exact e3
      rw [e1]
      refine whole_round good_b64 wide_b64 h ?_
      show signed (s != t) (k.natAbs * 2 ^ 0) = k * ((2 ^ 0 : Nat) : Int)
      rw [Nat.pow_zero, Nat.mul_one]
      by_cases hk0 : k = 0
      · subst hk0; exact signed_zero _
      · have hi : i ≠ 0 := by rw [hk]; exact Int.mul_ne_zero hk0 hj
        rw [whole_sign ha hi, whole_sign hb hj]
        unfold signed
        rcases Int.lt_or_gt_of_ne hj with q1 | q1 <;> rcases Int.lt_or_gt_of_ne hk0 with q2 | q2
        · have q3 := Int.mul_pos_of_neg_of_neg q2 q1
          rw [← hk] at q3
          simp [q1, show ¬ i < 0 by omega]; omega
        · have q3 := Int.mul_neg_of_pos_of_neg q2 q1
          rw [← hk] at q3
          simp [q1, q3]; omega
        · have q3 := Int.mul_neg_of_neg_of_pos q2 q1
          rw [← hk] at q3
          simp [show ¬ j < 0 by omega, q3]; omega
        · have q3 := Int.mul_pos q2 q1
          rw [← hk] at q3
          simp [show ¬ j < 0 by omega, show ¬ i < 0 by omega]; omega
end Dbl
end Jvm.OwnKit
namespace Jvm.OwnKit
section Dq
open Jvm.FP.Core Jvm.Free.Fl Op ClassFile
/-- the double a is i / 2^k -/
def DQ (k : Nat) (i : Int) (a : UInt64) : Prop := ∃ s c q, val64 a = .fin s c q ∧ Whole i (.fin s c (q + k))
theorem whole_up {s : Bool} {c : Nat} {q i : Int} (k : Nat) (h : Whole i (.fin s c q)) : Whole (i * ((2 ^ k : Nat) : Int)) (.fin s c (q + k)) := by
  show signed s (c * 2 ^ (q + k).toNat) = i * ((2 ^ k : Nat) : Int) * ((2 ^ (-(q + k)).toNat : Nat) : Int)
  have h : signed s (c * 2 ^ q.toNat) = i * ((2 ^ (-q).toNat : Nat) : Int) := h
  have p : ((2 ^ q.toNat : Nat) : Int) ≠ 0 := by have := Nat.two_pow_pos q.toNat; omega
  rw [signed_mul] at h ⊢
  refine Int.eq_of_mul_eq_mul_right p ?_
  calc signed s c * ((2 ^ (q + k).toNat : Nat) : Int) * ((2 ^ q.toNat : Nat) : Int) = signed s c * ((2 ^ q.toNat : Nat) : Int) * ((2 ^ (q + k).toNat : Nat) : Int) := by ac_rfl
    _ = i * (((2 ^ (-q).toNat : Nat) : Int) * ((2 ^ (q + k).toNat : Nat) : Int)) := by rw [h]; ac_rfl
    _ = i * (((2 ^ k : Nat) : Int) * ((2 ^ (-(q + k)).toNat : Nat) : Int) * ((2 ^ q.toNat : Nat) : Int)) := by
      congr 1
      rw [← Int.natCast_mul, ← Int.natCast_mul, ← Int.natCast_mul, ← Nat.pow_add, ← Nat.pow_add, ← Nat.pow_add]
      congr 2; omega
    _ = i * ((2 ^ k : Nat) : Int) * ((2 ^ (-(q + k)).toNat : Nat) : Int) * ((2 ^ q.toNat : Nat) : Int) := by ac_rfl
theorem whole_inj {s : Bool} {c : Nat} {q i j : Int} (h : Whole i (.fin s c q)) (h' : Whole j (.fin s c q)) : i = j := by
  have h : signed s (c * 2 ^ q.toNat) = i * ((2 ^ (-q).toNat : Nat) : Int) := h
  have h' : signed s (c * 2 ^ q.toNat) = j * ((2 ^ (-q).toNat : Nat) : Int) := h'
  have p : ((2 ^ (-q).toNat : Nat) : Int) ≠ 0 := by have := Nat.two_pow_pos (-q).toNat; omega
  exact Int.eq_of_mul_eq_mul_right p (h.symm.trans h')
theorem whole_down {s : Bool} {c : Nat} {q i : Int} (k : Nat) (h : Whole (i * ((2 ^ k : Nat) : Int)) (.fin s c (q + k))) : Whole i (.fin s c q) := by
  show signed s (c * 2 ^ q.toNat) = i * ((2 ^ (-q).toNat : Nat) : Int)
  have h : signed s (c * 2 ^ (q + k).toNat) = i * ((2 ^ k : Nat) : Int) * ((2 ^ (-(q + k)).toNat : Nat) : Int) := h
  have p : ((2 ^ (q + k).toNat : Nat) : Int) ≠ 0 := by have := Nat.two_pow_pos (q + k).toNat; omega
  rw [signed_mul] at h ⊢
  refine Int.eq_of_mul_eq_mul_right p ?_
  calc signed s c * ((2 ^ q.toNat : Nat) : Int) * ((2 ^ (q + k).toNat : Nat) : Int) = signed s c * ((2 ^ (q + k).toNat : Nat) : Int) * ((2 ^ q.toNat : Nat) : Int) := by ac_rfl
    _ = i * (((2 ^ k : Nat) : Int) * ((2 ^ (-(q + k)).toNat : Nat) : Int) * ((2 ^ q.toNat : Nat) : Int)) := by rw [h]; ac_rfl
    _ = i * (((2 ^ (-q).toNat : Nat) : Int) * ((2 ^ (q + k).toNat : Nat) : Int)) := by
      congr 1
      rw [← Int.natCast_mul, ← Int.natCast_mul, ← Int.natCast_mul, ← Nat.pow_add, ← Nat.pow_add, ← Nat.pow_add]
      congr 2; omega
    _ = i * ((2 ^ (-q).toNat : Nat) : Int) * ((2 ^ (q + k).toNat : Nat) : Int) := by ac_rfl
theorem DQ.of_int {i : Int} {a : UInt64} (k : Nat) (h : DInt i a) : DQ k (i * ((2 ^ k : Nat) : Int)) a := by
  unfold DInt at h
  cases hv : val64 a with
  | nan => rw [hv] at h; exact h.elim
  | inf => rw [hv] at h; exact h.elim
  | fin s c q => rw [hv] at h; exact ⟨s, c, q, hv, whole_up k h⟩
theorem DQ.int {i : Int} {a : UInt64} {k : Nat} (h : DQ k (i * ((2 ^ k : Nat) : Int)) a) : DInt i a := by
  obtain ⟨s, c, q, hv, hw⟩ := h
  unfold DInt
  rw [hv]
  exact whole_down k hw
theorem DQ.ne_nan {k : Nat} {i : Int} {a : UInt64} (h : DQ k i a) : val64 a ≠ .nan := by
  obtain ⟨s, c, q, hv, -⟩ := h
  rw [hv]; exact Datum.noConfusion
theorem nn_of_q {k : Nat} {i : Int} {a : UInt64} (h : DQ k i a) : NoNaN64 a := val64_no.mpr h.ne_nan
/-- a number of up to 53 digits over 2^k is a double -/
theorem q_round {k : Nat} (hk : k ≤ 1022) {s : Bool} {c : Nat} {q i : Int} (h : Whole i (.fin s c (q + k))) (hi : i.natAbs ≤ 2 ^ 53) : ∃ c' q', round b64 (.fin s c q) = .fin s c' q' ∧ Whole i (.fin s c' (q' + k)) := by
  by_cases h0 : i = 0
  · have hc : c = 0 := (whole_zero h).mpr h0
    subst hc h0
    refine ⟨0, b64.qmin, rfl, ?_⟩
    show signed s (0 * _) = 0 * _
    rw [Nat.zero_mul, Int.zero_mul]; exact signed_zero s
  · obtain ⟨c', q', hfit, hv⟩ := natFit good_b64 wide_b64 s (n := i.natAbs) hi
    have hpos : 0 < i.natAbs := Int.natAbs_pos.mpr h0
    have hv' : i.natAbs * 2 ^ (-q').toNat = c' * 2 ^ q'.toNat := by
      rw [show (0 - q').toNat = (-q').toNat by omega, show (q' - 0).toNat = q'.toNat by omega, Nat.mul_one] at hv
      exact hv
    obtain ⟨f1, f2, f3, f4⟩ := hfit
    have f1 : c' < 2 ^ 53 := f1
    have hq : -53 < q' := by
      refine Int.lt_of_not_ge fun hle => ?_
      have e1 : q'.toNat = 0 := by omega
      rw [e1, Nat.pow_zero, Nat.mul_one] at hv'
      have e2 : 2 ^ 53 ≤ 2 ^ (-q').toNat := Nat.pow_le_pow_right (by decide) (by omega)
      have e3 : 2 ^ (-q').toNat ≤ i.natAbs * 2 ^ (-q').toNat := Nat.le_mul_of_pos_left _ hpos
      omega
    have hqm : b64.qmin = -1074 := qmin_b64
    have f5 : b64.tails ≤ c' := by
      rcases f4 with f4 | f4
      · omega
      · exact f4
    have hfit' : FP.Core.fits b64 (.fin s c' (q' - k)) := ⟨f1, by omega, by omega, Or.inr f5⟩
    refine ⟨c', q' - k, ?_, ?_⟩
    · have hn := whole_natAbs h
      refine roundRatio_exact good_b64 (by decide) hfit' ?_
      rw [Nat.mul_one]
      -- c 2^(q+k)+ = |i| 2^(q+k)- and |i| 2^(-q')+ = c' 2^q'+
      have e1 : c * 2 ^ ((q + k).toNat + (-q').toNat) = c' * 1 * 2 ^ ((-(q + k)).toNat + q'.toNat) := by
        rw [Nat.pow_add, Nat.pow_add, ← Nat.mul_assoc, hn, Nat.mul_one]
        calc i.natAbs * 2 ^ (-(q + k)).toNat * 2 ^ (-q').toNat = i.natAbs * 2 ^ (-q').toNat * 2 ^ (-(q + k)).toNat := by ac_rfl
          _ = c' * (2 ^ (-(q + k)).toNat * 2 ^ q'.toNat) := by rw [hv']; ac_rfl
      have e2 := own_pow_cancel (q := q + k) (r := q') (by omega) (by omega) e1
      rw [Nat.mul_one] at e2
      rw [show (q - (q' - (k : Int))).toNat = (q + k - q').toNat by omega, show (q' - (k : Int) - q).toNat = (q' - (q + k)).toNat by omega]
      exact e2
    · rw [show q' - (k : Int) + k = q' by omega]
      show signed s (c' * 2 ^ q'.toNat) = i * ((2 ^ (-q').toNat : Nat) : Int)
      rw [← hv', signed_mul]
      congr 1
      rw [whole_sign h h0]
      unfold signed
      by_cases h : i < 0 <;> simp [h] <;> omega
theorem dadd_q {k : Nat} (hk : k ≤ 1022) {i j : Int} {a b : UInt64} (ha : DQ k i a) (hb : DQ k j b) (h : (i + j).natAbs ≤ 2 ^ 53) : DQ k (i + j) (FP.dadd a b) := by
  obtain ⟨s, c, q, hva, wa⟩ := ha
  obtain ⟨t, d, r, hvb, wb⟩ := hb
  have w := whole_sum wa wb
  have e : exactSum (.fin s c (q + k)) (.fin t d (r + k)) = .fin (sumSign s t (sumUnits s c q t d r (min q r))) (sumUnits s c q t d r (min q r)).natAbs (min q r + k) := by
    have e1 : min (q + k) (r + (k : Int)) = min q r + k := by omega
    have e2 : sumUnits s c (q + k) t d (r + k) (min q r + k) = sumUnits s c q t d r (min q r) := by
      unfold sumUnits inUnits
      rw [show (q + (k : Int) - (min q r + k)).toNat = (q - min q r).toNat by omega, show (r + (k : Int) - (min q r + k)).toNat = (r - min q r).toNat by omega]
    show Datum.fin _ _ _ = _
    rw [e1, e2]
  rw [e] at w
  obtain ⟨c', q', hr, hw⟩ := q_round hk w h
  refine ⟨_, c', q', ?_, hw⟩
  show val64 (dadd a b) = _
  rw [val64_dadd, hva, hvb]
  exact hr
theorem dneg_q {k : Nat} {i : Int} {a : UInt64} (ha : DQ k i a) : DQ k (-i) (FP.dneg a) := by
  obtain ⟨s, c, q, hva, wa⟩ := ha
  exact ⟨!s, c, q, by rw [FP.val64_dneg, hva]; rfl, whole_negate wa⟩
theorem dsub_q {k : Nat} (hk : k ≤ 1022) {i j : Int} {a b : UInt64} (ha : DQ k i a) (hb : DQ k j b) (h : (i - j).natAbs ≤ 2 ^ 53) : DQ k (i - j) (FP.dsub a b) := by
  obtain ⟨t, d, r, hvb, wb⟩ := hb
  have hb' : DQ k (-j) (FP.Core.dneg b) := ⟨!t, d, r, by rw [FP.Core.val64_dneg, hvb]; rfl, whole_negate wb⟩
  rw [show FP.dsub a b = FP.dadd a (FP.Core.dneg b) from dsub_eq a b]
  exact dadd_q hk ha hb' h
theorem dmul_q {k : Nat} (hk : k ≤ 1022) {i j n : Int} {a b : UInt64} (ha : DQ k i a) (hb : DQ k j b) (hn : i * j = n * ((2 ^ k : Nat) : Int)) (h : n.natAbs ≤ 2 ^ 53) : DQ k n (FP.dmul a b) := by
  obtain ⟨s, c, q, hva, wa⟩ := ha
  obtain ⟨t, d, r, hvb, wb⟩ := hb
  have w := whole_product wa wb
  rw [hn] at w
  have w' : Whole n (.fin (s != t) (c * d) (q + r + k)) := by
    refine whole_down k ?_
    rw [show q + r + (k : Int) + k = q + k + (r + k) by omega]
    exact w
  obtain ⟨c', q', hr, hw⟩ := q_round hk w' h
  refine ⟨_, c', q', ?_, hw⟩
  show val64 (dmul a b) = _
  rw [val64_dmul, hva, hvb]
  exact hr
theorem ddiv_q {k : Nat} (hk : k ≤ 1022) {i j n : Int} {a b : UInt64} (ha : DQ k i a) (hb : DQ k j b) (hj : j ≠ 0) (hn : i * ((2 ^ k : Nat) : Int) = n * j) (h : n.natAbs ≤ 2 ^ 53) : DQ k n (FP.ddiv a b) := by
  obtain ⟨s, c, q, hva, wa⟩ := ha
  obtain ⟨t, d, r, hvb, wb⟩ := hb
  have hd : d ≠ 0 := fun q => hj ((whole_zero wb).mp q)
  have h1 := whole_natAbs wa
  have h2 := whole_natAbs wb
  have h3 : i.natAbs * 2 ^ k = n.natAbs * j.natAbs := by
    have := congrArg Int.natAbs hn
    rw [Int.natAbs_mul, Int.natAbs_mul, Int.natAbs_natCast] at this
    exact this
  have w : Whole n (.fin (s != t) n.natAbs (-(k : Int) + k)) := by
    rw [show -(k : Int) + k = 0 by omega]
    show signed (s != t) (n.natAbs * 2 ^ 0) = n * ((2 ^ 0 : Nat) : Int)
    rw [Nat.pow_zero, Nat.mul_one]
    by_cases hn0 : n = 0
    · subst hn0; exact signed_zero _
    · have pk : (0 : Int) < ((2 ^ k : Nat) : Int) := by have := Nat.two_pow_pos k; omega
      have hi : i ≠ 0 := fun hi => by
        rw [hi, Int.zero_mul] at hn
        exact Int.mul_ne_zero hn0 hj hn.symm
      rw [whole_sign wa hi, whole_sign wb hj]
      have si : i < 0 ↔ n * j < 0 := by
        rw [← hn]
        constructor
        · intro q; exact Int.mul_neg_of_neg_of_pos q pk
        · intro q
          refine Int.lt_of_not_ge fun q2 => ?_
          have := Int.mul_nonneg q2 (Int.le_of_lt pk)
          omega
      unfold signed
      rcases Int.lt_or_gt_of_ne hj with q1 | q1 <;> rcases Int.lt_or_gt_of_ne hn0 with q2 | q2
      · have q3 := Int.mul_pos_of_neg_of_neg q2 q1
        simp [q1, show ¬ i < 0 by rw [si]; omega]; omega
      · have q3 := Int.mul_neg_of_pos_of_neg q2 q1
        simp [q1, si.mpr q3]; omega
      · have q3 := Int.mul_neg_of_neg_of_pos q2 q1
        simp [show ¬ j < 0 by omega, si.mpr q3]; omega
      · have q3 := Int.mul_pos q2 q1
        simp [show ¬ j < 0 by omega, show ¬ i < 0 by rw [si]; omega]; omega
  obtain ⟨c', q', hr, hw⟩ := q_round hk w h
  refine ⟨_, c', q', ?_, hw⟩
  show val64 (ddiv a b) = _
  rw [val64_ddiv, hva, hvb, ← hr]
  show (if d = 0 then _ else roundRatio b64 (s != t) c d (q - r)) = roundRatio b64 (s != t) n.natAbs 1 (-(k : Int))
  rw [if_neg hd]
  refine roundRatio_congr (by omega) (by decide) ?_
  rw [Nat.mul_one]
  have e2 : c * 2 ^ (((q + k).toNat + k) + (-(r + k)).toNat) = n.natAbs * d * 2 ^ ((-(q + k)).toNat + (r + k).toNat) := by
    calc c * 2 ^ (((q + k).toNat + k) + (-(r + k)).toNat) = c * 2 ^ (q + k).toNat * 2 ^ k * 2 ^ (-(r + k)).toNat := by rw [Nat.pow_add, Nat.pow_add]; ac_rfl
      _ = i.natAbs * 2 ^ k * 2 ^ (-(q + k)).toNat * 2 ^ (-(r + k)).toNat := by rw [h1]; ac_rfl
      _ = n.natAbs * 2 ^ (-(q + k)).toNat * (j.natAbs * 2 ^ (-(r + k)).toNat) := by rw [h3]; ac_rfl
      _ = n.natAbs * d * (2 ^ (-(q + k)).toNat * 2 ^ (r + k).toNat) := by rw [← h2]; ac_rfl
      _ = _ := by rw [Nat.pow_add]
  have e3 := own_pow_cancel (q := q + k + k) (r := r + k) (q1 := (q + k).toNat + k) (by omega) (by omega) e2
  rw [show (q - r - -(k : Int)).toNat = (q + k + k - (r + k)).toNat by omega, show (-(k : Int) - (q - r)).toNat = (r + k - (q + k + k)).toNat by omega]
  exact e3
theorem dcmp_q {k : Nat} {i j : Int} {a b : UInt64} (ha : DQ k i a) (hb : DQ k j b) : dcmp a b = some (compare i j) := by
  obtain ⟨s, c, q, hva, wa⟩ := ha
  obtain ⟨t, d, r, hvb, wb⟩ := hb
  have w := order_whole wa wb
  show order (val64 a) (val64 b) = _
  rw [hva, hvb, ← w]
  show some (compare _ _) = some (compare _ _)
  have e1 : min (q + k) (r + (k : Int)) = min q r + k := by omega
  rw [e1]
  unfold inUnits
  rw [show (q + (k : Int) - (min q r + k)).toNat = (q - min q r).toNat by omega, show (r + (k : Int) - (min q r + k)).toNat = (r - min q r).toNat by omega]
theorem dcmp_cmpQ {k : Nat} {i j : Int} {a b : UInt64} (ha : DQ k i a) (hb : DQ k j b) (o : CmpOp) : cmpValue (FP.dcmp a b) o = cmpI i j := cmpV_of (dcmp_q ha hb) o
end Dq
end Jvm.OwnKit
namespace Jvm.OwnKit
section Dz
open Jvm.FP.Core Jvm.Free.Fl Op ClassFile
/-- a double's value in units of 2^-1074 -/
def dz (a : UInt64) : Int := zval b64 (val64 a)
theorem dcmp_dz {a b : UInt64} (ha : NoNaN64 a) (hb : NoNaN64 b) (o : CmpOp) : cmpValue (FP.dcmp a b) o = cmpI (dz a) (dz b) := cmpV_of (dcmp_zval (val64_no.mp ha) (val64_no.mp hb)) o
theorem zmag_whole {k : Nat} (hk : k ≤ 1074) {s : Bool} {c : Nat} {q w : Int} (hq : -1074 ≤ q) (h : Whole w (.fin s c (q + k))) : zmag b64 (.fin s c q) = w.natAbs * 2 ^ (1074 - k) := by
  have h1 := whole_natAbs h
  show c * 2 ^ (q - b64.qmin).toNat = _
  rw [qmin_b64]
  have e1 : c * 2 ^ ((q + k).toNat + (1074 - k)) = w.natAbs * 2 ^ ((-(q + k)).toNat + (1074 - k)) := by
    rw [Nat.pow_add, Nat.pow_add, ← Nat.mul_assoc, ← Nat.mul_assoc, h1]
  by_cases hs : 0 ≤ q + k
  · rw [show (-(q + (k : Int))).toNat = 0 by omega, Nat.zero_add] at e1
    rw [show (q - -1074).toNat = (q + k).toNat + (1074 - k) by omega]; exact e1
  · have p := Nat.two_pow_pos (-(q + (k : Int))).toNat
    rw [show (q + (k : Int)).toNat = 0 by omega, Nat.zero_add, show 1074 - k = (q - -1074).toNat + (-(q + k)).toNat by omega, Nat.pow_add, ← Nat.mul_assoc] at e1
    have e2 := Nat.eq_of_mul_eq_mul_right p (e1.trans (by rw [Nat.pow_add, Nat.pow_add]; ac_rfl : _ = w.natAbs * (2 ^ (q - -1074).toNat * 2 ^ (-(q + (k : Int))).toNat) * 2 ^ (-(q + (k : Int))).toNat))
    rw [e2, ← Nat.pow_add]; congr 2; omega
theorem dz_q {k : Nat} (hk : k ≤ 1074) {w : Int} {V : UInt64} (h : DQ k w V) : dz V = w * ((2 ^ (1074 - k) : Nat) : Int) := by
  obtain ⟨s, c, q, hv, hw⟩ := h
  have hf := val64_fits V
  rw [hv] at hf
  have hq : -1074 ≤ q := by have := hf.2.1; rw [qmin_b64] at this; exact this
  unfold dz zval
  rw [hv, zmag_whole hk hq hw]
  show signed s _ = _
  rw [signed_mul]
  congr 1
  by_cases h0 : w = 0
  · rw [h0]; exact signed_zero s
  · rw [whole_sign hw h0]
    unfold signed
    by_cases h : w < 0 <;> simp [h] <;> omega
theorem dz_int {i : Int} {a : UInt64} (h : DInt i a) : dz a = i * (one64 : Int) := DInt_zval h
/-- a quotient of whole numbers, as a rounding -/
theorem ddiv_round {n d : Int} {a b : UInt64} (ha : DInt n a) (hb : DInt d b) (hd : d ≠ 0) : ∃ s, val64 (ddiv a b) = roundRatio b64 s n.natAbs d.natAbs 0 ∧ (n ≠ 0 → s = (decide (n < 0) != decide (d < 0))) := by
  unfold DInt at *
  rw [val64_ddiv]
  cases hva : val64 a with
  | nan => rw [hva] at ha; exact ha.elim
  | inf => rw [hva] at ha; exact ha.elim
  | fin s c q =>
    cases hvb : val64 b with
    | nan => rw [hvb] at hb; exact hb.elim
    | inf => rw [hvb] at hb; exact hb.elim
    | fin t e r =>
      rw [hva] at ha
      rw [hvb] at hb
      have he : e ≠ 0 := fun q => hd ((whole_zero hb).mp q)
      have h1 := whole_natAbs ha
      have h2 := whole_natAbs hb
      refine ⟨s != t, ?_, fun hn => by rw [whole_sign ha hn, whole_sign hb hd]⟩
      show (if e = 0 then _ else roundRatio b64 (s != t) c e (q - r)) = _
      rw [if_neg he]
      refine roundRatio_congr (by omega) (Int.natAbs_pos.mpr hd) ?_
      have e2 : c * d.natAbs * 2 ^ (q.toNat + (-r).toNat) = n.natAbs * e * 2 ^ ((-q).toNat + r.toNat) := by
        rw [Nat.pow_add, Nat.pow_add]
        calc c * d.natAbs * (2 ^ q.toNat * 2 ^ (-r).toNat) = c * 2 ^ q.toNat * (d.natAbs * 2 ^ (-r).toNat) := by ac_rfl
          _ = n.natAbs * 2 ^ (-q).toNat * (e * 2 ^ r.toNat) := by rw [h1, ← h2]
          _ = n.natAbs * e * (2 ^ (-q).toNat * 2 ^ r.toNat) := by ac_rfl
      have e3 := own_pow_cancel (q := q) (r := r) (by omega) (by omega) e2
      rw [show (q - r - 0).toNat = (q - r).toNat by omega, show (0 - (q - r)).toNat = (r - q).toNat by omega]
      exact e3
theorem ddiv_nn {n d : Int} {a b : UInt64} (ha : DInt n a) (hb : DInt d b) (hd : d ≠ 0) : NoNaN64 (FP.ddiv a b) := by
  obtain ⟨s, hs, -⟩ := ddiv_round ha hb hd
  exact val64_no.mpr (by show val64 (ddiv a b) ≠ _; rw [hs]; exact roundRatio_ne_nan _ _ _ _ _)
theorem ddiv_mag_le {n d w : Int} {k : Nat} (hk : k ≤ 1074) {V : UInt64} {s : Bool} (hd : d ≠ 0) (hV : DQ k w V) (h : n.natAbs * 2 ^ k ≤ w.natAbs * d.natAbs) : zmag b64 (roundRatio b64 s n.natAbs d.natAbs 0) ≤ w.natAbs * 2 ^ (1074 - k) := by
  obtain ⟨t, c, q, hv, hw⟩ := hV
  have hf := val64_fits V
  rw [hv] at hf
  have hq : -1074 ≤ q := by have := hf.2.1; rw [qmin_b64] at this; exact this
  rw [← zmag_whole hk hq hw]
  refine zmag_roundRatio_le good_b64 (e0 := -1074) (Int.natAbs_pos.mpr hd) hf (Datum.noConfusion) (by rw [qmin_b64]; exact Int.le_refl _) (by decide) ?_
  rw [zmag_whole hk hq hw, qmin_b64]
  show n.natAbs * 2 ^ (0 - -1074 : Int).toNat ≤ w.natAbs * 2 ^ (1074 - k) * 2 ^ 0 * d.natAbs
  calc n.natAbs * 2 ^ (0 - -1074 : Int).toNat = n.natAbs * 2 ^ k * 2 ^ (1074 - k) := by rw [Nat.mul_assoc, ← Nat.pow_add]; congr 2; omega
    _ ≤ w.natAbs * d.natAbs * 2 ^ (1074 - k) := Nat.mul_le_mul_right _ h
    _ = w.natAbs * 2 ^ (1074 - k) * 2 ^ 0 * d.natAbs := by rw [Nat.pow_zero, Nat.mul_one]; ac_rfl
theorem ddiv_mag_ge {n d w : Int} {k : Nat} (hk : k ≤ 1074) {V : UInt64} {s : Bool} (hd : d ≠ 0) (hV : DQ k w V) (h : w.natAbs * d.natAbs ≤ n.natAbs * 2 ^ k) : w.natAbs * 2 ^ (1074 - k) ≤ zmag b64 (roundRatio b64 s n.natAbs d.natAbs 0) := by
  obtain ⟨t, c, q, hv, hw⟩ := hV
  have hf := val64_fits V
  rw [hv] at hf
  have hq : -1074 ≤ q := by have := hf.2.1; rw [qmin_b64] at this; exact this
  rw [← zmag_whole hk hq hw]
  refine zmag_roundRatio_ge good_b64 (e0 := -1074) (Int.natAbs_pos.mpr hd) hf (by rw [qmin_b64]; exact Int.le_refl _) (by decide) ?_
  rw [zmag_whole hk hq hw, qmin_b64]
  show w.natAbs * 2 ^ (1074 - k) * 2 ^ 0 * d.natAbs ≤ n.natAbs * 2 ^ (0 - -1074 : Int).toNat
  calc w.natAbs * 2 ^ (1074 - k) * 2 ^ 0 * d.natAbs = w.natAbs * d.natAbs * 2 ^ (1074 - k) := by rw [Nat.pow_zero, Nat.mul_one]; ac_rfl
    _ ≤ n.natAbs * 2 ^ k * 2 ^ (1074 - k) := Nat.mul_le_mul_right _ h
    _ = n.natAbs * 2 ^ (0 - -1074 : Int).toNat := by rw [Nat.mul_assoc, ← Nat.pow_add]; congr 2; omega
/-- a quotient by a positive whole number lies at or below every double that the exact one lies at or below -/
theorem ddiv_le {n d w : Int} {k : Nat} (hk : k ≤ 1074) {a b V : UInt64} (ha : DInt n a) (hb : DInt d b) (hd : 0 < d) (hV : DQ k w V) (h : n * ((2 ^ k : Nat) : Int) ≤ w * d) : dz (FP.ddiv a b) ≤ dz V := by
  have hd0 : d ≠ 0 := by omega
  obtain ⟨s, hs, hsg⟩ := ddiv_round ha hb hd0
  have pk : (0 : Int) < ((2 ^ k : Nat) : Int) := by have := Nat.two_pow_pos k; omega
  rw [dz_q hk hV]
  show zval b64 (val64 (ddiv a b)) ≤ _
  unfold zval
  rw [hs, sgn_roundRatio]
  have e1 : ((w.natAbs * 2 ^ (1074 - k) : Nat) : Int) = (w.natAbs : Int) * ((2 ^ (1074 - k) : Nat) : Int) := by rw [Int.natCast_mul]
  have pU : (0 : Int) < ((2 ^ (1074 - k) : Nat) : Int) := by have := Nat.two_pow_pos (1074 - k); omega
  by_cases hn : n < 0
  · have : s = true := by rw [hsg (by omega)]; simp [hn, show ¬ d < 0 by omega]
    subst this
    show -((zmag b64 (roundRatio b64 true n.natAbs d.natAbs 0) : Nat) : Int) ≤ _
    by_cases hw : 0 ≤ w
    · have := Int.mul_nonneg hw (Int.le_of_lt pU)
      omega
    · have q := ddiv_mag_ge (s := true) hk hd0 hV (n := n) (by
        have q1 : ((w.natAbs * d.natAbs : Nat) : Int) ≤ ((n.natAbs * 2 ^ k : Nat) : Int) := by
          rw [Int.natCast_mul, Int.natCast_mul, show (w.natAbs : Int) = -w by omega, show (d.natAbs : Int) = d by omega, show (n.natAbs : Int) = -n by omega, Int.neg_mul, Int.neg_mul]
          omega
        omega)
      have q2 : w * ((2 ^ (1074 - k) : Nat) : Int) = -((w.natAbs : Int) * ((2 ^ (1074 - k) : Nat) : Int)) := by rw [show (w.natAbs : Int) = -w by omega, Int.neg_mul, Int.neg_neg]
      rw [q2]
      omega
  · have hw : 0 ≤ w := by
      refine Int.not_lt.mp fun hw => ?_
      have q1 := Int.mul_neg_of_neg_of_pos hw hd
      have q2 := Int.mul_nonneg (show 0 ≤ n by omega) (Int.le_of_lt pk)
      omega
    have q := ddiv_mag_le (s := s) hk hd0 hV (n := n) (by
      have q1 : ((n.natAbs * 2 ^ k : Nat) : Int) ≤ ((w.natAbs * d.natAbs : Nat) : Int) := by
        rw [Int.natCast_mul, Int.natCast_mul, show (w.natAbs : Int) = w by omega, show (d.natAbs : Int) = d by omega, show (n.natAbs : Int) = n by omega]
        exact h
      omega)
    have q2 : w * ((2 ^ (1074 - k) : Nat) : Int) = (w.natAbs : Int) * ((2 ^ (1074 - k) : Nat) : Int) := by rw [show (w.natAbs : Int) = w by omega]
    rw [q2]
    cases s
    · show ((zmag b64 (roundRatio b64 false n.natAbs d.natAbs 0) : Nat) : Int) ≤ _
      omega
    · show -((zmag b64 (roundRatio b64 true n.natAbs d.natAbs 0) : Nat) : Int) ≤ _
      have := Int.mul_nonneg (show 0 ≤ (w.natAbs : Int) by omega) (Int.le_of_lt pU)
      omega
theorem dz_dneg (a : UInt64) : dz (FP.dneg a) = -dz a := by unfold dz; rw [FP.val64_dneg]; exact zval_negate _ _
theorem nn_dneg {a : UInt64} (h : NoNaN64 a) : NoNaN64 (FP.dneg a) := val64_no.mpr (by rw [FP.val64_dneg]; exact negate_ne_nan (val64_no.mp h))
theorem ddiv_ge {n d w : Int} {k : Nat} (hk : k ≤ 1074) {a b V : UInt64} (ha : DInt n a) (hb : DInt d b) (hd : 0 < d) (hV : DQ k w V) (h : w * d ≤ n * ((2 ^ k : Nat) : Int)) : dz V ≤ dz (FP.ddiv a b) := by
  have q := ddiv_le hk (dneg_int ha) hb hd (dneg_q hV) (by rw [Int.neg_mul, Int.neg_mul]; omega)
  rw [show FP.ddiv (FP.Core.dneg a) b = FP.Core.dneg (ddiv a b) from ddiv_dneg a b, dz_dneg] at q
  show dz V ≤ dz (ddiv a b)
  have e : dz (FP.Core.dneg (ddiv a b)) = -dz (ddiv a b) := by unfold dz; rw [FP.Core.val64_dneg]; exact zval_negate _ _
  rw [e] at q
  omega
end Dz
end Jvm.OwnKit
namespace Jvm.OwnKit
section Num
open Jvm.RoadKit
theorem own_m {x y X Y : Int} (h1 : -X ≤ x) (h2 : x ≤ X) (h3 : -Y ≤ y) (h4 : y ≤ Y) : -(X * Y) ≤ x * y ∧ x * y ≤ X * Y := by
  have q := mc h1 h2 h3 h4
  have q1 := Int.mul_le_mul_of_nonneg_left h4 (show 0 ≤ X + x by omega)
  have q2 := Int.mul_le_mul_of_nonneg_left h4 (show 0 ≤ X - x by omega)
  have q3 := Int.mul_le_mul_of_nonneg_left h3 (show 0 ≤ X + x by omega)
  have q4 := Int.mul_le_mul_of_nonneg_left h3 (show 0 ≤ X - x by omega)
  simp only [Int.add_mul, Int.sub_mul, Int.mul_neg] at q1 q2 q3 q4
  omega
theorem own_add {x y : Int64} (h1 : -9223372036854775808 ≤ x.toInt + y.toInt) (h2 : x.toInt + y.toInt < 9223372036854775808) : (x + y).toInt = x.toInt + y.toInt := FP.Core.int64_add h1 h2
theorem own_sub {x y : Int64} (h1 : -9223372036854775808 ≤ x.toInt - y.toInt) (h2 : x.toInt - y.toInt < 9223372036854775808) : (x - y).toInt = x.toInt - y.toInt := FP.Core.int64_sub h1 h2
theorem own_mul {x y : Int64} (h1 : -9223372036854775808 ≤ x.toInt * y.toInt) (h2 : x.toInt * y.toInt < 9223372036854775808) : (x * y).toInt = x.toInt * y.toInt := FP.Core.int64_mul h1 h2
theorem own_neg {x : Int64} (h1 : -9223372036854775808 < x.toInt) : (-x).toInt = -x.toInt := FP.Core.int64_neg h1
theorem own_iadd {x y : Int32} (h1 : -2147483648 ≤ x.toInt + y.toInt) (h2 : x.toInt + y.toInt < 2147483648) : (x + y).toInt = x.toInt + y.toInt := by
  have := c_iadd x y; have := rng32 (x + y); omega
theorem own_isub {x y : Int32} (h1 : -2147483648 ≤ x.toInt - y.toInt) (h2 : x.toInt - y.toInt < 2147483648) : (x - y).toInt = x.toInt - y.toInt := by
  have := c_isub x y; have := rng32 (x - y); omega
theorem own_imul {x y : Int32} (h1 : -2147483648 ≤ x.toInt * y.toInt) (h2 : x.toInt * y.toInt < 2147483648) : (x * y).toInt = x.toInt * y.toInt := by
  have := c_imul x y; have := rng32 (x * y); omega
theorem own_ineg {x : Int32} (h1 : -2147483648 < x.toInt) : (-x).toInt = -x.toInt := by
  have := c_ineg x; have := rng32 (-x); have := rng32 x; omega
end Num
end Jvm.OwnKit
namespace Jvm.Pilot.@@N@@
open Jvm Jvm.ClassFile Sem Op Lib Jvm.Free Jvm.Stand Jvm.LawKit Jvm.RoadKit Jvm.OwnKit Bundle Jvm.Pilot.@@N@@.Jvm.D
theorem pn0 : plainName x.cls = true := by first | (simp [x, plainName, overriddenIn]; done) | decide +kernel
theorem ef0 (m : MethodId) (x0 x1 x2 x3 : Int32) : entryFrame m #[(.int x0), (.int x1), (.int x2), (.int x3)] maxLocals = mkF m 0 #[.val (.int x0), .val (.int x1), .val (.int x2), .val (.int x3), .unset, .unset, .unset, .unset, .unset, .unset, .unset, .unset, .unset] [] := by first | (simp [entryFrame, mkF, argsToLocals, Value.category, maxLocals]; done) | rfl
theorem d4_0 : decode prog_34_method_12_code 0 = .ok (.aload_n 0, 1) := by decide +kernel
theorem d4_1 : decode prog_34_method_12_code 1 = .ok (.getfield 20, 3) := by decide +kernel
theorem d4_4 : decode prog_34_method_12_code 4 = .ok (.dconst 0, 1) := by decide +kernel
theorem d4_5 : decode prog_34_method_12_code 5 = .ok (.dcmp .l, 1) := by decide +kernel
theorem d4_6 : decode prog_34_method_12_code 6 = .ok (.ifCond .le 16, 3) := by decide +kernel
theorem d4_9 : decode prog_34_method_12_code 9 = .ok (.aload_n 0, 1) := by decide +kernel
theorem d4_10 : decode prog_34_method_12_code 10 = .ok (.getfield 16, 3) := by decide +kernel
theorem d4_13 : decode prog_34_method_12_code 13 = .ok (.aload_n 0, 1) := by decide +kernel
theorem d4_14 : decode prog_34_method_12_code 14 = .ok (.getfield 20, 3) := by decide +kernel
theorem d4_17 : decode prog_34_method_12_code 17 = .ok (.ddiv, 1) := by decide +kernel
theorem d4_18 : decode prog_34_method_12_code 18 = .ok (.dstore_n 1, 1) := by decide +kernel
theorem d4_19 : decode prog_34_method_12_code 19 = .ok (.goto 30, 3) := by decide +kernel
theorem d4_22 : decode prog_34_method_12_code 22 = .ok (.aload_n 0, 1) := by decide +kernel
theorem d4_23 : decode prog_34_method_12_code 23 = .ok (.getfield 16, 3) := by decide +kernel
theorem d4_26 : decode prog_34_method_12_code 26 = .ok (.dconst 0, 1) := by decide +kernel
theorem d4_27 : decode prog_34_method_12_code 27 = .ok (.dcmp .l, 1) := by decide +kernel
theorem d4_28 : decode prog_34_method_12_code 28 = .ok (.ifCond .ne 17, 3) := by decide +kernel
theorem d4_31 : decode prog_34_method_12_code 31 = .ok (.aload_n 0, 1) := by decide +kernel
theorem d4_32 : decode prog_34_method_12_code 32 = .ok (.getfield 20, 3) := by decide +kernel
theorem d4_35 : decode prog_34_method_12_code 35 = .ok (.dconst 0, 1) := by decide +kernel
theorem d4_36 : decode prog_34_method_12_code 36 = .ok (.dcmp .l, 1) := by decide +kernel
theorem d4_37 : decode prog_34_method_12_code 37 = .ok (.ifCond .ne 8, 3) := by decide +kernel
theorem d4_40 : decode prog_34_method_12_code 40 = .ok (.dconst 1, 1) := by decide +kernel
theorem d4_41 : decode prog_34_method_12_code 41 = .ok (.dstore_n 1, 1) := by decide +kernel
theorem d4_42 : decode prog_34_method_12_code 42 = .ok (.goto 7, 3) := by decide +kernel
theorem d4_45 : decode prog_34_method_12_code 45 = .ok (.ldc2_w 63, 3) := by decide +kernel
theorem d4_48 : decode prog_34_method_12_code 48 = .ok (.dstore_n 1, 1) := by decide +kernel
theorem d4_49 : decode prog_34_method_12_code 49 = .ok (.dload_n 1, 1) := by decide +kernel
theorem d4_50 : decode prog_34_method_12_code 50 = .ok (.dreturn, 1) := by decide +kernel
theorem pnS : plainName "com/example/sitewise/sitewise/Solution" = true := by first | (simp [plainName, overriddenIn]; done) | decide +kernel
theorem pdR : parseMethodDescriptor "()D" = some ⟨[], some .double⟩ := by decide +kernel
theorem efR (m : MethodId) (a : Addr) : entryFrame m #[(.ref a)] 3 = mkF m 0 #[.val (.ref a), .unset, .unset] [] := by first | (simp [entryFrame, mkF, argsToLocals, Value.category, maxLocals]; done) | rfl
theorem own_eps : DQ 32 1 (4463067230724161536 : UInt64) := ⟨false, 2 ^ 52, -84, by decide +kernel, by show FP.Core.signed _ _ = _; decide +kernel⟩
theorem own_epn : DQ 32 (-1) (13686439267578937344 : UInt64) := ⟨true, 2 ^ 52, -84, by decide +kernel, by show FP.Core.signed _ _ = _; decide +kernel⟩
theorem own_e1 : 0 < dz (4463067230724161536 : UInt64) := by unfold dz; decide +kernel
theorem own_e2 : dz (13686439267578937344 : UInt64) < 0 := by unfold dz; decide +kernel
theorem own_z0 : dz (0 : UInt64) = 0 := by unfold dz; decide +kernel
theorem own_zq : DQ 0 0 (0 : UInt64) := ⟨false, 0, -1074, by decide +kernel, by show FP.Core.signed _ _ = _; decide +kernel⟩
theorem own_dq {n : Int} {a : UInt64} (h : FP.Core.DInt n a) : DQ 0 n a := by
  have := DQ.of_int 0 h
  rwa [show n * ((2 ^ 0 : Nat) : Int) = n by show n * 1 = n; omega] at this
def own_rat (i j : Int) (x r : UInt64) : Prop := Jvm.Free.Fl.NoNaN64 r ∧ (0 < i → 0 < dz r) ∧ (i < 0 → dz r < 0) ∧ (i = 0 → dz r = 0) ∧ (0 ≤ i → dz r ≤ dz x) ∧ (i < 0 → -dz x ≥ -dz r ∧ dz r ≤ -dz x) ∧ (0 ≤ i → -dz r ≤ dz x)
theorem own_ratio {i j : Int} {x y : UInt64} (hx : FP.Core.DInt i x) (hy : FP.Core.DInt j y) (h1 : 0 < j) (h2 : j ≤ 2147483648) (b : -2147483648 ≤ i ∧ i ≤ 2147483648) : own_rat i j x (FP.ddiv x y) := by
  have m1 : i < 0 ∨ i ≤ i * j := by
    by_cases q : i < 0
    · exact Or.inl q
    · have := Int.mul_le_mul_of_nonneg_left (show 1 ≤ j by omega) (show 0 ≤ i by omega); omega
  have m2 : 0 ≤ i ∨ i * j ≤ i := by
    by_cases q : 0 ≤ i
    · exact Or.inl q
    · have := Int.mul_le_mul_of_nonpos_left (show i ≤ 0 by omega) (show 1 ≤ j by omega); omega
  have z0 := own_z0
  have nx := dz_dneg x
  refine ⟨ddiv_nn hx hy (by omega), fun q => ?_, fun q => ?_, fun q => ?_, fun q => ?_, fun q => ⟨?_, ?_⟩, fun q => ?_⟩
  · have := ddiv_ge (by decide) hx hy h1 own_eps (by show 1 * j ≤ i * 4294967296; omega); have := own_e1; omega
  · have := ddiv_le (by decide) hx hy h1 own_epn (by show i * 4294967296 ≤ -1 * j; omega); have := own_e2; omega
  · have a1 := ddiv_ge (by decide) hx hy h1 own_zq (by show 0 * j ≤ i * 1; omega)
    have a2 := ddiv_le (by decide) hx hy h1 own_zq (by show i * 1 ≤ 0 * j; omega)
    omega
  · have := ddiv_le (by decide) hx hy h1 (own_dq hx) (by show i * 1 ≤ i * j; omega); omega
  · have := ddiv_ge (by decide) hx hy h1 (own_dq hx) (by show i * j ≤ i * 1; omega); omega
  · have := ddiv_le (by decide) hx hy h1 own_zq (by show i * 1 ≤ 0 * j; omega)
    have := dz_int hx
    have o1 : (0 : Int) < (FP.Core.one64 : Int) := by have := FP.Core.one64_pos; omega
    have := Int.mul_neg_of_neg_of_pos q o1
    omega
  · have := ddiv_ge (by decide) hx hy h1 own_zq (by show 0 * j ≤ i * 1; omega)
    have := dz_int hx
    have o1 : (0 : Int) ≤ (FP.Core.one64 : Int) := by omega
    have := Int.mul_nonneg q o1
    omega
set_option maxRecDepth 65536 in
set_option maxHeartbeats 40000000 in
theorem c_ratE (l : Launch) (Z : State) (a0 : Array Value) (hw : ∀ d ∈ tables_1, d.before a0 Z = true) (h : Heap) (a : Addr) (x y : UInt64) (i j : Int) (Dx : FP.Core.DInt i x) (Dy : FP.Core.DInt j y) (F1 : Fld Z h a "com/example/sitewise/sitewise/Solution" "cost" "D" (.double x)) (F2 : Fld Z h a "com/example/sitewise/sitewise/Solution" "lowerBound" "D" (.double y)) (k : Int) (hk : i = k * j) (hj : 0 < j) (bk : -2147483648 ≤ k ∧ k ≤ 2147483648) :
    Con l Z (⟨"com/example/sitewise/sitewise/Solution", "ratio", "()D"⟩ : MethodName) prog_34_method_12_code 3 (some .double) ⟨0, 0, 0, 0⟩ #[.ref a] h (fun v h' L => ∃ r : UInt64, v = some (.double r) ∧ FP.Core.DInt k r ∧ L = [] ∧ h' = h) := by
  refine con_of_go pnS (fun m => efR m a) ?_
  intro p e s m below meth c T0 C X0 e0
  refine g_aloadN C X0 (pc' := 1) d4_0 rfl rfl rfl ?_
  refine g_getF C X0 (host := "") (Or.inl (hw _ (List.mem_of_getElem? (i := 24) rfl))) Via.refl e0 F2 d4_1 rfl ?_
  intro T1 X1 e1
  refine g_dconst0 C X1 (pc' := 5) d4_4 rfl rfl ?_
  refine g_dcmpV C X1 (pc' := 6) d4_5 (dcmp_cmpI Dy dint_zero _) rfl ?_
  refine g_if C X1 d4_6 (pc' := 22) (pc'' := 9) (by decide) (by decide) rfl (fun c6 => ?_) (fun c6 => ?_)
  · have c6 : ¬ (0 < (cmpI j 0).toInt) := c6
    have c6 : ¬ (0 < j) := fun q => c6 ((cmpI_gt _ _).mpr q)
    exfalso; omega
  · have c6 : 0 < (cmpI j 0).toInt := Decidable.not_not.mp c6
    have c6 : 0 < j := (cmpI_gt _ _).mp c6
    refine g_aloadN C X1 (pc' := 10) d4_9 rfl rfl rfl ?_
    refine g_getF C X1 (host := "") (Or.inl (hw _ (List.mem_of_getElem? (i := 22) rfl))) Via.refl e1 F1 d4_10 rfl ?_
    intro T2 X2 e2
    refine g_aloadN C X2 (pc' := 14) d4_13 rfl rfl rfl ?_
    refine g_getF C X2 (host := "") (Or.inl (hw _ (List.mem_of_getElem? (i := 24) rfl))) Via.refl e2 F2 d4_14 rfl ?_
    intro T3 X3 e3
    have Dr : FP.Core.DInt k (FP.ddiv x y) := ddiv_int Dx Dy (by omega) hk (by show _ ≤ 9007199254740992; omega)
    refine g_ddiv C X3 (pc' := 18) d4_17 (nn_of_int Dr) rfl ?_
    obtain ⟨d1, e_d1⟩ : ∃ z : UInt64, z = FP.ddiv x y := ⟨_, rfl⟩
    rw [← e_d1]
    rw [← e_d1] at Dr
    refine g_dstoreN C X3 (pc' := 19) d4_18 (x := d1) rfl (l' := #[.val (.ref a), .val (.double d1), .second]) rfl rfl ?_
    refine g_goto C X3 d4_19 (pc' := 49) (by decide) (by decide) ?_
    refine g_dloadN C X3 (pc' := 50) d4_49 rfl rfl ?_
    exact g_dreturn C X3 d4_50 ⟨_, rfl, Dr, rfl, e3⟩ (by decide) (by decide)
set_option maxRecDepth 65536 in
set_option maxHeartbeats 40000000 in
theorem c_ratG (l : Launch) (Z : State) (a0 : Array Value) (hw : ∀ d ∈ tables_1, d.before a0 Z = true) (h : Heap) (a : Addr) (x y : UInt64) (i j : Int) (Dx : FP.Core.DInt i x) (Dy : FP.Core.DInt j y) (F1 : Fld Z h a "com/example/sitewise/sitewise/Solution" "cost" "D" (.double x)) (F2 : Fld Z h a "com/example/sitewise/sitewise/Solution" "lowerBound" "D" (.double y)) (bi : -2147483648 ≤ i ∧ i ≤ 2147483648) (bj : -2147483648 ≤ j ∧ j ≤ 2147483648) :
    Con l Z (⟨"com/example/sitewise/sitewise/Solution", "ratio", "()D"⟩ : MethodName) prog_34_method_12_code 3 (some .double) ⟨0, 0, 0, 0⟩ #[.ref a] h (fun v h' L => ∃ r : UInt64, v = some (.double r) ∧ ((0 < j ∧ own_rat i j x r) ∨ (j = 0 ∧ i = 0 ∧ r = FP.dconst1) ∨ (¬ 0 < j ∧ ¬ (j = 0 ∧ i = 0) ∧ r = (9221120237041090560 : UInt64))) ∧ L = [] ∧ h' = h) := by
  refine con_of_go pnS (fun m => efR m a) ?_
  intro p e s m below meth c T0 C X0 e0
  refine g_aloadN C X0 (pc' := 1) d4_0 rfl rfl rfl ?_
  refine g_getF C X0 (host := "") (Or.inl (hw _ (List.mem_of_getElem? (i := 24) rfl))) Via.refl e0 F2 d4_1 rfl ?_
  intro T1 X1 e1
  refine g_dconst0 C X1 (pc' := 5) d4_4 rfl rfl ?_
  refine g_dcmpV C X1 (pc' := 6) d4_5 (dcmp_cmpI Dy dint_zero _) rfl ?_
  refine g_if C X1 d4_6 (pc' := 22) (pc'' := 9) (by decide) (by decide) rfl (fun c6 => ?_) (fun c6 => ?_)
  · have c6 : ¬ (0 < (cmpI j 0).toInt) := c6
    have c6 : ¬ (0 < j) := fun q => c6 ((cmpI_gt _ _).mpr q)
    refine g_aloadN C X1 (pc' := 23) d4_22 rfl rfl rfl ?_
    refine g_getF C X1 (host := "") (Or.inl (hw _ (List.mem_of_getElem? (i := 22) rfl))) Via.refl e1 F1 d4_23 rfl ?_
    intro T2 X2 e2
    refine g_dconst0 C X2 (pc' := 27) d4_26 rfl rfl ?_
    refine g_dcmpV C X2 (pc' := 28) d4_27 (dcmp_cmpI Dx dint_zero _) rfl ?_
    refine g_if C X2 d4_28 (pc' := 45) (pc'' := 31) (by decide) (by decide) rfl (fun c28 => ?_) (fun c28 => ?_)
    · have c28 : ¬ ((cmpI i 0).toInt = 0) := c28
      have c28 : ¬ (i = 0) := fun q => c28 ((cmpI_eq _ _).mpr q)
      refine g_ldc2D C X2 (pc' := 48) (hw _ (List.mem_of_getElem? (i := 35) rfl)) d4_45 rfl ?_
      refine g_dstoreN C X2 (pc' := 49) d4_48 (x := (9221120237041090560 : UInt64)) rfl (l' := #[.val (.ref a), .val (.double (9221120237041090560 : UInt64)), .second]) rfl rfl ?_
      refine g_dloadN C X2 (pc' := 50) d4_49 rfl rfl ?_
      exact g_dreturn C X2 d4_50 ⟨_, rfl, Or.inr (Or.inr ⟨by omega, by omega, rfl⟩), rfl, e2⟩ (by decide) (by decide)
    · have c28 : (cmpI i 0).toInt = 0 := Decidable.not_not.mp c28
      have c28 : i = 0 := (cmpI_eq _ _).mp c28
      refine g_aloadN C X2 (pc' := 32) d4_31 rfl rfl rfl ?_
      refine g_getF C X2 (host := "") (Or.inl (hw _ (List.mem_of_getElem? (i := 24) rfl))) Via.refl e2 F2 d4_32 rfl ?_
      intro T3 X3 e3
      refine g_dconst0 C X3 (pc' := 36) d4_35 rfl rfl ?_
      refine g_dcmpV C X3 (pc' := 37) d4_36 (dcmp_cmpI Dy dint_zero _) rfl ?_
      refine g_if C X3 d4_37 (pc' := 45) (pc'' := 40) (by decide) (by decide) rfl (fun c37 => ?_) (fun c37 => ?_)
      · have c37 : ¬ ((cmpI j 0).toInt = 0) := c37
        have c37 : ¬ (j = 0) := fun q => c37 ((cmpI_eq _ _).mpr q)
        refine g_ldc2D C X3 (pc' := 48) (hw _ (List.mem_of_getElem? (i := 35) rfl)) d4_45 rfl ?_
        refine g_dstoreN C X3 (pc' := 49) d4_48 (x := (9221120237041090560 : UInt64)) rfl (l' := #[.val (.ref a), .val (.double (9221120237041090560 : UInt64)), .second]) rfl rfl ?_
        refine g_dloadN C X3 (pc' := 50) d4_49 rfl rfl ?_
        exact g_dreturn C X3 d4_50 ⟨_, rfl, Or.inr (Or.inr ⟨by omega, by omega, rfl⟩), rfl, e3⟩ (by decide) (by decide)
      · have c37 : (cmpI j 0).toInt = 0 := Decidable.not_not.mp c37
        have c37 : j = 0 := (cmpI_eq _ _).mp c37
        refine g_dconst1 C X3 (pc' := 41) d4_40 rfl rfl ?_
        refine g_dstoreN C X3 (pc' := 42) d4_41 (x := FP.dconst1) rfl (l' := #[.val (.ref a), .val (.double FP.dconst1), .second]) rfl rfl ?_
        refine g_goto C X3 d4_42 (pc' := 49) (by decide) (by decide) ?_
        refine g_dloadN C X3 (pc' := 50) d4_49 rfl rfl ?_
        exact g_dreturn C X3 d4_50 ⟨_, rfl, Or.inr (Or.inl ⟨by omega, by omega, rfl⟩), rfl, e3⟩ (by decide) (by decide)
  · have c6 : 0 < (cmpI j 0).toInt := Decidable.not_not.mp c6
    have c6 : 0 < j := (cmpI_gt _ _).mp c6
    refine g_aloadN C X1 (pc' := 10) d4_9 rfl rfl rfl ?_
    refine g_getF C X1 (host := "") (Or.inl (hw _ (List.mem_of_getElem? (i := 22) rfl))) Via.refl e1 F1 d4_10 rfl ?_
    intro T4 X4 e4
    refine g_aloadN C X4 (pc' := 14) d4_13 rfl rfl rfl ?_
    refine g_getF C X4 (host := "") (Or.inl (hw _ (List.mem_of_getElem? (i := 24) rfl))) Via.refl e4 F2 d4_14 rfl ?_
    intro T5 X5 e5
    have Rr := own_ratio Dx Dy c6 bj.2 bi
    refine g_ddiv C X5 (pc' := 18) d4_17 Rr.1 rfl ?_
    obtain ⟨d1, e_d1⟩ : ∃ z : UInt64, z = FP.ddiv x y := ⟨_, rfl⟩
    rw [← e_d1]
    rw [← e_d1] at Rr
    refine g_dstoreN C X5 (pc' := 19) d4_18 (x := d1) rfl (l' := #[.val (.ref a), .val (.double d1), .second]) rfl rfl ?_
    refine g_goto C X5 d4_19 (pc' := 49) (by decide) (by decide) ?_
    refine g_dloadN C X5 (pc' := 50) d4_49 rfl rfl ?_
    exact g_dreturn C X5 d4_50 ⟨_, rfl, Or.inl ⟨by omega, Rr⟩, rfl, e5⟩ (by decide) (by decide)
theorem own_c0 {a : UInt64} (h : Jvm.Free.Fl.NoNaN64 a) (o : CmpOp) : cmpValue (FP.dcmp a (0 : UInt64)) o = cmpI (dz a) 0 := by rw [dcmp_dz h (nn_of_q own_zq), own_z0]
theorem own_cn {a b : UInt64} (h : Jvm.Free.Fl.NoNaN64 a) (hb : Jvm.Free.Fl.NoNaN64 b) (o : CmpOp) : cmpValue (FP.dcmp (FP.dneg a) b) o = cmpI (-dz a) (dz b) := by rw [dcmp_dz (nn_dneg h) hb, dz_dneg]
theorem own_self {a : UInt64} (h : Jvm.Free.Fl.NoNaN64 a) (o : CmpOp) : cmpValue (FP.dcmp a a) o = (0 : Int32) := (dcmp_dz h h o).trans (cmpI_self _)
theorem d1_0 : decode prog_34_method_1_code 0 = .ok (.aload_n 0, 1) := by decide +kernel
theorem d1_1 : decode prog_34_method_1_code 1 = .ok (.aload_n 1, 1) := by decide +kernel
theorem d1_2 : decode prog_34_method_1_code 2 = .ok (.dload_n 2, 1) := by decide +kernel
theorem d1_3 : decode prog_34_method_1_code 3 = .ok (.dload 4, 2) := by decide +kernel
theorem d1_5 : decode prog_34_method_1_code 5 = .ok (.aload 6, 2) := by decide +kernel
theorem d1_7 : decode prog_34_method_1_code 7 = .ok (.aconst_null, 1) := by decide +kernel
theorem d1_8 : decode prog_34_method_1_code 8 = .ok (.invokespecial 1, 3) := by decide +kernel
theorem d1_11 : decode prog_34_method_1_code 11 = .ok (.return_, 1) := by decide +kernel
theorem d2_0 : decode prog_34_method_2_code 0 = .ok (.aload_n 0, 1) := by decide +kernel
theorem d2_1 : decode prog_34_method_2_code 1 = .ok (.invokespecial 7, 3) := by decide +kernel
theorem d2_4 : decode prog_34_method_2_code 4 = .ok (.aload_n 0, 1) := by decide +kernel
theorem d2_5 : decode prog_34_method_2_code 5 = .ok (.aload_n 1, 1) := by decide +kernel
theorem d2_6 : decode prog_34_method_2_code 6 = .ok (.putfield 12, 3) := by decide +kernel
theorem d2_9 : decode prog_34_method_2_code 9 = .ok (.aload_n 0, 1) := by decide +kernel
theorem d2_10 : decode prog_34_method_2_code 10 = .ok (.dload_n 2, 1) := by decide +kernel
theorem d2_11 : decode prog_34_method_2_code 11 = .ok (.putfield 16, 3) := by decide +kernel
theorem d2_14 : decode prog_34_method_2_code 14 = .ok (.aload_n 0, 1) := by decide +kernel
theorem d2_15 : decode prog_34_method_2_code 15 = .ok (.dload 4, 2) := by decide +kernel
theorem d2_17 : decode prog_34_method_2_code 17 = .ok (.putfield 20, 3) := by decide +kernel
theorem d2_20 : decode prog_34_method_2_code 20 = .ok (.aload_n 0, 1) := by decide +kernel
theorem d2_21 : decode prog_34_method_2_code 21 = .ok (.aload 6, 2) := by decide +kernel
theorem d2_23 : decode prog_34_method_2_code 23 = .ok (.putfield 23, 3) := by decide +kernel
theorem d2_26 : decode prog_34_method_2_code 26 = .ok (.aload_n 0, 1) := by decide +kernel
theorem d2_27 : decode prog_34_method_2_code 27 = .ok (.aload 7, 2) := by decide +kernel
theorem d2_29 : decode prog_34_method_2_code 29 = .ok (.putfield 27, 3) := by decide +kernel
theorem d2_32 : decode prog_34_method_2_code 32 = .ok (.return_, 1) := by decide +kernel
theorem kk_0 (m : MethodId) (x0 : Addr) (x2 : UInt64) (x3 : UInt64) (x4 : Addr) : entryFrame m #[(.ref x0), .null, (.double x2), (.double x3), (.ref x4), .null] 8 = mkF m 0 #[.val (.ref x0), .val .null, .val (.double x2), .second, .val (.double x3), .second, .val (.ref x4), .val .null] [] := by first | (simp [entryFrame, mkF, argsToLocals, Value.category]; done) | rfl
theorem kk_1 : plainName "com/example/sitewise/sitewise/Solution" = true := by first | (simp [plainName, overriddenIn]; done) | decide +kernel
set_option maxRecDepth 65536 in
set_option maxHeartbeats 40000000 in
theorem k1_init (l : Launch) (Z : State) (a0 : Array Value) (hw : ∀ d ∈ tables_1, d.before a0 Z = true) (h : Heap) (n0 : Nat) (Z0 : n0 ≤ h.size) (qa1 : Addr) (qd1 : UInt64) (qz1 : Int) (qd2 : UInt64) (qz2 : Int) (qa2 : Addr) (z_qa1 : n0 ≤ qa1) (D_qd1 : FP.Core.DInt qz1 qd1) (B_qd1 : -2147483648 ≤ qz1 ∧ qz1 ≤ 2147483647) (D_qd2 : FP.Core.DInt qz2 qd2) (B_qd2 : -2147483648 ≤ qz2 ∧ qz2 ≤ 2147483647) (H1 : Exa Z h qa1 "com/example/sitewise/sitewise/Solution") (H2 : Fld Z h qa1 "com/example/sitewise/sitewise/Solution" "plan" "Lcom/example/sitewise/sitewise/Plan;" .null) (H3 : Fld Z h qa1 "com/example/sitewise/sitewise/Solution" "cost" "D" (.double (0 : UInt64))) (H4 : Fld Z h qa1 "com/example/sitewise/sitewise/Solution" "lowerBound" "D" (.double (0 : UInt64))) (H5 : Fld Z h qa1 "com/example/sitewise/sitewise/Solution" "guarantee" "Ljava/lang/String;" .null) (H6 : Fld Z h qa1 "com/example/sitewise/sitewise/Solution" "alpha" "[D" .null) :
    Con l Z (⟨"com/example/sitewise/sitewise/Solution", "<init>", "(Lcom/example/sitewise/sitewise/Plan;DDLjava/lang/String;[D)V"⟩ : MethodName) prog_34_method_2_code 8 none ⟨1, 0, 0, 12⟩ #[(.ref qa1), .null, (.double qd1), (.double qd2), (.ref qa2), .null] h (fun v h' L => v = none ∧ Fr n0 L ∧ Keep h h' [qa1] ∧ Exa Z h' qa1 "com/example/sitewise/sitewise/Solution" ∧ Fld Z h' qa1 "com/example/sitewise/sitewise/Solution" "plan" "Lcom/example/sitewise/sitewise/Plan;" .null ∧ Fld Z h' qa1 "com/example/sitewise/sitewise/Solution" "cost" "D" (.double qd1) ∧ Fld Z h' qa1 "com/example/sitewise/sitewise/Solution" "lowerBound" "D" (.double qd2) ∧ Fld Z h' qa1 "com/example/sitewise/sitewise/Solution" "guarantee" "Ljava/lang/String;" (.ref qa2) ∧ Fld Z h' qa1 "com/example/sitewise/sitewise/Solution" "alpha" "[D" .null) := by
  refine con_of_go kk_1 (fun m => kk_0 m qa1 qd1 qd2 qa2) ?_
  intro p e s m below meth c T0 C X0 e0
  refine g_aloadN C X0 (pc' := 1) d2_0 rfl rfl rfl ?_
  refine g_initO C X0 (hw _ (List.mem_of_getElem? (i := 17) rfl)) (hw _ (List.mem_of_getElem? (i := 18) rfl)) (hw _ (List.mem_of_getElem? (i := 19) rfl)) e0 d2_1 rfl 0 rfl (by decide) (by decide) rfl ?_
  intro T1 X1 e1
  refine g_aloadN C X1 (pc' := 5) d2_4 rfl rfl rfl ?_
  refine g_aloadN C X1 (pc' := 6) d2_5 rfl rfl rfl ?_
  refine g_putF C X1 (host := "") (Or.inl (hw _ (List.mem_of_getElem? (i := 20) rfl))) Via.refl e1 H2 H1 (Or.inr ⟨(hw _ (List.mem_of_getElem? (i := 21) rfl)), rfl, rfl⟩) (hw _ (List.mem_of_getElem? (i := 1) rfl)) (ty := (.object "com/example/sitewise/sitewise/Plan")) (by decide) rfl rfl d2_6 rfl ?_
  intro T2 h2 X2 e2 W2
  have H1 := H1.wr W2
  have H2 := H2.same W2
  have H3 := H3.other W2 (Or.inr (slot_ne (Or.inr (hw _ (List.mem_of_getElem? (i := 23) rfl))) (Or.inr (hw _ (List.mem_of_getElem? (i := 21) rfl))) (by decide) rfl rfl))
  have H4 := H4.other W2 (Or.inr (slot_ne (Or.inr (hw _ (List.mem_of_getElem? (i := 25) rfl))) (Or.inr (hw _ (List.mem_of_getElem? (i := 21) rfl))) (by decide) rfl rfl))
  have H5 := H5.other W2 (Or.inr (slot_ne (Or.inr (hw _ (List.mem_of_getElem? (i := 27) rfl))) (Or.inr (hw _ (List.mem_of_getElem? (i := 21) rfl))) (by decide) rfl rfl))
  have H6 := H6.other W2 (Or.inr (slot_ne (Or.inr (hw _ (List.mem_of_getElem? (i := 29) rfl))) (Or.inr (hw _ (List.mem_of_getElem? (i := 21) rfl))) (by decide) rfl rfl))
  have Z2 : n0 ≤ h2.size := by rw [W2.size]; exact Z0
  have N2 := Fr.snoc X2 (Fr.nil n0) z_qa1
  have P2 := (Keep.refl h [qa1]).wr W2 (Or.inl (List.mem_of_getElem? (i := 0) rfl))
  refine g_aloadN C X2 (pc' := 10) d2_9 rfl rfl rfl ?_
  refine g_dloadN C X2 (pc' := 11) d2_10 rfl rfl ?_
  refine g_putF C X2 (host := "") (Or.inl (hw _ (List.mem_of_getElem? (i := 22) rfl))) Via.refl e2 H3 H1 (Or.inr ⟨(hw _ (List.mem_of_getElem? (i := 23) rfl)), rfl, rfl⟩) (hw _ (List.mem_of_getElem? (i := 1) rfl)) (ty := .double) (by decide) rfl rfl d2_11 rfl ?_
  intro T3 h3 X3 e3 W3
  have H1 := H1.wr W3
  have H2 := H2.other W3 (Or.inr (slot_ne (Or.inr (hw _ (List.mem_of_getElem? (i := 21) rfl))) (Or.inr (hw _ (List.mem_of_getElem? (i := 23) rfl))) (by decide) rfl rfl))
  have H3 := H3.same W3
  have H4 := H4.other W3 (Or.inr (slot_ne (Or.inr (hw _ (List.mem_of_getElem? (i := 25) rfl))) (Or.inr (hw _ (List.mem_of_getElem? (i := 23) rfl))) (by decide) rfl rfl))
  have H5 := H5.other W3 (Or.inr (slot_ne (Or.inr (hw _ (List.mem_of_getElem? (i := 27) rfl))) (Or.inr (hw _ (List.mem_of_getElem? (i := 23) rfl))) (by decide) rfl rfl))
  have H6 := H6.other W3 (Or.inr (slot_ne (Or.inr (hw _ (List.mem_of_getElem? (i := 29) rfl))) (Or.inr (hw _ (List.mem_of_getElem? (i := 23) rfl))) (by decide) rfl rfl))
  have Z3 : n0 ≤ h3.size := by rw [W3.size]; exact Z2
  have N3 := Fr.snoc X3 N2 z_qa1
  have P3 := P2.wr W3 (Or.inl (List.mem_of_getElem? (i := 0) rfl))
  refine g_aloadN C X3 (pc' := 15) d2_14 rfl rfl rfl ?_
  refine g_dload C X3 (pc' := 17) d2_15 rfl rfl ?_
  refine g_putF C X3 (host := "") (Or.inl (hw _ (List.mem_of_getElem? (i := 24) rfl))) Via.refl e3 H4 H1 (Or.inr ⟨(hw _ (List.mem_of_getElem? (i := 25) rfl)), rfl, rfl⟩) (hw _ (List.mem_of_getElem? (i := 1) rfl)) (ty := .double) (by decide) rfl rfl d2_17 rfl ?_
  intro T4 h4 X4 e4 W4
  have H1 := H1.wr W4
  have H2 := H2.other W4 (Or.inr (slot_ne (Or.inr (hw _ (List.mem_of_getElem? (i := 21) rfl))) (Or.inr (hw _ (List.mem_of_getElem? (i := 25) rfl))) (by decide) rfl rfl))
  have H3 := H3.other W4 (Or.inr (slot_ne (Or.inr (hw _ (List.mem_of_getElem? (i := 23) rfl))) (Or.inr (hw _ (List.mem_of_getElem? (i := 25) rfl))) (by decide) rfl rfl))
  have H4 := H4.same W4
  have H5 := H5.other W4 (Or.inr (slot_ne (Or.inr (hw _ (List.mem_of_getElem? (i := 27) rfl))) (Or.inr (hw _ (List.mem_of_getElem? (i := 25) rfl))) (by decide) rfl rfl))
  have H6 := H6.other W4 (Or.inr (slot_ne (Or.inr (hw _ (List.mem_of_getElem? (i := 29) rfl))) (Or.inr (hw _ (List.mem_of_getElem? (i := 25) rfl))) (by decide) rfl rfl))
  have Z4 : n0 ≤ h4.size := by rw [W4.size]; exact Z3
  have N4 := Fr.snoc X4 N3 z_qa1
  have P4 := P3.wr W4 (Or.inl (List.mem_of_getElem? (i := 0) rfl))
  refine g_aloadN C X4 (pc' := 21) d2_20 rfl rfl rfl ?_
  refine g_aload C X4 (pc' := 23) d2_21 rfl rfl rfl ?_
  refine g_putF C X4 (host := "") (Or.inl (hw _ (List.mem_of_getElem? (i := 26) rfl))) Via.refl e4 H5 H1 (Or.inr ⟨(hw _ (List.mem_of_getElem? (i := 27) rfl)), rfl, rfl⟩) (hw _ (List.mem_of_getElem? (i := 1) rfl)) (ty := (.object "java/lang/String")) (by decide) rfl rfl d2_23 rfl ?_
  intro T5 h5 X5 e5 W5
  have H1 := H1.wr W5
  have H2 := H2.other W5 (Or.inr (slot_ne (Or.inr (hw _ (List.mem_of_getElem? (i := 21) rfl))) (Or.inr (hw _ (List.mem_of_getElem? (i := 27) rfl))) (by decide) rfl rfl))
  have H3 := H3.other W5 (Or.inr (slot_ne (Or.inr (hw _ (List.mem_of_getElem? (i := 23) rfl))) (Or.inr (hw _ (List.mem_of_getElem? (i := 27) rfl))) (by decide) rfl rfl))
  have H4 := H4.other W5 (Or.inr (slot_ne (Or.inr (hw _ (List.mem_of_getElem? (i := 25) rfl))) (Or.inr (hw _ (List.mem_of_getElem? (i := 27) rfl))) (by decide) rfl rfl))
  have H5 := H5.same W5
  have H6 := H6.other W5 (Or.inr (slot_ne (Or.inr (hw _ (List.mem_of_getElem? (i := 29) rfl))) (Or.inr (hw _ (List.mem_of_getElem? (i := 27) rfl))) (by decide) rfl rfl))
  have Z5 : n0 ≤ h5.size := by rw [W5.size]; exact Z4
  have N5 := Fr.snoc X5 N4 z_qa1
  have P5 := P4.wr W5 (Or.inl (List.mem_of_getElem? (i := 0) rfl))
  refine g_aloadN C X5 (pc' := 27) d2_26 rfl rfl rfl ?_
  refine g_aload C X5 (pc' := 29) d2_27 rfl rfl rfl ?_
  refine g_putF C X5 (host := "") (Or.inl (hw _ (List.mem_of_getElem? (i := 28) rfl))) Via.refl e5 H6 H1 (Or.inr ⟨(hw _ (List.mem_of_getElem? (i := 29) rfl)), rfl, rfl⟩) (hw _ (List.mem_of_getElem? (i := 1) rfl)) (ty := (.array .double)) (by decide) rfl rfl d2_29 rfl ?_
  intro T6 h6 X6 e6 W6
  have H1 := H1.wr W6
  have H2 := H2.other W6 (Or.inr (slot_ne (Or.inr (hw _ (List.mem_of_getElem? (i := 21) rfl))) (Or.inr (hw _ (List.mem_of_getElem? (i := 29) rfl))) (by decide) rfl rfl))
  have H3 := H3.other W6 (Or.inr (slot_ne (Or.inr (hw _ (List.mem_of_getElem? (i := 23) rfl))) (Or.inr (hw _ (List.mem_of_getElem? (i := 29) rfl))) (by decide) rfl rfl))
  have H4 := H4.other W6 (Or.inr (slot_ne (Or.inr (hw _ (List.mem_of_getElem? (i := 25) rfl))) (Or.inr (hw _ (List.mem_of_getElem? (i := 29) rfl))) (by decide) rfl rfl))
  have H5 := H5.other W6 (Or.inr (slot_ne (Or.inr (hw _ (List.mem_of_getElem? (i := 27) rfl))) (Or.inr (hw _ (List.mem_of_getElem? (i := 29) rfl))) (by decide) rfl rfl))
  have H6 := H6.same W6
  have Z6 : n0 ≤ h6.size := by rw [W6.size]; exact Z5
  have N6 := Fr.snoc X6 N5 z_qa1
  have P6 := P5.wr W6 (Or.inl (List.mem_of_getElem? (i := 0) rfl))
  exact g_return C X6 d2_32 (⟨rfl, N6, by rw [e6]; exact P6, by rw [e6]; exact H1, by rw [e6]; exact H2, by rw [e6]; exact H3, by rw [e6]; exact H4, by rw [e6]; exact H5, by rw [e6]; exact H6⟩) (by decide) (by decide)
theorem kk_2 : parseMethodDescriptor "(Lcom/example/sitewise/sitewise/Plan;DDLjava/lang/String;[D)V" = some ⟨[(.object "com/example/sitewise/sitewise/Plan"), .double, .double, (.object "java/lang/String"), (.array .double)], none⟩ := by decide +kernel
theorem kk_3 (m : MethodId) (x0 : Addr) (x2 : UInt64) (x3 : UInt64) (x4 : Addr) : entryFrame m #[(.ref x0), .null, (.double x2), (.double x3), (.ref x4)] 7 = mkF m 0 #[.val (.ref x0), .val .null, .val (.double x2), .second, .val (.double x3), .second, .val (.ref x4)] [] := by first | (simp [entryFrame, mkF, argsToLocals, Value.category]; done) | rfl
set_option maxRecDepth 65536 in
set_option maxHeartbeats 40000000 in
theorem k2_init (l : Launch) (Z : State) (a0 : Array Value) (hw : ∀ d ∈ tables_1, d.before a0 Z = true) (h : Heap) (n0 : Nat) (Z0 : n0 ≤ h.size) (qa1 : Addr) (qd1 : UInt64) (qz1 : Int) (qd2 : UInt64) (qz2 : Int) (qa2 : Addr) (z_qa1 : n0 ≤ qa1) (D_qd1 : FP.Core.DInt qz1 qd1) (B_qd1 : -2147483648 ≤ qz1 ∧ qz1 ≤ 2147483647) (D_qd2 : FP.Core.DInt qz2 qd2) (B_qd2 : -2147483648 ≤ qz2 ∧ qz2 ≤ 2147483647) (H1 : Exa Z h qa1 "com/example/sitewise/sitewise/Solution") (H2 : Fld Z h qa1 "com/example/sitewise/sitewise/Solution" "plan" "Lcom/example/sitewise/sitewise/Plan;" .null) (H3 : Fld Z h qa1 "com/example/sitewise/sitewise/Solution" "cost" "D" (.double (0 : UInt64))) (H4 : Fld Z h qa1 "com/example/sitewise/sitewise/Solution" "lowerBound" "D" (.double (0 : UInt64))) (H5 : Fld Z h qa1 "com/example/sitewise/sitewise/Solution" "guarantee" "Ljava/lang/String;" .null) (H6 : Fld Z h qa1 "com/example/sitewise/sitewise/Solution" "alpha" "[D" .null) :
    Con l Z (⟨"com/example/sitewise/sitewise/Solution", "<init>", "(Lcom/example/sitewise/sitewise/Plan;DDLjava/lang/String;)V"⟩ : MethodName) prog_34_method_1_code 7 none ⟨2, 0, 0, 31⟩ #[(.ref qa1), .null, (.double qd1), (.double qd2), (.ref qa2)] h (fun v h' L => v = none ∧ Fr n0 L ∧ Keep h h' [qa1] ∧ Exa Z h' qa1 "com/example/sitewise/sitewise/Solution" ∧ Fld Z h' qa1 "com/example/sitewise/sitewise/Solution" "plan" "Lcom/example/sitewise/sitewise/Plan;" .null ∧ Fld Z h' qa1 "com/example/sitewise/sitewise/Solution" "cost" "D" (.double qd1) ∧ Fld Z h' qa1 "com/example/sitewise/sitewise/Solution" "lowerBound" "D" (.double qd2) ∧ Fld Z h' qa1 "com/example/sitewise/sitewise/Solution" "guarantee" "Ljava/lang/String;" (.ref qa2) ∧ Fld Z h' qa1 "com/example/sitewise/sitewise/Solution" "alpha" "[D" .null) := by
  refine con_of_go kk_1 (fun m => kk_3 m qa1 qd1 qd2 qa2) ?_
  intro p e s m below meth c T0 C X0 e0
  refine g_aloadN C X0 (pc' := 1) d1_0 rfl rfl rfl ?_
  refine g_aloadN C X0 (pc' := 2) d1_1 rfl rfl rfl ?_
  refine g_dloadN C X0 (pc' := 3) d1_2 rfl rfl ?_
  refine g_dload C X0 (pc' := 5) d1_3 rfl rfl ?_
  refine g_aload C X0 (pc' := 7) d1_5 rfl rfl rfl ?_
  refine g_aconstNull C X0 (pc' := 8) d1_7 rfl ?_
  refine g_callI C X0 (k1_init l Z a0 hw h n0 Z0 qa1 qd1 qz1 qd2 qz2 qa2 z_qa1  D_qd1 B_qd1 D_qd2 B_qd2 H1 H2 H3 H4 H5 H6) rfl (hw _ (List.mem_of_getElem? (i := 14) rfl)) (hw _ (List.mem_of_getElem? (i := 15) rfl)) (hw _ (List.mem_of_getElem? (i := 2) rfl)) (hw _ (List.mem_of_getElem? (i := 16) rfl)) (by decide) e0 d1_8 rfl kk_2 qa1 [.null, (.double qd1), (.double qd2), (.ref qa2), .null] [] rfl rfl rfl 0 rfl (by decide) (by decide) (by decide) (by decide) rfl ?_
  rintro _ T1 L1 X1 ⟨rfl, M1, K1, FF1, FF2, FF3, FF4, FF5, FF6⟩
  have Z1 : n0 ≤ T1.heap.size := Nat.le_trans Z0 K1.1
  have P1 := (Keep.refl h [qa1]).trans K1 (alc (Or.inl (List.mem_of_getElem? (i := 0) rfl)) al0)
  have N1 := Fr.app (Fr.nil n0) M1
  obtain ⟨h1, e1⟩ : ∃ z, T1.heap = z := ⟨_, rfl⟩
  rw [e1] at FF1 FF2 FF3 FF4 FF5 FF6 Z1 P1
  show Go p.tables e below _ T1 (mkF m 11 #[.val (.ref qa1), .val .null, .val (.double qd1), .second, .val (.double qd2), .second, .val (.ref qa2)] [])
  exact g_return C X1 d1_11 (⟨rfl, N1, by rw [e1]; exact P1, by rw [e1]; exact FF1, by rw [e1]; exact FF2, by rw [e1]; exact FF3, by rw [e1]; exact FF4, by rw [e1]; exact FF5, by rw [e1]; exact FF6⟩) (by decide) (by decide)
theorem kk_4 : parseMethodDescriptor "(Lcom/example/sitewise/sitewise/Plan;DDLjava/lang/String;)V" = some ⟨[(.object "com/example/sitewise/sitewise/Plan"), .double, .double, (.object "java/lang/String")], none⟩ := by decide +kernel
theorem kk_5 : FP.dconst0 = (0 : UInt64) := by decide +kernel
theorem kk_6 : FP.dconst1 = (4607182418800017408 : UInt64) := by decide +kernel
theorem kk_7 : cmpValue (FP.dcmp (4607182418800017408 : UInt64) (4607182418800017408 : UInt64)) .l = (0 : Int32) := by decide +kernel
theorem kk_8 : cmpValue (FP.dcmp (4607182418800017408 : UInt64) (0 : UInt64)) .l = (1 : Int32) := by decide +kernel
theorem kk_9 : cmpValue (FP.dcmp (4607182418800017408 : UInt64) (0 : UInt64)) .g = (1 : Int32) := by decide +kernel
theorem kk_10 : cmpValue (FP.dcmp (9221120237041090560 : UInt64) (9221120237041090560 : UInt64)) .l = (-1 : Int32) := by decide +kernel
theorem kk_11 : cmpValue (FP.dcmp (9221120237041090560 : UInt64) (4607182418800017408 : UInt64)) .l = (-1 : Int32) := by decide +kernel
set_option maxRecDepth 65536 in
set_option maxHeartbeats 40000000 in
theorem k3_init (l : Launch) (Z : State) (a0 : Array Value) (hw : ∀ d ∈ tables_1, d.before a0 Z = true) (h : Heap) (n0 : Nat) (Z0 : n0 ≤ h.size) (qa1 : Addr) (qd1 : UInt64) (qz1 : Int) (qd2 : UInt64) (qz2 : Int) (qa2 : Addr) (z_qa1 : n0 ≤ qa1) (D_qd1 : FP.Core.DInt qz1 qd1) (B_qd1 : -2147483648 ≤ qz1 ∧ qz1 ≤ 2147483647) (D_qd2 : FP.Core.DInt qz2 qd2) (H1 : Exa Z h qa1 "com/example/sitewise/sitewise/Solution") (H2 : Fld Z h qa1 "com/example/sitewise/sitewise/Solution" "plan" "Lcom/example/sitewise/sitewise/Plan;" .null) (H3 : Fld Z h qa1 "com/example/sitewise/sitewise/Solution" "cost" "D" (.double (0 : UInt64))) (H4 : Fld Z h qa1 "com/example/sitewise/sitewise/Solution" "lowerBound" "D" (.double (0 : UInt64))) (H5 : Fld Z h qa1 "com/example/sitewise/sitewise/Solution" "guarantee" "Ljava/lang/String;" .null) (H6 : Fld Z h qa1 "com/example/sitewise/sitewise/Solution" "alpha" "[D" .null) :
    Con l Z (⟨"com/example/sitewise/sitewise/Solution", "<init>", "(Lcom/example/sitewise/sitewise/Plan;DDLjava/lang/String;[D)V"⟩ : MethodName) prog_34_method_2_code 8 none ⟨1, 0, 0, 12⟩ #[(.ref qa1), .null, (.double qd1), (.double qd2), (.ref qa2), .null] h (fun v h' L => v = none ∧ Fr n0 L ∧ Keep h h' [qa1] ∧ Exa Z h' qa1 "com/example/sitewise/sitewise/Solution" ∧ Fld Z h' qa1 "com/example/sitewise/sitewise/Solution" "plan" "Lcom/example/sitewise/sitewise/Plan;" .null ∧ Fld Z h' qa1 "com/example/sitewise/sitewise/Solution" "cost" "D" (.double qd1) ∧ Fld Z h' qa1 "com/example/sitewise/sitewise/Solution" "lowerBound" "D" (.double qd2) ∧ Fld Z h' qa1 "com/example/sitewise/sitewise/Solution" "guarantee" "Ljava/lang/String;" (.ref qa2) ∧ Fld Z h' qa1 "com/example/sitewise/sitewise/Solution" "alpha" "[D" .null) := by
  refine con_of_go kk_1 (fun m => kk_0 m qa1 qd1 qd2 qa2) ?_
  intro p e s m below meth c T0 C X0 e0
  refine g_aloadN C X0 (pc' := 1) d2_0 rfl rfl rfl ?_
  refine g_initO C X0 (hw _ (List.mem_of_getElem? (i := 17) rfl)) (hw _ (List.mem_of_getElem? (i := 18) rfl)) (hw _ (List.mem_of_getElem? (i := 19) rfl)) e0 d2_1 rfl 0 rfl (by decide) (by decide) rfl ?_
  intro T1 X1 e1
  refine g_aloadN C X1 (pc' := 5) d2_4 rfl rfl rfl ?_
  refine g_aloadN C X1 (pc' := 6) d2_5 rfl rfl rfl ?_
  refine g_putF C X1 (host := "") (Or.inl (hw _ (List.mem_of_getElem? (i := 20) rfl))) Via.refl e1 H2 H1 (Or.inr ⟨(hw _ (List.mem_of_getElem? (i := 21) rfl)), rfl, rfl⟩) (hw _ (List.mem_of_getElem? (i := 1) rfl)) (ty := (.object "com/example/sitewise/sitewise/Plan")) (by decide) rfl rfl d2_6 rfl ?_
  intro T2 h2 X2 e2 W2
  have H1 := H1.wr W2
  have H2 := H2.same W2
  have H3 := H3.other W2 (Or.inr (slot_ne (Or.inr (hw _ (List.mem_of_getElem? (i := 23) rfl))) (Or.inr (hw _ (List.mem_of_getElem? (i := 21) rfl))) (by decide) rfl rfl))
  have H4 := H4.other W2 (Or.inr (slot_ne (Or.inr (hw _ (List.mem_of_getElem? (i := 25) rfl))) (Or.inr (hw _ (List.mem_of_getElem? (i := 21) rfl))) (by decide) rfl rfl))
  have H5 := H5.other W2 (Or.inr (slot_ne (Or.inr (hw _ (List.mem_of_getElem? (i := 27) rfl))) (Or.inr (hw _ (List.mem_of_getElem? (i := 21) rfl))) (by decide) rfl rfl))
  have H6 := H6.other W2 (Or.inr (slot_ne (Or.inr (hw _ (List.mem_of_getElem? (i := 29) rfl))) (Or.inr (hw _ (List.mem_of_getElem? (i := 21) rfl))) (by decide) rfl rfl))
  have Z2 : n0 ≤ h2.size := by rw [W2.size]; exact Z0
  have N2 := Fr.snoc X2 (Fr.nil n0) z_qa1
  have P2 := (Keep.refl h [qa1]).wr W2 (Or.inl (List.mem_of_getElem? (i := 0) rfl))
  refine g_aloadN C X2 (pc' := 10) d2_9 rfl rfl rfl ?_
  refine g_dloadN C X2 (pc' := 11) d2_10 rfl rfl ?_
  refine g_putF C X2 (host := "") (Or.inl (hw _ (List.mem_of_getElem? (i := 22) rfl))) Via.refl e2 H3 H1 (Or.inr ⟨(hw _ (List.mem_of_getElem? (i := 23) rfl)), rfl, rfl⟩) (hw _ (List.mem_of_getElem? (i := 1) rfl)) (ty := .double) (by decide) rfl rfl d2_11 rfl ?_
  intro T3 h3 X3 e3 W3
  have H1 := H1.wr W3
  have H2 := H2.other W3 (Or.inr (slot_ne (Or.inr (hw _ (List.mem_of_getElem? (i := 21) rfl))) (Or.inr (hw _ (List.mem_of_getElem? (i := 23) rfl))) (by decide) rfl rfl))
  have H3 := H3.same W3
  have H4 := H4.other W3 (Or.inr (slot_ne (Or.inr (hw _ (List.mem_of_getElem? (i := 25) rfl))) (Or.inr (hw _ (List.mem_of_getElem? (i := 23) rfl))) (by decide) rfl rfl))
  have H5 := H5.other W3 (Or.inr (slot_ne (Or.inr (hw _ (List.mem_of_getElem? (i := 27) rfl))) (Or.inr (hw _ (List.mem_of_getElem? (i := 23) rfl))) (by decide) rfl rfl))
  have H6 := H6.other W3 (Or.inr (slot_ne (Or.inr (hw _ (List.mem_of_getElem? (i := 29) rfl))) (Or.inr (hw _ (List.mem_of_getElem? (i := 23) rfl))) (by decide) rfl rfl))
  have Z3 : n0 ≤ h3.size := by rw [W3.size]; exact Z2
  have N3 := Fr.snoc X3 N2 z_qa1
  have P3 := P2.wr W3 (Or.inl (List.mem_of_getElem? (i := 0) rfl))
  refine g_aloadN C X3 (pc' := 15) d2_14 rfl rfl rfl ?_
  refine g_dload C X3 (pc' := 17) d2_15 rfl rfl ?_
  refine g_putF C X3 (host := "") (Or.inl (hw _ (List.mem_of_getElem? (i := 24) rfl))) Via.refl e3 H4 H1 (Or.inr ⟨(hw _ (List.mem_of_getElem? (i := 25) rfl)), rfl, rfl⟩) (hw _ (List.mem_of_getElem? (i := 1) rfl)) (ty := .double) (by decide) rfl rfl d2_17 rfl ?_
  intro T4 h4 X4 e4 W4
  have H1 := H1.wr W4
  have H2 := H2.other W4 (Or.inr (slot_ne (Or.inr (hw _ (List.mem_of_getElem? (i := 21) rfl))) (Or.inr (hw _ (List.mem_of_getElem? (i := 25) rfl))) (by decide) rfl rfl))
  have H3 := H3.other W4 (Or.inr (slot_ne (Or.inr (hw _ (List.mem_of_getElem? (i := 23) rfl))) (Or.inr (hw _ (List.mem_of_getElem? (i := 25) rfl))) (by decide) rfl rfl))
  have H4 := H4.same W4
  have H5 := H5.other W4 (Or.inr (slot_ne (Or.inr (hw _ (List.mem_of_getElem? (i := 27) rfl))) (Or.inr (hw _ (List.mem_of_getElem? (i := 25) rfl))) (by decide) rfl rfl))
  have H6 := H6.other W4 (Or.inr (slot_ne (Or.inr (hw _ (List.mem_of_getElem? (i := 29) rfl))) (Or.inr (hw _ (List.mem_of_getElem? (i := 25) rfl))) (by decide) rfl rfl))
  have Z4 : n0 ≤ h4.size := by rw [W4.size]; exact Z3
  have N4 := Fr.snoc X4 N3 z_qa1
  have P4 := P3.wr W4 (Or.inl (List.mem_of_getElem? (i := 0) rfl))
  refine g_aloadN C X4 (pc' := 21) d2_20 rfl rfl rfl ?_
  refine g_aload C X4 (pc' := 23) d2_21 rfl rfl rfl ?_
  refine g_putF C X4 (host := "") (Or.inl (hw _ (List.mem_of_getElem? (i := 26) rfl))) Via.refl e4 H5 H1 (Or.inr ⟨(hw _ (List.mem_of_getElem? (i := 27) rfl)), rfl, rfl⟩) (hw _ (List.mem_of_getElem? (i := 1) rfl)) (ty := (.object "java/lang/String")) (by decide) rfl rfl d2_23 rfl ?_
  intro T5 h5 X5 e5 W5
  have H1 := H1.wr W5
  have H2 := H2.other W5 (Or.inr (slot_ne (Or.inr (hw _ (List.mem_of_getElem? (i := 21) rfl))) (Or.inr (hw _ (List.mem_of_getElem? (i := 27) rfl))) (by decide) rfl rfl))
  have H3 := H3.other W5 (Or.inr (slot_ne (Or.inr (hw _ (List.mem_of_getElem? (i := 23) rfl))) (Or.inr (hw _ (List.mem_of_getElem? (i := 27) rfl))) (by decide) rfl rfl))
  have H4 := H4.other W5 (Or.inr (slot_ne (Or.inr (hw _ (List.mem_of_getElem? (i := 25) rfl))) (Or.inr (hw _ (List.mem_of_getElem? (i := 27) rfl))) (by decide) rfl rfl))
  have H5 := H5.same W5
  have H6 := H6.other W5 (Or.inr (slot_ne (Or.inr (hw _ (List.mem_of_getElem? (i := 29) rfl))) (Or.inr (hw _ (List.mem_of_getElem? (i := 27) rfl))) (by decide) rfl rfl))
  have Z5 : n0 ≤ h5.size := by rw [W5.size]; exact Z4
  have N5 := Fr.snoc X5 N4 z_qa1
  have P5 := P4.wr W5 (Or.inl (List.mem_of_getElem? (i := 0) rfl))
  refine g_aloadN C X5 (pc' := 27) d2_26 rfl rfl rfl ?_
  refine g_aload C X5 (pc' := 29) d2_27 rfl rfl rfl ?_
  refine g_putF C X5 (host := "") (Or.inl (hw _ (List.mem_of_getElem? (i := 28) rfl))) Via.refl e5 H6 H1 (Or.inr ⟨(hw _ (List.mem_of_getElem? (i := 29) rfl)), rfl, rfl⟩) (hw _ (List.mem_of_getElem? (i := 1) rfl)) (ty := (.array .double)) (by decide) rfl rfl d2_29 rfl ?_
  intro T6 h6 X6 e6 W6
  have H1 := H1.wr W6
  have H2 := H2.other W6 (Or.inr (slot_ne (Or.inr (hw _ (List.mem_of_getElem? (i := 21) rfl))) (Or.inr (hw _ (List.mem_of_getElem? (i := 29) rfl))) (by decide) rfl rfl))
  have H3 := H3.other W6 (Or.inr (slot_ne (Or.inr (hw _ (List.mem_of_getElem? (i := 23) rfl))) (Or.inr (hw _ (List.mem_of_getElem? (i := 29) rfl))) (by decide) rfl rfl))
  have H4 := H4.other W6 (Or.inr (slot_ne (Or.inr (hw _ (List.mem_of_getElem? (i := 25) rfl))) (Or.inr (hw _ (List.mem_of_getElem? (i := 29) rfl))) (by decide) rfl rfl))
  have H5 := H5.other W6 (Or.inr (slot_ne (Or.inr (hw _ (List.mem_of_getElem? (i := 27) rfl))) (Or.inr (hw _ (List.mem_of_getElem? (i := 29) rfl))) (by decide) rfl rfl))
  have H6 := H6.same W6
  have Z6 : n0 ≤ h6.size := by rw [W6.size]; exact Z5
  have N6 := Fr.snoc X6 N5 z_qa1
  have P6 := P5.wr W6 (Or.inl (List.mem_of_getElem? (i := 0) rfl))
  exact g_return C X6 d2_32 (⟨rfl, N6, by rw [e6]; exact P6, by rw [e6]; exact H1, by rw [e6]; exact H2, by rw [e6]; exact H3, by rw [e6]; exact H4, by rw [e6]; exact H5, by rw [e6]; exact H6⟩) (by decide) (by decide)
set_option maxRecDepth 65536 in
set_option maxHeartbeats 40000000 in
theorem k4_init (l : Launch) (Z : State) (a0 : Array Value) (hw : ∀ d ∈ tables_1, d.before a0 Z = true) (h : Heap) (n0 : Nat) (Z0 : n0 ≤ h.size) (qa1 : Addr) (qd1 : UInt64) (qz1 : Int) (qd2 : UInt64) (qz2 : Int) (qa2 : Addr) (z_qa1 : n0 ≤ qa1) (D_qd1 : FP.Core.DInt qz1 qd1) (B_qd1 : -2147483648 ≤ qz1 ∧ qz1 ≤ 2147483647) (D_qd2 : FP.Core.DInt qz2 qd2) (H1 : Exa Z h qa1 "com/example/sitewise/sitewise/Solution") (H2 : Fld Z h qa1 "com/example/sitewise/sitewise/Solution" "plan" "Lcom/example/sitewise/sitewise/Plan;" .null) (H3 : Fld Z h qa1 "com/example/sitewise/sitewise/Solution" "cost" "D" (.double (0 : UInt64))) (H4 : Fld Z h qa1 "com/example/sitewise/sitewise/Solution" "lowerBound" "D" (.double (0 : UInt64))) (H5 : Fld Z h qa1 "com/example/sitewise/sitewise/Solution" "guarantee" "Ljava/lang/String;" .null) (H6 : Fld Z h qa1 "com/example/sitewise/sitewise/Solution" "alpha" "[D" .null) :
    Con l Z (⟨"com/example/sitewise/sitewise/Solution", "<init>", "(Lcom/example/sitewise/sitewise/Plan;DDLjava/lang/String;)V"⟩ : MethodName) prog_34_method_1_code 7 none ⟨2, 0, 0, 31⟩ #[(.ref qa1), .null, (.double qd1), (.double qd2), (.ref qa2)] h (fun v h' L => v = none ∧ Fr n0 L ∧ Keep h h' [qa1] ∧ Exa Z h' qa1 "com/example/sitewise/sitewise/Solution" ∧ Fld Z h' qa1 "com/example/sitewise/sitewise/Solution" "plan" "Lcom/example/sitewise/sitewise/Plan;" .null ∧ Fld Z h' qa1 "com/example/sitewise/sitewise/Solution" "cost" "D" (.double qd1) ∧ Fld Z h' qa1 "com/example/sitewise/sitewise/Solution" "lowerBound" "D" (.double qd2) ∧ Fld Z h' qa1 "com/example/sitewise/sitewise/Solution" "guarantee" "Ljava/lang/String;" (.ref qa2) ∧ Fld Z h' qa1 "com/example/sitewise/sitewise/Solution" "alpha" "[D" .null) := by
  refine con_of_go kk_1 (fun m => kk_3 m qa1 qd1 qd2 qa2) ?_
  intro p e s m below meth c T0 C X0 e0
  refine g_aloadN C X0 (pc' := 1) d1_0 rfl rfl rfl ?_
  refine g_aloadN C X0 (pc' := 2) d1_1 rfl rfl rfl ?_
  refine g_dloadN C X0 (pc' := 3) d1_2 rfl rfl ?_
  refine g_dload C X0 (pc' := 5) d1_3 rfl rfl ?_
  refine g_aload C X0 (pc' := 7) d1_5 rfl rfl rfl ?_
  refine g_aconstNull C X0 (pc' := 8) d1_7 rfl ?_
  refine g_callI C X0 (k3_init l Z a0 hw h n0 Z0 qa1 qd1 qz1 qd2 qz2 qa2 z_qa1  D_qd1 B_qd1 D_qd2 H1 H2 H3 H4 H5 H6) rfl (hw _ (List.mem_of_getElem? (i := 14) rfl)) (hw _ (List.mem_of_getElem? (i := 15) rfl)) (hw _ (List.mem_of_getElem? (i := 2) rfl)) (hw _ (List.mem_of_getElem? (i := 16) rfl)) (by decide) e0 d1_8 rfl kk_2 qa1 [.null, (.double qd1), (.double qd2), (.ref qa2), .null] [] rfl rfl rfl 0 rfl (by decide) (by decide) (by decide) (by decide) rfl ?_
  rintro _ T1 L1 X1 ⟨rfl, M1, K1, FF1, FF2, FF3, FF4, FF5, FF6⟩
  have Z1 : n0 ≤ T1.heap.size := Nat.le_trans Z0 K1.1
  have P1 := (Keep.refl h [qa1]).trans K1 (alc (Or.inl (List.mem_of_getElem? (i := 0) rfl)) al0)
  have N1 := Fr.app (Fr.nil n0) M1
  obtain ⟨h1, e1⟩ : ∃ z, T1.heap = z := ⟨_, rfl⟩
  rw [e1] at FF1 FF2 FF3 FF4 FF5 FF6 Z1 P1
  show Go p.tables e below _ T1 (mkF m 11 #[.val (.ref qa1), .val .null, .val (.double qd1), .second, .val (.double qd2), .second, .val (.ref qa2)] [])
  exact g_return C X1 d1_11 (⟨rfl, N1, by rw [e1]; exact P1, by rw [e1]; exact FF1, by rw [e1]; exact FF2, by rw [e1]; exact FF3, by rw [e1]; exact FF4, by rw [e1]; exact FF5, by rw [e1]; exact FF6⟩) (by decide) (by decide)
set_option maxRecDepth 65536 in
set_option maxHeartbeats 40000000 in
theorem k5_init (l : Launch) (Z : State) (a0 : Array Value) (hw : ∀ d ∈ tables_1, d.before a0 Z = true) (h : Heap) (n0 : Nat) (Z0 : n0 ≤ h.size) (qa1 : Addr) (qd1 : UInt64) (qz1 : Int) (qd2 : UInt64) (qz2 : Int) (qa2 : Addr) (z_qa1 : n0 ≤ qa1) (D_qd1 : FP.Core.DInt qz1 qd1) (D_qd2 : FP.Core.DInt qz2 qd2) (B_qd2 : -2147483648 ≤ qz2 ∧ qz2 ≤ 2147483647) (H1 : Exa Z h qa1 "com/example/sitewise/sitewise/Solution") (H2 : Fld Z h qa1 "com/example/sitewise/sitewise/Solution" "plan" "Lcom/example/sitewise/sitewise/Plan;" .null) (H3 : Fld Z h qa1 "com/example/sitewise/sitewise/Solution" "cost" "D" (.double (0 : UInt64))) (H4 : Fld Z h qa1 "com/example/sitewise/sitewise/Solution" "lowerBound" "D" (.double (0 : UInt64))) (H5 : Fld Z h qa1 "com/example/sitewise/sitewise/Solution" "guarantee" "Ljava/lang/String;" .null) (H6 : Fld Z h qa1 "com/example/sitewise/sitewise/Solution" "alpha" "[D" .null) :
    Con l Z (⟨"com/example/sitewise/sitewise/Solution", "<init>", "(Lcom/example/sitewise/sitewise/Plan;DDLjava/lang/String;[D)V"⟩ : MethodName) prog_34_method_2_code 8 none ⟨1, 0, 0, 12⟩ #[(.ref qa1), .null, (.double qd1), (.double qd2), (.ref qa2), .null] h (fun v h' L => v = none ∧ Fr n0 L ∧ Keep h h' [qa1] ∧ Exa Z h' qa1 "com/example/sitewise/sitewise/Solution" ∧ Fld Z h' qa1 "com/example/sitewise/sitewise/Solution" "plan" "Lcom/example/sitewise/sitewise/Plan;" .null ∧ Fld Z h' qa1 "com/example/sitewise/sitewise/Solution" "cost" "D" (.double qd1) ∧ Fld Z h' qa1 "com/example/sitewise/sitewise/Solution" "lowerBound" "D" (.double qd2) ∧ Fld Z h' qa1 "com/example/sitewise/sitewise/Solution" "guarantee" "Ljava/lang/String;" (.ref qa2) ∧ Fld Z h' qa1 "com/example/sitewise/sitewise/Solution" "alpha" "[D" .null) := by
  refine con_of_go kk_1 (fun m => kk_0 m qa1 qd1 qd2 qa2) ?_
  intro p e s m below meth c T0 C X0 e0
  refine g_aloadN C X0 (pc' := 1) d2_0 rfl rfl rfl ?_
  refine g_initO C X0 (hw _ (List.mem_of_getElem? (i := 17) rfl)) (hw _ (List.mem_of_getElem? (i := 18) rfl)) (hw _ (List.mem_of_getElem? (i := 19) rfl)) e0 d2_1 rfl 0 rfl (by decide) (by decide) rfl ?_
  intro T1 X1 e1
  refine g_aloadN C X1 (pc' := 5) d2_4 rfl rfl rfl ?_
  refine g_aloadN C X1 (pc' := 6) d2_5 rfl rfl rfl ?_
  refine g_putF C X1 (host := "") (Or.inl (hw _ (List.mem_of_getElem? (i := 20) rfl))) Via.refl e1 H2 H1 (Or.inr ⟨(hw _ (List.mem_of_getElem? (i := 21) rfl)), rfl, rfl⟩) (hw _ (List.mem_of_getElem? (i := 1) rfl)) (ty := (.object "com/example/sitewise/sitewise/Plan")) (by decide) rfl rfl d2_6 rfl ?_
  intro T2 h2 X2 e2 W2
  have H1 := H1.wr W2
  have H2 := H2.same W2
  have H3 := H3.other W2 (Or.inr (slot_ne (Or.inr (hw _ (List.mem_of_getElem? (i := 23) rfl))) (Or.inr (hw _ (List.mem_of_getElem? (i := 21) rfl))) (by decide) rfl rfl))
  have H4 := H4.other W2 (Or.inr (slot_ne (Or.inr (hw _ (List.mem_of_getElem? (i := 25) rfl))) (Or.inr (hw _ (List.mem_of_getElem? (i := 21) rfl))) (by decide) rfl rfl))
  have H5 := H5.other W2 (Or.inr (slot_ne (Or.inr (hw _ (List.mem_of_getElem? (i := 27) rfl))) (Or.inr (hw _ (List.mem_of_getElem? (i := 21) rfl))) (by decide) rfl rfl))
  have H6 := H6.other W2 (Or.inr (slot_ne (Or.inr (hw _ (List.mem_of_getElem? (i := 29) rfl))) (Or.inr (hw _ (List.mem_of_getElem? (i := 21) rfl))) (by decide) rfl rfl))
  have Z2 : n0 ≤ h2.size := by rw [W2.size]; exact Z0
  have N2 := Fr.snoc X2 (Fr.nil n0) z_qa1
  have P2 := (Keep.refl h [qa1]).wr W2 (Or.inl (List.mem_of_getElem? (i := 0) rfl))
  refine g_aloadN C X2 (pc' := 10) d2_9 rfl rfl rfl ?_
  refine g_dloadN C X2 (pc' := 11) d2_10 rfl rfl ?_
  refine g_putF C X2 (host := "") (Or.inl (hw _ (List.mem_of_getElem? (i := 22) rfl))) Via.refl e2 H3 H1 (Or.inr ⟨(hw _ (List.mem_of_getElem? (i := 23) rfl)), rfl, rfl⟩) (hw _ (List.mem_of_getElem? (i := 1) rfl)) (ty := .double) (by decide) rfl rfl d2_11 rfl ?_
  intro T3 h3 X3 e3 W3
  have H1 := H1.wr W3
  have H2 := H2.other W3 (Or.inr (slot_ne (Or.inr (hw _ (List.mem_of_getElem? (i := 21) rfl))) (Or.inr (hw _ (List.mem_of_getElem? (i := 23) rfl))) (by decide) rfl rfl))
  have H3 := H3.same W3
  have H4 := H4.other W3 (Or.inr (slot_ne (Or.inr (hw _ (List.mem_of_getElem? (i := 25) rfl))) (Or.inr (hw _ (List.mem_of_getElem? (i := 23) rfl))) (by decide) rfl rfl))
  have H5 := H5.other W3 (Or.inr (slot_ne (Or.inr (hw _ (List.mem_of_getElem? (i := 27) rfl))) (Or.inr (hw _ (List.mem_of_getElem? (i := 23) rfl))) (by decide) rfl rfl))
  have H6 := H6.other W3 (Or.inr (slot_ne (Or.inr (hw _ (List.mem_of_getElem? (i := 29) rfl))) (Or.inr (hw _ (List.mem_of_getElem? (i := 23) rfl))) (by decide) rfl rfl))
  have Z3 : n0 ≤ h3.size := by rw [W3.size]; exact Z2
  have N3 := Fr.snoc X3 N2 z_qa1
  have P3 := P2.wr W3 (Or.inl (List.mem_of_getElem? (i := 0) rfl))
  refine g_aloadN C X3 (pc' := 15) d2_14 rfl rfl rfl ?_
  refine g_dload C X3 (pc' := 17) d2_15 rfl rfl ?_
  refine g_putF C X3 (host := "") (Or.inl (hw _ (List.mem_of_getElem? (i := 24) rfl))) Via.refl e3 H4 H1 (Or.inr ⟨(hw _ (List.mem_of_getElem? (i := 25) rfl)), rfl, rfl⟩) (hw _ (List.mem_of_getElem? (i := 1) rfl)) (ty := .double) (by decide) rfl rfl d2_17 rfl ?_
  intro T4 h4 X4 e4 W4
  have H1 := H1.wr W4
  have H2 := H2.other W4 (Or.inr (slot_ne (Or.inr (hw _ (List.mem_of_getElem? (i := 21) rfl))) (Or.inr (hw _ (List.mem_of_getElem? (i := 25) rfl))) (by decide) rfl rfl))
  have H3 := H3.other W4 (Or.inr (slot_ne (Or.inr (hw _ (List.mem_of_getElem? (i := 23) rfl))) (Or.inr (hw _ (List.mem_of_getElem? (i := 25) rfl))) (by decide) rfl rfl))
  have H4 := H4.same W4
  have H5 := H5.other W4 (Or.inr (slot_ne (Or.inr (hw _ (List.mem_of_getElem? (i := 27) rfl))) (Or.inr (hw _ (List.mem_of_getElem? (i := 25) rfl))) (by decide) rfl rfl))
  have H6 := H6.other W4 (Or.inr (slot_ne (Or.inr (hw _ (List.mem_of_getElem? (i := 29) rfl))) (Or.inr (hw _ (List.mem_of_getElem? (i := 25) rfl))) (by decide) rfl rfl))
  have Z4 : n0 ≤ h4.size := by rw [W4.size]; exact Z3
  have N4 := Fr.snoc X4 N3 z_qa1
  have P4 := P3.wr W4 (Or.inl (List.mem_of_getElem? (i := 0) rfl))
  refine g_aloadN C X4 (pc' := 21) d2_20 rfl rfl rfl ?_
  refine g_aload C X4 (pc' := 23) d2_21 rfl rfl rfl ?_
  refine g_putF C X4 (host := "") (Or.inl (hw _ (List.mem_of_getElem? (i := 26) rfl))) Via.refl e4 H5 H1 (Or.inr ⟨(hw _ (List.mem_of_getElem? (i := 27) rfl)), rfl, rfl⟩) (hw _ (List.mem_of_getElem? (i := 1) rfl)) (ty := (.object "java/lang/String")) (by decide) rfl rfl d2_23 rfl ?_
  intro T5 h5 X5 e5 W5
  have H1 := H1.wr W5
  have H2 := H2.other W5 (Or.inr (slot_ne (Or.inr (hw _ (List.mem_of_getElem? (i := 21) rfl))) (Or.inr (hw _ (List.mem_of_getElem? (i := 27) rfl))) (by decide) rfl rfl))
  have H3 := H3.other W5 (Or.inr (slot_ne (Or.inr (hw _ (List.mem_of_getElem? (i := 23) rfl))) (Or.inr (hw _ (List.mem_of_getElem? (i := 27) rfl))) (by decide) rfl rfl))
  have H4 := H4.other W5 (Or.inr (slot_ne (Or.inr (hw _ (List.mem_of_getElem? (i := 25) rfl))) (Or.inr (hw _ (List.mem_of_getElem? (i := 27) rfl))) (by decide) rfl rfl))
  have H5 := H5.same W5
  have H6 := H6.other W5 (Or.inr (slot_ne (Or.inr (hw _ (List.mem_of_getElem? (i := 29) rfl))) (Or.inr (hw _ (List.mem_of_getElem? (i := 27) rfl))) (by decide) rfl rfl))
  have Z5 : n0 ≤ h5.size := by rw [W5.size]; exact Z4
  have N5 := Fr.snoc X5 N4 z_qa1
  have P5 := P4.wr W5 (Or.inl (List.mem_of_getElem? (i := 0) rfl))
  refine g_aloadN C X5 (pc' := 27) d2_26 rfl rfl rfl ?_
  refine g_aload C X5 (pc' := 29) d2_27 rfl rfl rfl ?_
  refine g_putF C X5 (host := "") (Or.inl (hw _ (List.mem_of_getElem? (i := 28) rfl))) Via.refl e5 H6 H1 (Or.inr ⟨(hw _ (List.mem_of_getElem? (i := 29) rfl)), rfl, rfl⟩) (hw _ (List.mem_of_getElem? (i := 1) rfl)) (ty := (.array .double)) (by decide) rfl rfl d2_29 rfl ?_
  intro T6 h6 X6 e6 W6
  have H1 := H1.wr W6
  have H2 := H2.other W6 (Or.inr (slot_ne (Or.inr (hw _ (List.mem_of_getElem? (i := 21) rfl))) (Or.inr (hw _ (List.mem_of_getElem? (i := 29) rfl))) (by decide) rfl rfl))
  have H3 := H3.other W6 (Or.inr (slot_ne (Or.inr (hw _ (List.mem_of_getElem? (i := 23) rfl))) (Or.inr (hw _ (List.mem_of_getElem? (i := 29) rfl))) (by decide) rfl rfl))
  have H4 := H4.other W6 (Or.inr (slot_ne (Or.inr (hw _ (List.mem_of_getElem? (i := 25) rfl))) (Or.inr (hw _ (List.mem_of_getElem? (i := 29) rfl))) (by decide) rfl rfl))
  have H5 := H5.other W6 (Or.inr (slot_ne (Or.inr (hw _ (List.mem_of_getElem? (i := 27) rfl))) (Or.inr (hw _ (List.mem_of_getElem? (i := 29) rfl))) (by decide) rfl rfl))
  have H6 := H6.same W6
  have Z6 : n0 ≤ h6.size := by rw [W6.size]; exact Z5
  have N6 := Fr.snoc X6 N5 z_qa1
  have P6 := P5.wr W6 (Or.inl (List.mem_of_getElem? (i := 0) rfl))
  exact g_return C X6 d2_32 (⟨rfl, N6, by rw [e6]; exact P6, by rw [e6]; exact H1, by rw [e6]; exact H2, by rw [e6]; exact H3, by rw [e6]; exact H4, by rw [e6]; exact H5, by rw [e6]; exact H6⟩) (by decide) (by decide)
set_option maxRecDepth 65536 in
set_option maxHeartbeats 40000000 in
theorem k6_init (l : Launch) (Z : State) (a0 : Array Value) (hw : ∀ d ∈ tables_1, d.before a0 Z = true) (h : Heap) (n0 : Nat) (Z0 : n0 ≤ h.size) (qa1 : Addr) (qd1 : UInt64) (qz1 : Int) (qd2 : UInt64) (qz2 : Int) (qa2 : Addr) (z_qa1 : n0 ≤ qa1) (D_qd1 : FP.Core.DInt qz1 qd1) (D_qd2 : FP.Core.DInt qz2 qd2) (B_qd2 : -2147483648 ≤ qz2 ∧ qz2 ≤ 2147483647) (H1 : Exa Z h qa1 "com/example/sitewise/sitewise/Solution") (H2 : Fld Z h qa1 "com/example/sitewise/sitewise/Solution" "plan" "Lcom/example/sitewise/sitewise/Plan;" .null) (H3 : Fld Z h qa1 "com/example/sitewise/sitewise/Solution" "cost" "D" (.double (0 : UInt64))) (H4 : Fld Z h qa1 "com/example/sitewise/sitewise/Solution" "lowerBound" "D" (.double (0 : UInt64))) (H5 : Fld Z h qa1 "com/example/sitewise/sitewise/Solution" "guarantee" "Ljava/lang/String;" .null) (H6 : Fld Z h qa1 "com/example/sitewise/sitewise/Solution" "alpha" "[D" .null) :
    Con l Z (⟨"com/example/sitewise/sitewise/Solution", "<init>", "(Lcom/example/sitewise/sitewise/Plan;DDLjava/lang/String;)V"⟩ : MethodName) prog_34_method_1_code 7 none ⟨2, 0, 0, 31⟩ #[(.ref qa1), .null, (.double qd1), (.double qd2), (.ref qa2)] h (fun v h' L => v = none ∧ Fr n0 L ∧ Keep h h' [qa1] ∧ Exa Z h' qa1 "com/example/sitewise/sitewise/Solution" ∧ Fld Z h' qa1 "com/example/sitewise/sitewise/Solution" "plan" "Lcom/example/sitewise/sitewise/Plan;" .null ∧ Fld Z h' qa1 "com/example/sitewise/sitewise/Solution" "cost" "D" (.double qd1) ∧ Fld Z h' qa1 "com/example/sitewise/sitewise/Solution" "lowerBound" "D" (.double qd2) ∧ Fld Z h' qa1 "com/example/sitewise/sitewise/Solution" "guarantee" "Ljava/lang/String;" (.ref qa2) ∧ Fld Z h' qa1 "com/example/sitewise/sitewise/Solution" "alpha" "[D" .null) := by
  refine con_of_go kk_1 (fun m => kk_3 m qa1 qd1 qd2 qa2) ?_
  intro p e s m below meth c T0 C X0 e0
  refine g_aloadN C X0 (pc' := 1) d1_0 rfl rfl rfl ?_
  refine g_aloadN C X0 (pc' := 2) d1_1 rfl rfl rfl ?_
  refine g_dloadN C X0 (pc' := 3) d1_2 rfl rfl ?_
  refine g_dload C X0 (pc' := 5) d1_3 rfl rfl ?_
  refine g_aload C X0 (pc' := 7) d1_5 rfl rfl rfl ?_
  refine g_aconstNull C X0 (pc' := 8) d1_7 rfl ?_
  refine g_callI C X0 (k5_init l Z a0 hw h n0 Z0 qa1 qd1 qz1 qd2 qz2 qa2 z_qa1  D_qd1 D_qd2 B_qd2 H1 H2 H3 H4 H5 H6) rfl (hw _ (List.mem_of_getElem? (i := 14) rfl)) (hw _ (List.mem_of_getElem? (i := 15) rfl)) (hw _ (List.mem_of_getElem? (i := 2) rfl)) (hw _ (List.mem_of_getElem? (i := 16) rfl)) (by decide) e0 d1_8 rfl kk_2 qa1 [.null, (.double qd1), (.double qd2), (.ref qa2), .null] [] rfl rfl rfl 0 rfl (by decide) (by decide) (by decide) (by decide) rfl ?_
  rintro _ T1 L1 X1 ⟨rfl, M1, K1, FF1, FF2, FF3, FF4, FF5, FF6⟩
  have Z1 : n0 ≤ T1.heap.size := Nat.le_trans Z0 K1.1
  have P1 := (Keep.refl h [qa1]).trans K1 (alc (Or.inl (List.mem_of_getElem? (i := 0) rfl)) al0)
  have N1 := Fr.app (Fr.nil n0) M1
  obtain ⟨h1, e1⟩ : ∃ z, T1.heap = z := ⟨_, rfl⟩
  rw [e1] at FF1 FF2 FF3 FF4 FF5 FF6 Z1 P1
  show Go p.tables e below _ T1 (mkF m 11 #[.val (.ref qa1), .val .null, .val (.double qd1), .second, .val (.double qd2), .second, .val (.ref qa2)] [])
  exact g_return C X1 d1_11 (⟨rfl, N1, by rw [e1]; exact P1, by rw [e1]; exact FF1, by rw [e1]; exact FF2, by rw [e1]; exact FF3, by rw [e1]; exact FF4, by rw [e1]; exact FF5, by rw [e1]; exact FF6⟩) (by decide) (by decide)
set_option maxRecDepth 65536 in
set_option maxHeartbeats 40000000 in
theorem k7_init (l : Launch) (Z : State) (a0 : Array Value) (hw : ∀ d ∈ tables_1, d.before a0 Z = true) (h : Heap) (n0 : Nat) (Z0 : n0 ≤ h.size) (qa1 : Addr) (qd1 : UInt64) (qz1 : Int) (qd2 : UInt64) (qz2 : Int) (qa2 : Addr) (z_qa1 : n0 ≤ qa1) (D_qd1 : FP.Core.DInt qz1 qd1) (D_qd2 : FP.Core.DInt qz2 qd2) (H1 : Exa Z h qa1 "com/example/sitewise/sitewise/Solution") (H2 : Fld Z h qa1 "com/example/sitewise/sitewise/Solution" "plan" "Lcom/example/sitewise/sitewise/Plan;" .null) (H3 : Fld Z h qa1 "com/example/sitewise/sitewise/Solution" "cost" "D" (.double (0 : UInt64))) (H4 : Fld Z h qa1 "com/example/sitewise/sitewise/Solution" "lowerBound" "D" (.double (0 : UInt64))) (H5 : Fld Z h qa1 "com/example/sitewise/sitewise/Solution" "guarantee" "Ljava/lang/String;" .null) (H6 : Fld Z h qa1 "com/example/sitewise/sitewise/Solution" "alpha" "[D" .null) :
    Con l Z (⟨"com/example/sitewise/sitewise/Solution", "<init>", "(Lcom/example/sitewise/sitewise/Plan;DDLjava/lang/String;[D)V"⟩ : MethodName) prog_34_method_2_code 8 none ⟨1, 0, 0, 12⟩ #[(.ref qa1), .null, (.double qd1), (.double qd2), (.ref qa2), .null] h (fun v h' L => v = none ∧ Fr n0 L ∧ Keep h h' [qa1] ∧ Exa Z h' qa1 "com/example/sitewise/sitewise/Solution" ∧ Fld Z h' qa1 "com/example/sitewise/sitewise/Solution" "plan" "Lcom/example/sitewise/sitewise/Plan;" .null ∧ Fld Z h' qa1 "com/example/sitewise/sitewise/Solution" "cost" "D" (.double qd1) ∧ Fld Z h' qa1 "com/example/sitewise/sitewise/Solution" "lowerBound" "D" (.double qd2) ∧ Fld Z h' qa1 "com/example/sitewise/sitewise/Solution" "guarantee" "Ljava/lang/String;" (.ref qa2) ∧ Fld Z h' qa1 "com/example/sitewise/sitewise/Solution" "alpha" "[D" .null) := by
  refine con_of_go kk_1 (fun m => kk_0 m qa1 qd1 qd2 qa2) ?_
  intro p e s m below meth c T0 C X0 e0
  refine g_aloadN C X0 (pc' := 1) d2_0 rfl rfl rfl ?_
  refine g_initO C X0 (hw _ (List.mem_of_getElem? (i := 17) rfl)) (hw _ (List.mem_of_getElem? (i := 18) rfl)) (hw _ (List.mem_of_getElem? (i := 19) rfl)) e0 d2_1 rfl 0 rfl (by decide) (by decide) rfl ?_
  intro T1 X1 e1
  refine g_aloadN C X1 (pc' := 5) d2_4 rfl rfl rfl ?_
  refine g_aloadN C X1 (pc' := 6) d2_5 rfl rfl rfl ?_
  refine g_putF C X1 (host := "") (Or.inl (hw _ (List.mem_of_getElem? (i := 20) rfl))) Via.refl e1 H2 H1 (Or.inr ⟨(hw _ (List.mem_of_getElem? (i := 21) rfl)), rfl, rfl⟩) (hw _ (List.mem_of_getElem? (i := 1) rfl)) (ty := (.object "com/example/sitewise/sitewise/Plan")) (by decide) rfl rfl d2_6 rfl ?_
  intro T2 h2 X2 e2 W2
  have H1 := H1.wr W2
  have H2 := H2.same W2
  have H3 := H3.other W2 (Or.inr (slot_ne (Or.inr (hw _ (List.mem_of_getElem? (i := 23) rfl))) (Or.inr (hw _ (List.mem_of_getElem? (i := 21) rfl))) (by decide) rfl rfl))
  have H4 := H4.other W2 (Or.inr (slot_ne (Or.inr (hw _ (List.mem_of_getElem? (i := 25) rfl))) (Or.inr (hw _ (List.mem_of_getElem? (i := 21) rfl))) (by decide) rfl rfl))
  have H5 := H5.other W2 (Or.inr (slot_ne (Or.inr (hw _ (List.mem_of_getElem? (i := 27) rfl))) (Or.inr (hw _ (List.mem_of_getElem? (i := 21) rfl))) (by decide) rfl rfl))
  have H6 := H6.other W2 (Or.inr (slot_ne (Or.inr (hw _ (List.mem_of_getElem? (i := 29) rfl))) (Or.inr (hw _ (List.mem_of_getElem? (i := 21) rfl))) (by decide) rfl rfl))
  have Z2 : n0 ≤ h2.size := by rw [W2.size]; exact Z0
  have N2 := Fr.snoc X2 (Fr.nil n0) z_qa1
  have P2 := (Keep.refl h [qa1]).wr W2 (Or.inl (List.mem_of_getElem? (i := 0) rfl))
  refine g_aloadN C X2 (pc' := 10) d2_9 rfl rfl rfl ?_
  refine g_dloadN C X2 (pc' := 11) d2_10 rfl rfl ?_
  refine g_putF C X2 (host := "") (Or.inl (hw _ (List.mem_of_getElem? (i := 22) rfl))) Via.refl e2 H3 H1 (Or.inr ⟨(hw _ (List.mem_of_getElem? (i := 23) rfl)), rfl, rfl⟩) (hw _ (List.mem_of_getElem? (i := 1) rfl)) (ty := .double) (by decide) rfl rfl d2_11 rfl ?_
  intro T3 h3 X3 e3 W3
  have H1 := H1.wr W3
  have H2 := H2.other W3 (Or.inr (slot_ne (Or.inr (hw _ (List.mem_of_getElem? (i := 21) rfl))) (Or.inr (hw _ (List.mem_of_getElem? (i := 23) rfl))) (by decide) rfl rfl))
  have H3 := H3.same W3
  have H4 := H4.other W3 (Or.inr (slot_ne (Or.inr (hw _ (List.mem_of_getElem? (i := 25) rfl))) (Or.inr (hw _ (List.mem_of_getElem? (i := 23) rfl))) (by decide) rfl rfl))
  have H5 := H5.other W3 (Or.inr (slot_ne (Or.inr (hw _ (List.mem_of_getElem? (i := 27) rfl))) (Or.inr (hw _ (List.mem_of_getElem? (i := 23) rfl))) (by decide) rfl rfl))
  have H6 := H6.other W3 (Or.inr (slot_ne (Or.inr (hw _ (List.mem_of_getElem? (i := 29) rfl))) (Or.inr (hw _ (List.mem_of_getElem? (i := 23) rfl))) (by decide) rfl rfl))
  have Z3 : n0 ≤ h3.size := by rw [W3.size]; exact Z2
  have N3 := Fr.snoc X3 N2 z_qa1
  have P3 := P2.wr W3 (Or.inl (List.mem_of_getElem? (i := 0) rfl))
  refine g_aloadN C X3 (pc' := 15) d2_14 rfl rfl rfl ?_
  refine g_dload C X3 (pc' := 17) d2_15 rfl rfl ?_
  refine g_putF C X3 (host := "") (Or.inl (hw _ (List.mem_of_getElem? (i := 24) rfl))) Via.refl e3 H4 H1 (Or.inr ⟨(hw _ (List.mem_of_getElem? (i := 25) rfl)), rfl, rfl⟩) (hw _ (List.mem_of_getElem? (i := 1) rfl)) (ty := .double) (by decide) rfl rfl d2_17 rfl ?_
  intro T4 h4 X4 e4 W4
  have H1 := H1.wr W4
  have H2 := H2.other W4 (Or.inr (slot_ne (Or.inr (hw _ (List.mem_of_getElem? (i := 21) rfl))) (Or.inr (hw _ (List.mem_of_getElem? (i := 25) rfl))) (by decide) rfl rfl))
  have H3 := H3.other W4 (Or.inr (slot_ne (Or.inr (hw _ (List.mem_of_getElem? (i := 23) rfl))) (Or.inr (hw _ (List.mem_of_getElem? (i := 25) rfl))) (by decide) rfl rfl))
  have H4 := H4.same W4
  have H5 := H5.other W4 (Or.inr (slot_ne (Or.inr (hw _ (List.mem_of_getElem? (i := 27) rfl))) (Or.inr (hw _ (List.mem_of_getElem? (i := 25) rfl))) (by decide) rfl rfl))
  have H6 := H6.other W4 (Or.inr (slot_ne (Or.inr (hw _ (List.mem_of_getElem? (i := 29) rfl))) (Or.inr (hw _ (List.mem_of_getElem? (i := 25) rfl))) (by decide) rfl rfl))
  have Z4 : n0 ≤ h4.size := by rw [W4.size]; exact Z3
  have N4 := Fr.snoc X4 N3 z_qa1
  have P4 := P3.wr W4 (Or.inl (List.mem_of_getElem? (i := 0) rfl))
  refine g_aloadN C X4 (pc' := 21) d2_20 rfl rfl rfl ?_
  refine g_aload C X4 (pc' := 23) d2_21 rfl rfl rfl ?_
  refine g_putF C X4 (host := "") (Or.inl (hw _ (List.mem_of_getElem? (i := 26) rfl))) Via.refl e4 H5 H1 (Or.inr ⟨(hw _ (List.mem_of_getElem? (i := 27) rfl)), rfl, rfl⟩) (hw _ (List.mem_of_getElem? (i := 1) rfl)) (ty := (.object "java/lang/String")) (by decide) rfl rfl d2_23 rfl ?_
  intro T5 h5 X5 e5 W5
  have H1 := H1.wr W5
  have H2 := H2.other W5 (Or.inr (slot_ne (Or.inr (hw _ (List.mem_of_getElem? (i := 21) rfl))) (Or.inr (hw _ (List.mem_of_getElem? (i := 27) rfl))) (by decide) rfl rfl))
  have H3 := H3.other W5 (Or.inr (slot_ne (Or.inr (hw _ (List.mem_of_getElem? (i := 23) rfl))) (Or.inr (hw _ (List.mem_of_getElem? (i := 27) rfl))) (by decide) rfl rfl))
  have H4 := H4.other W5 (Or.inr (slot_ne (Or.inr (hw _ (List.mem_of_getElem? (i := 25) rfl))) (Or.inr (hw _ (List.mem_of_getElem? (i := 27) rfl))) (by decide) rfl rfl))
  have H5 := H5.same W5
  have H6 := H6.other W5 (Or.inr (slot_ne (Or.inr (hw _ (List.mem_of_getElem? (i := 29) rfl))) (Or.inr (hw _ (List.mem_of_getElem? (i := 27) rfl))) (by decide) rfl rfl))
  have Z5 : n0 ≤ h5.size := by rw [W5.size]; exact Z4
  have N5 := Fr.snoc X5 N4 z_qa1
  have P5 := P4.wr W5 (Or.inl (List.mem_of_getElem? (i := 0) rfl))
  refine g_aloadN C X5 (pc' := 27) d2_26 rfl rfl rfl ?_
  refine g_aload C X5 (pc' := 29) d2_27 rfl rfl rfl ?_
  refine g_putF C X5 (host := "") (Or.inl (hw _ (List.mem_of_getElem? (i := 28) rfl))) Via.refl e5 H6 H1 (Or.inr ⟨(hw _ (List.mem_of_getElem? (i := 29) rfl)), rfl, rfl⟩) (hw _ (List.mem_of_getElem? (i := 1) rfl)) (ty := (.array .double)) (by decide) rfl rfl d2_29 rfl ?_
  intro T6 h6 X6 e6 W6
  have H1 := H1.wr W6
  have H2 := H2.other W6 (Or.inr (slot_ne (Or.inr (hw _ (List.mem_of_getElem? (i := 21) rfl))) (Or.inr (hw _ (List.mem_of_getElem? (i := 29) rfl))) (by decide) rfl rfl))
  have H3 := H3.other W6 (Or.inr (slot_ne (Or.inr (hw _ (List.mem_of_getElem? (i := 23) rfl))) (Or.inr (hw _ (List.mem_of_getElem? (i := 29) rfl))) (by decide) rfl rfl))
  have H4 := H4.other W6 (Or.inr (slot_ne (Or.inr (hw _ (List.mem_of_getElem? (i := 25) rfl))) (Or.inr (hw _ (List.mem_of_getElem? (i := 29) rfl))) (by decide) rfl rfl))
  have H5 := H5.other W6 (Or.inr (slot_ne (Or.inr (hw _ (List.mem_of_getElem? (i := 27) rfl))) (Or.inr (hw _ (List.mem_of_getElem? (i := 29) rfl))) (by decide) rfl rfl))
  have H6 := H6.same W6
  have Z6 : n0 ≤ h6.size := by rw [W6.size]; exact Z5
  have N6 := Fr.snoc X6 N5 z_qa1
  have P6 := P5.wr W6 (Or.inl (List.mem_of_getElem? (i := 0) rfl))
  exact g_return C X6 d2_32 (⟨rfl, N6, by rw [e6]; exact P6, by rw [e6]; exact H1, by rw [e6]; exact H2, by rw [e6]; exact H3, by rw [e6]; exact H4, by rw [e6]; exact H5, by rw [e6]; exact H6⟩) (by decide) (by decide)
set_option maxRecDepth 65536 in
set_option maxHeartbeats 40000000 in
theorem k8_init (l : Launch) (Z : State) (a0 : Array Value) (hw : ∀ d ∈ tables_1, d.before a0 Z = true) (h : Heap) (n0 : Nat) (Z0 : n0 ≤ h.size) (qa1 : Addr) (qd1 : UInt64) (qz1 : Int) (qd2 : UInt64) (qz2 : Int) (qa2 : Addr) (z_qa1 : n0 ≤ qa1) (D_qd1 : FP.Core.DInt qz1 qd1) (D_qd2 : FP.Core.DInt qz2 qd2) (H1 : Exa Z h qa1 "com/example/sitewise/sitewise/Solution") (H2 : Fld Z h qa1 "com/example/sitewise/sitewise/Solution" "plan" "Lcom/example/sitewise/sitewise/Plan;" .null) (H3 : Fld Z h qa1 "com/example/sitewise/sitewise/Solution" "cost" "D" (.double (0 : UInt64))) (H4 : Fld Z h qa1 "com/example/sitewise/sitewise/Solution" "lowerBound" "D" (.double (0 : UInt64))) (H5 : Fld Z h qa1 "com/example/sitewise/sitewise/Solution" "guarantee" "Ljava/lang/String;" .null) (H6 : Fld Z h qa1 "com/example/sitewise/sitewise/Solution" "alpha" "[D" .null) :
    Con l Z (⟨"com/example/sitewise/sitewise/Solution", "<init>", "(Lcom/example/sitewise/sitewise/Plan;DDLjava/lang/String;)V"⟩ : MethodName) prog_34_method_1_code 7 none ⟨2, 0, 0, 31⟩ #[(.ref qa1), .null, (.double qd1), (.double qd2), (.ref qa2)] h (fun v h' L => v = none ∧ Fr n0 L ∧ Keep h h' [qa1] ∧ Exa Z h' qa1 "com/example/sitewise/sitewise/Solution" ∧ Fld Z h' qa1 "com/example/sitewise/sitewise/Solution" "plan" "Lcom/example/sitewise/sitewise/Plan;" .null ∧ Fld Z h' qa1 "com/example/sitewise/sitewise/Solution" "cost" "D" (.double qd1) ∧ Fld Z h' qa1 "com/example/sitewise/sitewise/Solution" "lowerBound" "D" (.double qd2) ∧ Fld Z h' qa1 "com/example/sitewise/sitewise/Solution" "guarantee" "Ljava/lang/String;" (.ref qa2) ∧ Fld Z h' qa1 "com/example/sitewise/sitewise/Solution" "alpha" "[D" .null) := by
  refine con_of_go kk_1 (fun m => kk_3 m qa1 qd1 qd2 qa2) ?_
  intro p e s m below meth c T0 C X0 e0
  refine g_aloadN C X0 (pc' := 1) d1_0 rfl rfl rfl ?_
  refine g_aloadN C X0 (pc' := 2) d1_1 rfl rfl rfl ?_
  refine g_dloadN C X0 (pc' := 3) d1_2 rfl rfl ?_
  refine g_dload C X0 (pc' := 5) d1_3 rfl rfl ?_
  refine g_aload C X0 (pc' := 7) d1_5 rfl rfl rfl ?_
  refine g_aconstNull C X0 (pc' := 8) d1_7 rfl ?_
  refine g_callI C X0 (k7_init l Z a0 hw h n0 Z0 qa1 qd1 qz1 qd2 qz2 qa2 z_qa1  D_qd1 D_qd2 H1 H2 H3 H4 H5 H6) rfl (hw _ (List.mem_of_getElem? (i := 14) rfl)) (hw _ (List.mem_of_getElem? (i := 15) rfl)) (hw _ (List.mem_of_getElem? (i := 2) rfl)) (hw _ (List.mem_of_getElem? (i := 16) rfl)) (by decide) e0 d1_8 rfl kk_2 qa1 [.null, (.double qd1), (.double qd2), (.ref qa2), .null] [] rfl rfl rfl 0 rfl (by decide) (by decide) (by decide) (by decide) rfl ?_
  rintro _ T1 L1 X1 ⟨rfl, M1, K1, FF1, FF2, FF3, FF4, FF5, FF6⟩
  have Z1 : n0 ≤ T1.heap.size := Nat.le_trans Z0 K1.1
  have P1 := (Keep.refl h [qa1]).trans K1 (alc (Or.inl (List.mem_of_getElem? (i := 0) rfl)) al0)
  have N1 := Fr.app (Fr.nil n0) M1
  obtain ⟨h1, e1⟩ : ∃ z, T1.heap = z := ⟨_, rfl⟩
  rw [e1] at FF1 FF2 FF3 FF4 FF5 FF6 Z1 P1
  show Go p.tables e below _ T1 (mkF m 11 #[.val (.ref qa1), .val .null, .val (.double qd1), .second, .val (.double qd2), .second, .val (.ref qa2)] [])
  exact g_return C X1 d1_11 (⟨rfl, N1, by rw [e1]; exact P1, by rw [e1]; exact FF1, by rw [e1]; exact FF2, by rw [e1]; exact FF3, by rw [e1]; exact FF4, by rw [e1]; exact FF5, by rw [e1]; exact FF6⟩) (by decide) (by decide)
set_option maxRecDepth 65536 in
set_option maxHeartbeats 40000000 in
theorem law (l : Launch) (Z : State) (a0 : Array Value) (hw : ∀ d ∈ tables_1, d.before a0 Z = true) (p0 p1 p2 p3 : Int32) (h : Heap) (n0 : Nat) (Z0 : n0 ≤ h.size) :
    ConW l Z x code maxLocals ret room_1 #[.int p0, .int p1, .int p2, .int p3] h (fun v _ L => v = some (.int 1) ∧ Fr n0 L) := by
  have wS : ∀ a ∈ Bundle.stringAtoms, a.before a0 Z = true := fun a ha => by
    simp only [Bundle.stringAtoms, List.mem_cons, List.not_mem_nil, or_false] at ha
    rcases ha with rfl | rfl | rfl | rfl | rfl | rfl | rfl
    · exact (hw _ (List.mem_of_getElem? (i := 4) rfl))
    · exact (hw _ (List.mem_of_getElem? (i := 5) rfl))
    · exact (hw _ (List.mem_of_getElem? (i := 6) rfl))
    · exact (hw _ (List.mem_of_getElem? (i := 7) rfl))
    · exact (hw _ (List.mem_of_getElem? (i := 8) rfl))
    · exact (hw _ (List.mem_of_getElem? (i := 9) rfl))
    · exact (hw _ (List.mem_of_getElem? (i := 10) rfl))
  refine conW_of_go pn0 (fun m => ef0 m p0 p1 p2 p3) ?_
  intro p e s m below meth c T0 C X0 e0
  refine g_iloadN C X0 (pc' := 1) at_0 rfl rfl ?_
  refine g_iconst C X0 (pc' := 2) at_1 (v := (3 : Int32)) (by decide) rfl ?_
  refine g_iand C X0 (pc' := 3) at_2 rfl ?_
  refine g_if C X0 at_3 (pc' := 61) (pc'' := 6) (by decide) (by decide) rfl (fun c3 => ?_) (fun c3 => ?_)
  · have c3 : ¬ ((p3 &&& (3 : Int32)).toInt = 0) := c3
    refine g_iloadN C X0 (pc' := 62) at_61 rfl rfl ?_
    refine g_i2d C X0 (pc' := 63) at_62 rfl ?_
    obtain ⟨d1, e_d1⟩ : ∃ z : UInt64, z = FP.i2d p0 := ⟨_, rfl⟩
    have D_d1 : FP.Core.DInt p0.toInt d1 := e_d1 ▸ (i2d_D p0)
    refine g_dstore C X0 (pc' := 65) at_63 (x := d1) e_d1 (l' := #[.val (.int p0), .val (.int p1), .val (.int p2), .val (.int p3), .val (.double d1), .second, .unset, .unset, .unset, .unset, .unset, .unset, .unset]) rfl rfl ?_
    refine g_iloadN C X0 (pc' := 66) at_65 rfl rfl ?_
    refine g_iconst C X0 (pc' := 67) at_66 (v := (4 : Int32)) (by decide) rfl ?_
    refine g_iand C X0 (pc' := 68) at_67 rfl ?_
    refine g_if C X0 at_68 (pc' := 76) (pc'' := 71) (by decide) (by decide) rfl (fun c68 => ?_) (fun c68 => ?_)
    · have c68 : (p3 &&& (4 : Int32)).toInt = 0 := c68
      refine g_iloadN C X0 (pc' := 77) at_76 rfl rfl ?_
      refine g_i2d C X0 (pc' := 78) at_77 rfl ?_
      obtain ⟨d2, e_d2⟩ : ∃ z : UInt64, z = FP.i2d p1 := ⟨_, rfl⟩
      have D_d2 : FP.Core.DInt p1.toInt d2 := e_d2 ▸ (i2d_D p1)
      refine g_dstore C X0 (pc' := 80) at_78 (x := d2) e_d2 (l' := #[.val (.int p0), .val (.int p1), .val (.int p2), .val (.int p3), .val (.double d1), .second, .val (.double d2), .second, .unset, .unset, .unset, .unset, .unset]) rfl rfl ?_
      refine g_iloadN C X0 (pc' := 81) at_80 rfl rfl ?_
      refine g_bipush C X0 (pc' := 83) at_81 (v := (8 : Int32)) (by decide) rfl ?_
      refine g_iand C X0 (pc' := 84) at_83 rfl ?_
      refine g_if C X0 at_84 (pc' := 92) (pc'' := 87) (by decide) (by decide) rfl (fun c84 => ?_) (fun c84 => ?_)
      · have c84 : (p3 &&& (8 : Int32)).toInt = 0 := c84
        have r0 := own_b32 p0
        have r1 := own_b32 p1
        have bi : -2147483648 ≤ p0.toInt ∧ p0.toInt ≤ 2147483648 := by omega
        have bj : -2147483648 ≤ p1.toInt ∧ p1.toInt ≤ 2147483648 := by omega
        refine g_new C X0 (hw _ (List.mem_of_getElem? (i := 0) rfl)) (hw _ (List.mem_of_getElem? (i := 1) rfl)) (hw _ (List.mem_of_getElem? (i := 2) rfl)) e0 at_92 (by decide) (by decide) rfl ?_
        intro T1 h1 a1 g1 X1 e1 E1 A1 D1
        have z_a1 : n0 ≤ a1 := by rw [g1]; exact Z0
        have Z1 : n0 ≤ h1.size := Nat.le_trans Z0 E1.1
        have F1_1 : Fld Z h1 a1 "com/example/sitewise/sitewise/Solution" "plan" "Lcom/example/sitewise/sitewise/Plan;" .null := D1 (Or.inr (hw _ (List.mem_of_getElem? (i := 21) rfl))) (ty := (.object "com/example/sitewise/sitewise/Plan")) (by decide)
        have F1_2 : Fld Z h1 a1 "com/example/sitewise/sitewise/Solution" "cost" "D" (.double (0 : UInt64)) := D1 (Or.inr (hw _ (List.mem_of_getElem? (i := 23) rfl))) (ty := .double) (by decide)
        have F1_3 : Fld Z h1 a1 "com/example/sitewise/sitewise/Solution" "lowerBound" "D" (.double (0 : UInt64)) := D1 (Or.inr (hw _ (List.mem_of_getElem? (i := 25) rfl))) (ty := .double) (by decide)
        have F1_4 : Fld Z h1 a1 "com/example/sitewise/sitewise/Solution" "guarantee" "Ljava/lang/String;" .null := D1 (Or.inr (hw _ (List.mem_of_getElem? (i := 27) rfl))) (ty := (.object "java/lang/String")) (by decide)
        have F1_5 : Fld Z h1 a1 "com/example/sitewise/sitewise/Solution" "alpha" "[D" .null := D1 (Or.inr (hw _ (List.mem_of_getElem? (i := 29) rfl))) (ty := (.array .double)) (by decide)
        refine g_dup C X1 (pc' := 96) at_95 rfl rfl ?_
        refine g_aconstNull C X1 (pc' := 97) at_96 rfl ?_
        refine g_dload C X1 (pc' := 99) at_97 rfl rfl ?_
        refine g_dload C X1 (pc' := 101) at_99 rfl rfl ?_
        refine g_ldcS1 C X1 (hw _ (List.mem_of_getElem? (i := 3) rfl)) wS e1 at_101 4 (by decide) (by decide) (by decide) (by decide) rfl ?_
        intro a2 T2 h2 k2 C X2 e2 E2 S2 Y2
        have A1 := A1.ext E2
        have F1_1 := F1_1.ext E2
        have F1_2 := F1_2.ext E2
        have F1_3 := F1_3.ext E2
        have F1_4 := F1_4.ext E2
        have F1_5 := F1_5.ext E2
        have Z2 : n0 ≤ h2.size := Nat.le_trans Z1 E2.1
        refine g_callI C X2 (k2_init l Z a0 hw h2 n0 Z2 a1 d1 p0.toInt d2 p1.toInt a2 z_a1  D_d1 (own_b32 p0) D_d2 (own_b32 p1) A1 F1_1 F1_2 F1_3 F1_4 F1_5) rfl (hw _ (List.mem_of_getElem? (i := 11) rfl)) (hw _ (List.mem_of_getElem? (i := 12) rfl)) (hw _ (List.mem_of_getElem? (i := 2) rfl)) (hw _ (List.mem_of_getElem? (i := 13) rfl)) (by decide) e2 at_103 rfl kk_4 a1 [.null, (.double d1), (.double d2), (.ref a2)] [(.ref a1)] rfl rfl rfl 1 rfl (by decide) (by decide) (by decide) (by decide) rfl ?_
        rintro _ T3 L3 X3 ⟨rfl, M3, K3, FF3, FF4, FF5, FF6, FF7, FF8⟩
        have Y2 := Y2.keep K3
        have Z3 : n0 ≤ T3.heap.size := Nat.le_trans Z2 K3.1
        have N3 := Fr.app (Fr.nil n0) M3
        obtain ⟨h3, e3⟩ : ∃ z, T3.heap = z := ⟨_, rfl⟩
        rw [e3] at Y2 FF3 FF4 FF5 FF6 FF7 FF8 Z3
        show Go p.tables e below _ T3 (mkF m 106 #[.val (.int p0), .val (.int p1), .val (.int p2), .val (.int p3), .val (.double d1), .second, .val (.double d2), .second, .unset, .unset, .unset, .unset, .unset] [(.ref a1)])
        refine g_astore C X3 (pc' := 108) at_106 rfl (l' := #[.val (.int p0), .val (.int p1), .val (.int p2), .val (.int p3), .val (.double d1), .second, .val (.double d2), .second, .val (.ref a1), .unset, .unset, .unset, .unset]) rfl rfl ?_
        refine g_aload C X3 (pc' := 110) at_108 rfl rfl rfl ?_
        refine g_callV C X3 (c_ratG l Z a0 hw h3 a1 d1 d2 _ _ D_d1 D_d2 FF5 FF6 bi bj) (hw _ (List.mem_of_getElem? (i := 30) rfl)) (hw _ (List.mem_of_getElem? (i := 31) rfl)) (hw _ (List.mem_of_getElem? (i := 33) rfl)) (hw _ (List.mem_of_getElem? (i := 32) rfl)) (hw _ (List.mem_of_getElem? (i := 2) rfl)) (hw _ (List.mem_of_getElem? (i := 34) rfl)) (by decide) e3 FF3 at_110 rfl pdR [] [] rfl rfl rfl 0 rfl (by decide) (by decide) (by decide) (by decide) rfl ?_
        rintro w4 T4 L4 X4 ⟨r4, w_, Q4, l_, e4⟩
        subst w_ l_
        rw [List.append_nil] at X4
        rcases Q4 with ⟨pj, Rr⟩ | ⟨pj, pi, rfl⟩ | ⟨pj, pi, rfl⟩
        · show Go p.tables e below _ T4 (mkF m 113 #[.val (.int p0), .val (.int p1), .val (.int p2), .val (.int p3), .val (.double d1), .second, .val (.double d2), .second, .val (.ref a1), .unset, .unset, .unset, .unset] [(.double r4)])
          refine g_dstore C X4 (pc' := 115) at_113 (x := r4) rfl (l' := #[.val (.int p0), .val (.int p1), .val (.int p2), .val (.int p3), .val (.double d1), .second, .val (.double d2), .second, .val (.ref a1), .val (.double r4), .second, .unset, .unset]) rfl rfl ?_
          refine g_dload C X4 (pc' := 117) at_115 rfl rfl ?_
          refine g_dconst0 C X4 (pc' := 118) at_117 rfl rfl ?_
          rw [kk_5]
          refine g_dcmpV C X4 (pc' := 119) at_118 (dcmp_cmpI D_d2 dint_zero _) rfl ?_
          refine g_if C X4 at_119 (pc' := 220) (pc'' := 122) (by decide) (by decide) rfl (fun c119 => ?_) (fun c119 => ?_)
          · have c119 : ¬ (0 < (cmpI p1.toInt 0).toInt) := c119
            have c119 : ¬ (0 < p1.toInt) := fun q => c119 ((cmpI_gt _ _).mpr q)
            refine g_dload C X4 (pc' := 222) at_220 rfl rfl ?_
            refine g_dconst0 C X4 (pc' := 223) at_222 rfl rfl ?_
            rw [kk_5]
            refine g_dcmpV C X4 (pc' := 224) at_223 (dcmp_cmpI D_d2 dint_zero _) rfl ?_
            refine g_if C X4 at_224 (pc' := 247) (pc'' := 227) (by decide) (by decide) rfl (fun c224 => ?_) (fun c224 => ?_)
            · have c224 : ¬ ((cmpI p1.toInt 0).toInt = 0) := c224
              have c224 : ¬ (p1.toInt = 0) := fun q => c224 ((cmpI_eq _ _).mpr q)
              refine g_dload C X4 (pc' := 249) at_247 rfl rfl ?_
              refine g_dload C X4 (pc' := 251) at_249 rfl rfl ?_
              refine g_dcmp C X4 (pc' := 252) at_251 rfl ?_
              refine g_if C X4 at_252 (pc' := 259) (pc'' := 255) (by decide) (by decide) rfl (fun c252 => ?_) (fun c252 => ?_)
              · have c252 : (cmpValue (FP.dcmp r4 r4) .l).toInt = 0 := c252
                refine g_iconst C X4 (pc' := 260) at_259 (v := (0 : Int32)) (by decide) rfl ?_
                exfalso; omega
              · have c252 : ¬ ((cmpValue (FP.dcmp r4 r4) .l).toInt = 0) := c252
                refine g_iconst C X4 (pc' := 256) at_255 (v := (1 : Int32)) (by decide) rfl ?_
                refine g_goto C X4 at_256 (pc' := 260) (by decide) (by decide) ?_
                exact g_zreturnW C X4 S2 e4 Y2 at_260 (w := 1) (by decide) ⟨rfl, N3⟩ (by decide) (by decide)
            · have c224 : (cmpI p1.toInt 0).toInt = 0 := Decidable.not_not.mp c224
              have c224 : p1.toInt = 0 := (cmpI_eq _ _).mp c224
              refine g_dload C X4 (pc' := 229) at_227 rfl rfl ?_
              refine g_dconst0 C X4 (pc' := 230) at_229 rfl rfl ?_
              rw [kk_5]
              refine g_dcmpV C X4 (pc' := 231) at_230 (dcmp_cmpI D_d1 dint_zero _) rfl ?_
              refine g_if C X4 at_231 (pc' := 247) (pc'' := 234) (by decide) (by decide) rfl (fun c231 => ?_) (fun c231 => ?_)
              · have c231 : ¬ ((cmpI p0.toInt 0).toInt = 0) := c231
                have c231 : ¬ (p0.toInt = 0) := fun q => c231 ((cmpI_eq _ _).mpr q)
                refine g_dload C X4 (pc' := 249) at_247 rfl rfl ?_
                refine g_dload C X4 (pc' := 251) at_249 rfl rfl ?_
                refine g_dcmp C X4 (pc' := 252) at_251 rfl ?_
                refine g_if C X4 at_252 (pc' := 259) (pc'' := 255) (by decide) (by decide) rfl (fun c252 => ?_) (fun c252 => ?_)
                · have c252 : (cmpValue (FP.dcmp r4 r4) .l).toInt = 0 := c252
                  refine g_iconst C X4 (pc' := 260) at_259 (v := (0 : Int32)) (by decide) rfl ?_
                  exfalso; omega
                · have c252 : ¬ ((cmpValue (FP.dcmp r4 r4) .l).toInt = 0) := c252
                  refine g_iconst C X4 (pc' := 256) at_255 (v := (1 : Int32)) (by decide) rfl ?_
                  refine g_goto C X4 at_256 (pc' := 260) (by decide) (by decide) ?_
                  exact g_zreturnW C X4 S2 e4 Y2 at_260 (w := 1) (by decide) ⟨rfl, N3⟩ (by decide) (by decide)
              · have c231 : (cmpI p0.toInt 0).toInt = 0 := Decidable.not_not.mp c231
                have c231 : p0.toInt = 0 := (cmpI_eq _ _).mp c231
                refine g_dload C X4 (pc' := 236) at_234 rfl rfl ?_
                refine g_dconst1 C X4 (pc' := 237) at_236 rfl rfl ?_
                rw [kk_6]
                refine g_dcmp C X4 (pc' := 238) at_237 rfl ?_
                refine g_if C X4 at_238 (pc' := 245) (pc'' := 241) (by decide) (by decide) rfl (fun c238 => ?_) (fun c238 => ?_)
                · have c238 : ¬ ((cmpValue (FP.dcmp r4 (4607182418800017408 : UInt64)) .l).toInt = 0) := c238
                  refine g_iconst C X4 (pc' := 246) at_245 (v := (0 : Int32)) (by decide) rfl ?_
                  exfalso; omega
                · have c238 : (cmpValue (FP.dcmp r4 (4607182418800017408 : UInt64)) .l).toInt = 0 := Decidable.not_not.mp c238
                  refine g_iconst C X4 (pc' := 242) at_241 (v := (1 : Int32)) (by decide) rfl ?_
                  refine g_goto C X4 at_242 (pc' := 246) (by decide) (by decide) ?_
                  exact g_zreturnW C X4 S2 e4 Y2 at_246 (w := 1) (by decide) ⟨rfl, N3⟩ (by decide) (by decide)
          · have c119 : 0 < (cmpI p1.toInt 0).toInt := Decidable.not_not.mp c119
            have c119 : 0 < p1.toInt := (cmpI_gt _ _).mp c119
            refine g_dload C X4 (pc' := 124) at_122 rfl rfl ?_
            refine g_dload C X4 (pc' := 126) at_124 rfl rfl ?_
            refine g_dcmpV C X4 (pc' := 127) at_126 (v := (0 : Int32)) (own_self Rr.1 _) rfl ?_
            refine g_ifY C X4 at_127 (pc' := 132) (by decide) (by decide) (by decide) ?_
            have Rq := Rr
            obtain ⟨-, R1, R2, R3, -, -, -⟩ := Rq
            refine g_dload C X4 (pc' := 134) at_132 rfl rfl ?_
            refine g_dconst0 C X4 (pc' := 135) at_134 rfl rfl ?_
            rw [kk_5]
            refine g_dcmpV C X4 (pc' := 136) at_135 (dcmp_cmpI D_d1 dint_zero _) rfl ?_
            refine g_if C X4 at_136 (pc' := 148) (pc'' := 139) (by decide) (by decide) rfl (fun c136 => ?_) (fun c136 => ?_)
            · have c136 : ¬ (0 < (cmpI p0.toInt 0).toInt) := c136
              have c136 : ¬ (0 < p0.toInt) := fun q => c136 ((cmpI_gt _ _).mpr q)
              refine g_dload C X4 (pc' := 150) at_148 rfl rfl ?_
              refine g_dconst0 C X4 (pc' := 151) at_150 rfl rfl ?_
              rw [kk_5]
              refine g_dcmpV C X4 (pc' := 152) at_151 (dcmp_cmpI D_d1 dint_zero _) rfl ?_
              refine g_if C X4 at_152 (pc' := 164) (pc'' := 155) (by decide) (by decide) rfl (fun c152 => ?_) (fun c152 => ?_)
              · have c152 : ¬ ((cmpI p0.toInt 0).toInt < 0) := c152
                have c152 : ¬ (p0.toInt < 0) := fun q => c152 ((cmpI_lt _ _).mpr q)
                refine g_dload C X4 (pc' := 166) at_164 rfl rfl ?_
                refine g_dconst0 C X4 (pc' := 167) at_166 rfl rfl ?_
                rw [kk_5]
                refine g_dcmpV C X4 (pc' := 168) at_167 (dcmp_cmpI D_d1 dint_zero _) rfl ?_
                refine g_if C X4 at_168 (pc' := 180) (pc'' := 171) (by decide) (by decide) rfl (fun c168 => ?_) (fun c168 => ?_)
                · have c168 : ¬ ((cmpI p0.toInt 0).toInt = 0) := c168
                  have c168 : ¬ (p0.toInt = 0) := fun q => c168 ((cmpI_eq _ _).mpr q)
                  refine g_dload C X4 (pc' := 182) at_180 rfl rfl ?_
                  refine g_dconst0 C X4 (pc' := 183) at_182 rfl rfl ?_
                  rw [kk_5]
                  refine g_dcmpV C X4 (pc' := 184) at_183 (dcmp_cmpI D_d1 dint_zero _) rfl ?_
                  refine g_ifY C X4 at_184 (pc' := 193) (by decide) (by decide) (fun q => c152 ((cmpI_lt _ _).mp q)) ?_
                  refine g_dload C X4 (pc' := 195) at_193 rfl rfl ?_
                  refine g_dstore C X4 (pc' := 197) at_195 (x := d1) rfl (l' := #[.val (.int p0), .val (.int p1), .val (.int p2), .val (.int p3), .val (.double d1), .second, .val (.double d2), .second, .val (.ref a1), .val (.double r4), .second, .val (.double d1), .second]) rfl rfl ?_
                  have Rq := Rr
                  obtain ⟨-, R1, R2, R3, R4, R5, R6⟩ := Rq
                  refine g_dload C X4 (pc' := 199) at_197 rfl rfl ?_
                  refine g_dload C X4 (pc' := 201) at_199 rfl rfl ?_
                  refine g_dcmpV C X4 (pc' := 202) at_201 (dcmp_dz Rr.1 (nn_of_int D_d1) _) rfl ?_
                  refine g_if C X4 at_202 (pc' := 218) (pc'' := 205) (by decide) (by decide) rfl (fun c202 => ?_) (fun c202 => ?_)
                  · have c202 : 0 < (cmpI (dz r4) (dz d1)).toInt := c202
                    have c202 : dz d1 < dz r4 := (cmpI_gt _ _).mp c202
                    refine g_iconst C X4 (pc' := 219) at_218 (v := (0 : Int32)) (by decide) rfl ?_
                    exfalso; omega
                  · have c202 : ¬ (0 < (cmpI (dz r4) (dz d1)).toInt) := c202
                    have c202 : ¬ (dz d1 < dz r4) := fun q => c202 ((cmpI_gt _ _).mpr q)
                    refine g_dload C X4 (pc' := 207) at_205 rfl rfl ?_
                    refine g_dneg C X4 (pc' := 208) at_207 rfl ?_
                    refine g_dload C X4 (pc' := 210) at_208 rfl rfl ?_
                    refine g_dcmpV C X4 (pc' := 211) at_210 (own_cn Rr.1 (nn_of_int D_d1) _) rfl ?_
                    refine g_if C X4 at_211 (pc' := 218) (pc'' := 214) (by decide) (by decide) rfl (fun c211 => ?_) (fun c211 => ?_)
                    · have c211 : 0 < (cmpI (-dz r4) (dz d1)).toInt := c211
                      have c211 : dz d1 < -dz r4 := (cmpI_gt _ _).mp c211
                      refine g_iconst C X4 (pc' := 219) at_218 (v := (0 : Int32)) (by decide) rfl ?_
                      exfalso; omega
                    · have c211 : ¬ (0 < (cmpI (-dz r4) (dz d1)).toInt) := c211
                      have c211 : ¬ (dz d1 < -dz r4) := fun q => c211 ((cmpI_gt _ _).mpr q)
                      refine g_iconst C X4 (pc' := 215) at_214 (v := (1 : Int32)) (by decide) rfl ?_
                      refine g_goto C X4 at_215 (pc' := 219) (by decide) (by decide) ?_
                      exact g_zreturnW C X4 S2 e4 Y2 at_219 (w := 1) (by decide) ⟨rfl, N3⟩ (by decide) (by decide)
                · have c168 : (cmpI p0.toInt 0).toInt = 0 := Decidable.not_not.mp c168
                  have c168 : p0.toInt = 0 := (cmpI_eq _ _).mp c168
                  refine g_dload C X4 (pc' := 173) at_171 rfl rfl ?_
                  refine g_dconst0 C X4 (pc' := 174) at_173 rfl rfl ?_
                  rw [kk_5]
                  refine g_dcmpV C X4 (pc' := 175) at_174 (own_c0 Rr.1 _) rfl ?_
                  refine g_if C X4 at_175 (pc' := 180) (pc'' := 178) (by decide) (by decide) rfl (fun c175 => ?_) (fun c175 => ?_)
                  · have c175 : (cmpI (dz r4) 0).toInt = 0 := c175
                    have c175 : dz r4 = 0 := (cmpI_eq _ _).mp c175
                    refine g_dload C X4 (pc' := 182) at_180 rfl rfl ?_
                    refine g_dconst0 C X4 (pc' := 183) at_182 rfl rfl ?_
                    rw [kk_5]
                    refine g_dcmpV C X4 (pc' := 184) at_183 (dcmp_cmpI D_d1 dint_zero _) rfl ?_
                    refine g_ifY C X4 at_184 (pc' := 193) (by decide) (by decide) (fun q => c152 ((cmpI_lt _ _).mp q)) ?_
                    refine g_dload C X4 (pc' := 195) at_193 rfl rfl ?_
                    refine g_dstore C X4 (pc' := 197) at_195 (x := d1) rfl (l' := #[.val (.int p0), .val (.int p1), .val (.int p2), .val (.int p3), .val (.double d1), .second, .val (.double d2), .second, .val (.ref a1), .val (.double r4), .second, .val (.double d1), .second]) rfl rfl ?_
                    have Rq := Rr
                    obtain ⟨-, R1, R2, R3, R4, R5, R6⟩ := Rq
                    refine g_dload C X4 (pc' := 199) at_197 rfl rfl ?_
                    refine g_dload C X4 (pc' := 201) at_199 rfl rfl ?_
                    refine g_dcmpV C X4 (pc' := 202) at_201 (dcmp_dz Rr.1 (nn_of_int D_d1) _) rfl ?_
                    refine g_if C X4 at_202 (pc' := 218) (pc'' := 205) (by decide) (by decide) rfl (fun c202 => ?_) (fun c202 => ?_)
                    · have c202 : 0 < (cmpI (dz r4) (dz d1)).toInt := c202
                      have c202 : dz d1 < dz r4 := (cmpI_gt _ _).mp c202
                      refine g_iconst C X4 (pc' := 219) at_218 (v := (0 : Int32)) (by decide) rfl ?_
                      exfalso; omega
                    · have c202 : ¬ (0 < (cmpI (dz r4) (dz d1)).toInt) := c202
                      have c202 : ¬ (dz d1 < dz r4) := fun q => c202 ((cmpI_gt _ _).mpr q)
                      refine g_dload C X4 (pc' := 207) at_205 rfl rfl ?_
                      refine g_dneg C X4 (pc' := 208) at_207 rfl ?_
                      refine g_dload C X4 (pc' := 210) at_208 rfl rfl ?_
                      refine g_dcmpV C X4 (pc' := 211) at_210 (own_cn Rr.1 (nn_of_int D_d1) _) rfl ?_
                      refine g_if C X4 at_211 (pc' := 218) (pc'' := 214) (by decide) (by decide) rfl (fun c211 => ?_) (fun c211 => ?_)
                      · have c211 : 0 < (cmpI (-dz r4) (dz d1)).toInt := c211
                        have c211 : dz d1 < -dz r4 := (cmpI_gt _ _).mp c211
                        refine g_iconst C X4 (pc' := 219) at_218 (v := (0 : Int32)) (by decide) rfl ?_
                        exfalso; omega
                      · have c211 : ¬ (0 < (cmpI (-dz r4) (dz d1)).toInt) := c211
                        have c211 : ¬ (dz d1 < -dz r4) := fun q => c211 ((cmpI_gt _ _).mpr q)
                        refine g_iconst C X4 (pc' := 215) at_214 (v := (1 : Int32)) (by decide) rfl ?_
                        refine g_goto C X4 at_215 (pc' := 219) (by decide) (by decide) ?_
                        exact g_zreturnW C X4 S2 e4 Y2 at_219 (w := 1) (by decide) ⟨rfl, N3⟩ (by decide) (by decide)
                  · have c175 : ¬ ((cmpI (dz r4) 0).toInt = 0) := c175
                    have c175 : ¬ (dz r4 = 0) := fun q => c175 ((cmpI_eq _ _).mpr q)
                    refine g_iconst C X4 (pc' := 179) at_178 (v := (0 : Int32)) (by decide) rfl ?_
                    exfalso; omega
              · have c152 : (cmpI p0.toInt 0).toInt < 0 := Decidable.not_not.mp c152
                have c152 : p0.toInt < 0 := (cmpI_lt _ _).mp c152
                refine g_dload C X4 (pc' := 157) at_155 rfl rfl ?_
                refine g_dconst0 C X4 (pc' := 158) at_157 rfl rfl ?_
                rw [kk_5]
                refine g_dcmpV C X4 (pc' := 159) at_158 (own_c0 Rr.1 _) rfl ?_
                refine g_if C X4 at_159 (pc' := 164) (pc'' := 162) (by decide) (by decide) rfl (fun c159 => ?_) (fun c159 => ?_)
                · have c159 : (cmpI (dz r4) 0).toInt < 0 := c159
                  have c159 : dz r4 < 0 := (cmpI_lt _ _).mp c159
                  refine g_dload C X4 (pc' := 166) at_164 rfl rfl ?_
                  refine g_dconst0 C X4 (pc' := 167) at_166 rfl rfl ?_
                  rw [kk_5]
                  refine g_dcmpV C X4 (pc' := 168) at_167 (dcmp_cmpI D_d1 dint_zero _) rfl ?_
                  refine g_if C X4 at_168 (pc' := 180) (pc'' := 171) (by decide) (by decide) rfl (fun c168 => ?_) (fun c168 => ?_)
                  · have c168 : ¬ ((cmpI p0.toInt 0).toInt = 0) := c168
                    have c168 : ¬ (p0.toInt = 0) := fun q => c168 ((cmpI_eq _ _).mpr q)
                    refine g_dload C X4 (pc' := 182) at_180 rfl rfl ?_
                    refine g_dconst0 C X4 (pc' := 183) at_182 rfl rfl ?_
                    rw [kk_5]
                    refine g_dcmpV C X4 (pc' := 184) at_183 (dcmp_cmpI D_d1 dint_zero _) rfl ?_
                    refine g_ifN C X4 at_184 (fun q => q ((cmpI_lt _ _).mpr c152)) rfl ?_
                    refine g_dload C X4 (pc' := 189) at_187 rfl rfl ?_
                    refine g_dneg C X4 (pc' := 190) at_189 rfl ?_
                    refine g_goto C X4 at_190 (pc' := 195) (by decide) (by decide) ?_
                    obtain ⟨d9, e_d9⟩ : ∃ z : UInt64, z = FP.dneg d1 := ⟨_, rfl⟩
                    have D_d9 : FP.Core.DInt (-p0.toInt) d9 := e_d9 ▸ (dneg_int' D_d1)
                    refine g_dstore C X4 (pc' := 197) at_195 (x := d9) e_d9 (l' := #[.val (.int p0), .val (.int p1), .val (.int p2), .val (.int p3), .val (.double d1), .second, .val (.double d2), .second, .val (.ref a1), .val (.double r4), .second, .val (.double d9), .second]) rfl rfl ?_
                    have Rq := Rr
                    obtain ⟨-, R1, R2, R3, R4, R5, R6⟩ := Rq
                    have zac : dz d9 = -dz d1 := by rw [e_d9]; exact dz_dneg _
                    refine g_dload C X4 (pc' := 199) at_197 rfl rfl ?_
                    refine g_dload C X4 (pc' := 201) at_199 rfl rfl ?_
                    refine g_dcmpV C X4 (pc' := 202) at_201 (dcmp_dz Rr.1 (nn_of_int D_d9) _) rfl ?_
                    refine g_if C X4 at_202 (pc' := 218) (pc'' := 205) (by decide) (by decide) rfl (fun c202 => ?_) (fun c202 => ?_)
                    · have c202 : 0 < (cmpI (dz r4) (dz d9)).toInt := c202
                      have c202 : dz d9 < dz r4 := (cmpI_gt _ _).mp c202
                      refine g_iconst C X4 (pc' := 219) at_218 (v := (0 : Int32)) (by decide) rfl ?_
                      exfalso; omega
                    · have c202 : ¬ (0 < (cmpI (dz r4) (dz d9)).toInt) := c202
                      have c202 : ¬ (dz d9 < dz r4) := fun q => c202 ((cmpI_gt _ _).mpr q)
                      refine g_dload C X4 (pc' := 207) at_205 rfl rfl ?_
                      refine g_dneg C X4 (pc' := 208) at_207 rfl ?_
                      refine g_dload C X4 (pc' := 210) at_208 rfl rfl ?_
                      refine g_dcmpV C X4 (pc' := 211) at_210 (own_cn Rr.1 (nn_of_int D_d9) _) rfl ?_
                      refine g_if C X4 at_211 (pc' := 218) (pc'' := 214) (by decide) (by decide) rfl (fun c211 => ?_) (fun c211 => ?_)
                      · have c211 : 0 < (cmpI (-dz r4) (dz d9)).toInt := c211
                        have c211 : dz d9 < -dz r4 := (cmpI_gt _ _).mp c211
                        refine g_iconst C X4 (pc' := 219) at_218 (v := (0 : Int32)) (by decide) rfl ?_
                        exfalso; omega
                      · have c211 : ¬ (0 < (cmpI (-dz r4) (dz d9)).toInt) := c211
                        have c211 : ¬ (dz d9 < -dz r4) := fun q => c211 ((cmpI_gt _ _).mpr q)
                        refine g_iconst C X4 (pc' := 215) at_214 (v := (1 : Int32)) (by decide) rfl ?_
                        refine g_goto C X4 at_215 (pc' := 219) (by decide) (by decide) ?_
                        exact g_zreturnW C X4 S2 e4 Y2 at_219 (w := 1) (by decide) ⟨rfl, N3⟩ (by decide) (by decide)
                  · have c168 : (cmpI p0.toInt 0).toInt = 0 := Decidable.not_not.mp c168
                    have c168 : p0.toInt = 0 := (cmpI_eq _ _).mp c168
                    refine g_dload C X4 (pc' := 173) at_171 rfl rfl ?_
                    refine g_dconst0 C X4 (pc' := 174) at_173 rfl rfl ?_
                    rw [kk_5]
                    refine g_dcmpV C X4 (pc' := 175) at_174 (own_c0 Rr.1 _) rfl ?_
                    refine g_if C X4 at_175 (pc' := 180) (pc'' := 178) (by decide) (by decide) rfl (fun c175 => ?_) (fun c175 => ?_)
                    · have c175 : (cmpI (dz r4) 0).toInt = 0 := c175
                      have c175 : dz r4 = 0 := (cmpI_eq _ _).mp c175
                      refine g_dload C X4 (pc' := 182) at_180 rfl rfl ?_
                      refine g_dconst0 C X4 (pc' := 183) at_182 rfl rfl ?_
                      rw [kk_5]
                      refine g_dcmpV C X4 (pc' := 184) at_183 (dcmp_cmpI D_d1 dint_zero _) rfl ?_
                      refine g_ifN C X4 at_184 (fun q => q ((cmpI_lt _ _).mpr c152)) rfl ?_
                      refine g_dload C X4 (pc' := 189) at_187 rfl rfl ?_
                      refine g_dneg C X4 (pc' := 190) at_189 rfl ?_
                      refine g_goto C X4 at_190 (pc' := 195) (by decide) (by decide) ?_
                      obtain ⟨d10, e_d10⟩ : ∃ z : UInt64, z = FP.dneg d1 := ⟨_, rfl⟩
                      have D_d10 : FP.Core.DInt (-p0.toInt) d10 := e_d10 ▸ (dneg_int' D_d1)
                      refine g_dstore C X4 (pc' := 197) at_195 (x := d10) e_d10 (l' := #[.val (.int p0), .val (.int p1), .val (.int p2), .val (.int p3), .val (.double d1), .second, .val (.double d2), .second, .val (.ref a1), .val (.double r4), .second, .val (.double d10), .second]) rfl rfl ?_
                      have Rq := Rr
                      obtain ⟨-, R1, R2, R3, R4, R5, R6⟩ := Rq
                      have zac : dz d10 = -dz d1 := by rw [e_d10]; exact dz_dneg _
                      refine g_dload C X4 (pc' := 199) at_197 rfl rfl ?_
                      refine g_dload C X4 (pc' := 201) at_199 rfl rfl ?_
                      refine g_dcmpV C X4 (pc' := 202) at_201 (dcmp_dz Rr.1 (nn_of_int D_d10) _) rfl ?_
                      refine g_if C X4 at_202 (pc' := 218) (pc'' := 205) (by decide) (by decide) rfl (fun c202 => ?_) (fun c202 => ?_)
                      · have c202 : 0 < (cmpI (dz r4) (dz d10)).toInt := c202
                        have c202 : dz d10 < dz r4 := (cmpI_gt _ _).mp c202
                        refine g_iconst C X4 (pc' := 219) at_218 (v := (0 : Int32)) (by decide) rfl ?_
                        exfalso; omega
                      · have c202 : ¬ (0 < (cmpI (dz r4) (dz d10)).toInt) := c202
                        have c202 : ¬ (dz d10 < dz r4) := fun q => c202 ((cmpI_gt _ _).mpr q)
                        refine g_dload C X4 (pc' := 207) at_205 rfl rfl ?_
                        refine g_dneg C X4 (pc' := 208) at_207 rfl ?_
                        refine g_dload C X4 (pc' := 210) at_208 rfl rfl ?_
                        refine g_dcmpV C X4 (pc' := 211) at_210 (own_cn Rr.1 (nn_of_int D_d10) _) rfl ?_
                        refine g_if C X4 at_211 (pc' := 218) (pc'' := 214) (by decide) (by decide) rfl (fun c211 => ?_) (fun c211 => ?_)
                        · have c211 : 0 < (cmpI (-dz r4) (dz d10)).toInt := c211
                          have c211 : dz d10 < -dz r4 := (cmpI_gt _ _).mp c211
                          refine g_iconst C X4 (pc' := 219) at_218 (v := (0 : Int32)) (by decide) rfl ?_
                          exfalso; omega
                        · have c211 : ¬ (0 < (cmpI (-dz r4) (dz d10)).toInt) := c211
                          have c211 : ¬ (dz d10 < -dz r4) := fun q => c211 ((cmpI_gt _ _).mpr q)
                          refine g_iconst C X4 (pc' := 215) at_214 (v := (1 : Int32)) (by decide) rfl ?_
                          refine g_goto C X4 at_215 (pc' := 219) (by decide) (by decide) ?_
                          exact g_zreturnW C X4 S2 e4 Y2 at_219 (w := 1) (by decide) ⟨rfl, N3⟩ (by decide) (by decide)
                    · have c175 : ¬ ((cmpI (dz r4) 0).toInt = 0) := c175
                      have c175 : ¬ (dz r4 = 0) := fun q => c175 ((cmpI_eq _ _).mpr q)
                      refine g_iconst C X4 (pc' := 179) at_178 (v := (0 : Int32)) (by decide) rfl ?_
                      exfalso; omega
                · have c159 : ¬ ((cmpI (dz r4) 0).toInt < 0) := c159
                  have c159 : ¬ (dz r4 < 0) := fun q => c159 ((cmpI_lt _ _).mpr q)
                  refine g_iconst C X4 (pc' := 163) at_162 (v := (0 : Int32)) (by decide) rfl ?_
                  exfalso; omega
            · have c136 : 0 < (cmpI p0.toInt 0).toInt := Decidable.not_not.mp c136
              have c136 : 0 < p0.toInt := (cmpI_gt _ _).mp c136
              refine g_dload C X4 (pc' := 141) at_139 rfl rfl ?_
              refine g_dconst0 C X4 (pc' := 142) at_141 rfl rfl ?_
              rw [kk_5]
              refine g_dcmpV C X4 (pc' := 143) at_142 (own_c0 Rr.1 _) rfl ?_
              refine g_if C X4 at_143 (pc' := 148) (pc'' := 146) (by decide) (by decide) rfl (fun c143 => ?_) (fun c143 => ?_)
              · have c143 : 0 < (cmpI (dz r4) 0).toInt := c143
                have c143 : 0 < dz r4 := (cmpI_gt _ _).mp c143
                refine g_dload C X4 (pc' := 150) at_148 rfl rfl ?_
                refine g_dconst0 C X4 (pc' := 151) at_150 rfl rfl ?_
                rw [kk_5]
                refine g_dcmpV C X4 (pc' := 152) at_151 (dcmp_cmpI D_d1 dint_zero _) rfl ?_
                refine g_if C X4 at_152 (pc' := 164) (pc'' := 155) (by decide) (by decide) rfl (fun c152 => ?_) (fun c152 => ?_)
                · have c152 : ¬ ((cmpI p0.toInt 0).toInt < 0) := c152
                  have c152 : ¬ (p0.toInt < 0) := fun q => c152 ((cmpI_lt _ _).mpr q)
                  refine g_dload C X4 (pc' := 166) at_164 rfl rfl ?_
                  refine g_dconst0 C X4 (pc' := 167) at_166 rfl rfl ?_
                  rw [kk_5]
                  refine g_dcmpV C X4 (pc' := 168) at_167 (dcmp_cmpI D_d1 dint_zero _) rfl ?_
                  refine g_if C X4 at_168 (pc' := 180) (pc'' := 171) (by decide) (by decide) rfl (fun c168 => ?_) (fun c168 => ?_)
                  · have c168 : ¬ ((cmpI p0.toInt 0).toInt = 0) := c168
                    have c168 : ¬ (p0.toInt = 0) := fun q => c168 ((cmpI_eq _ _).mpr q)
                    refine g_dload C X4 (pc' := 182) at_180 rfl rfl ?_
                    refine g_dconst0 C X4 (pc' := 183) at_182 rfl rfl ?_
                    rw [kk_5]
                    refine g_dcmpV C X4 (pc' := 184) at_183 (dcmp_cmpI D_d1 dint_zero _) rfl ?_
                    refine g_ifY C X4 at_184 (pc' := 193) (by decide) (by decide) (fun q => c152 ((cmpI_lt _ _).mp q)) ?_
                    refine g_dload C X4 (pc' := 195) at_193 rfl rfl ?_
                    refine g_dstore C X4 (pc' := 197) at_195 (x := d1) rfl (l' := #[.val (.int p0), .val (.int p1), .val (.int p2), .val (.int p3), .val (.double d1), .second, .val (.double d2), .second, .val (.ref a1), .val (.double r4), .second, .val (.double d1), .second]) rfl rfl ?_
                    have Rq := Rr
                    obtain ⟨-, R1, R2, R3, R4, R5, R6⟩ := Rq
                    refine g_dload C X4 (pc' := 199) at_197 rfl rfl ?_
                    refine g_dload C X4 (pc' := 201) at_199 rfl rfl ?_
                    refine g_dcmpV C X4 (pc' := 202) at_201 (dcmp_dz Rr.1 (nn_of_int D_d1) _) rfl ?_
                    refine g_if C X4 at_202 (pc' := 218) (pc'' := 205) (by decide) (by decide) rfl (fun c202 => ?_) (fun c202 => ?_)
                    · have c202 : 0 < (cmpI (dz r4) (dz d1)).toInt := c202
                      have c202 : dz d1 < dz r4 := (cmpI_gt _ _).mp c202
                      refine g_iconst C X4 (pc' := 219) at_218 (v := (0 : Int32)) (by decide) rfl ?_
                      exfalso; omega
                    · have c202 : ¬ (0 < (cmpI (dz r4) (dz d1)).toInt) := c202
                      have c202 : ¬ (dz d1 < dz r4) := fun q => c202 ((cmpI_gt _ _).mpr q)
                      refine g_dload C X4 (pc' := 207) at_205 rfl rfl ?_
                      refine g_dneg C X4 (pc' := 208) at_207 rfl ?_
                      refine g_dload C X4 (pc' := 210) at_208 rfl rfl ?_
                      refine g_dcmpV C X4 (pc' := 211) at_210 (own_cn Rr.1 (nn_of_int D_d1) _) rfl ?_
                      refine g_if C X4 at_211 (pc' := 218) (pc'' := 214) (by decide) (by decide) rfl (fun c211 => ?_) (fun c211 => ?_)
                      · have c211 : 0 < (cmpI (-dz r4) (dz d1)).toInt := c211
                        have c211 : dz d1 < -dz r4 := (cmpI_gt _ _).mp c211
                        refine g_iconst C X4 (pc' := 219) at_218 (v := (0 : Int32)) (by decide) rfl ?_
                        exfalso; omega
                      · have c211 : ¬ (0 < (cmpI (-dz r4) (dz d1)).toInt) := c211
                        have c211 : ¬ (dz d1 < -dz r4) := fun q => c211 ((cmpI_gt _ _).mpr q)
                        refine g_iconst C X4 (pc' := 215) at_214 (v := (1 : Int32)) (by decide) rfl ?_
                        refine g_goto C X4 at_215 (pc' := 219) (by decide) (by decide) ?_
                        exact g_zreturnW C X4 S2 e4 Y2 at_219 (w := 1) (by decide) ⟨rfl, N3⟩ (by decide) (by decide)
                  · have c168 : (cmpI p0.toInt 0).toInt = 0 := Decidable.not_not.mp c168
                    have c168 : p0.toInt = 0 := (cmpI_eq _ _).mp c168
                    refine g_dload C X4 (pc' := 173) at_171 rfl rfl ?_
                    refine g_dconst0 C X4 (pc' := 174) at_173 rfl rfl ?_
                    rw [kk_5]
                    refine g_dcmpV C X4 (pc' := 175) at_174 (own_c0 Rr.1 _) rfl ?_
                    refine g_if C X4 at_175 (pc' := 180) (pc'' := 178) (by decide) (by decide) rfl (fun c175 => ?_) (fun c175 => ?_)
                    · have c175 : (cmpI (dz r4) 0).toInt = 0 := c175
                      have c175 : dz r4 = 0 := (cmpI_eq _ _).mp c175
                      refine g_dload C X4 (pc' := 182) at_180 rfl rfl ?_
                      refine g_dconst0 C X4 (pc' := 183) at_182 rfl rfl ?_
                      rw [kk_5]
                      refine g_dcmpV C X4 (pc' := 184) at_183 (dcmp_cmpI D_d1 dint_zero _) rfl ?_
                      refine g_ifY C X4 at_184 (pc' := 193) (by decide) (by decide) (fun q => c152 ((cmpI_lt _ _).mp q)) ?_
                      refine g_dload C X4 (pc' := 195) at_193 rfl rfl ?_
                      refine g_dstore C X4 (pc' := 197) at_195 (x := d1) rfl (l' := #[.val (.int p0), .val (.int p1), .val (.int p2), .val (.int p3), .val (.double d1), .second, .val (.double d2), .second, .val (.ref a1), .val (.double r4), .second, .val (.double d1), .second]) rfl rfl ?_
                      have Rq := Rr
                      obtain ⟨-, R1, R2, R3, R4, R5, R6⟩ := Rq
                      refine g_dload C X4 (pc' := 199) at_197 rfl rfl ?_
                      refine g_dload C X4 (pc' := 201) at_199 rfl rfl ?_
                      refine g_dcmpV C X4 (pc' := 202) at_201 (dcmp_dz Rr.1 (nn_of_int D_d1) _) rfl ?_
                      refine g_if C X4 at_202 (pc' := 218) (pc'' := 205) (by decide) (by decide) rfl (fun c202 => ?_) (fun c202 => ?_)
                      · have c202 : 0 < (cmpI (dz r4) (dz d1)).toInt := c202
                        have c202 : dz d1 < dz r4 := (cmpI_gt _ _).mp c202
                        refine g_iconst C X4 (pc' := 219) at_218 (v := (0 : Int32)) (by decide) rfl ?_
                        exfalso; omega
                      · have c202 : ¬ (0 < (cmpI (dz r4) (dz d1)).toInt) := c202
                        have c202 : ¬ (dz d1 < dz r4) := fun q => c202 ((cmpI_gt _ _).mpr q)
                        refine g_dload C X4 (pc' := 207) at_205 rfl rfl ?_
                        refine g_dneg C X4 (pc' := 208) at_207 rfl ?_
                        refine g_dload C X4 (pc' := 210) at_208 rfl rfl ?_
                        refine g_dcmpV C X4 (pc' := 211) at_210 (own_cn Rr.1 (nn_of_int D_d1) _) rfl ?_
                        refine g_if C X4 at_211 (pc' := 218) (pc'' := 214) (by decide) (by decide) rfl (fun c211 => ?_) (fun c211 => ?_)
                        · have c211 : 0 < (cmpI (-dz r4) (dz d1)).toInt := c211
                          have c211 : dz d1 < -dz r4 := (cmpI_gt _ _).mp c211
                          refine g_iconst C X4 (pc' := 219) at_218 (v := (0 : Int32)) (by decide) rfl ?_
                          exfalso; omega
                        · have c211 : ¬ (0 < (cmpI (-dz r4) (dz d1)).toInt) := c211
                          have c211 : ¬ (dz d1 < -dz r4) := fun q => c211 ((cmpI_gt _ _).mpr q)
                          refine g_iconst C X4 (pc' := 215) at_214 (v := (1 : Int32)) (by decide) rfl ?_
                          refine g_goto C X4 at_215 (pc' := 219) (by decide) (by decide) ?_
                          exact g_zreturnW C X4 S2 e4 Y2 at_219 (w := 1) (by decide) ⟨rfl, N3⟩ (by decide) (by decide)
                    · have c175 : ¬ ((cmpI (dz r4) 0).toInt = 0) := c175
                      have c175 : ¬ (dz r4 = 0) := fun q => c175 ((cmpI_eq _ _).mpr q)
                      refine g_iconst C X4 (pc' := 179) at_178 (v := (0 : Int32)) (by decide) rfl ?_
                      exfalso; omega
                · have c152 : (cmpI p0.toInt 0).toInt < 0 := Decidable.not_not.mp c152
                  have c152 : p0.toInt < 0 := (cmpI_lt _ _).mp c152
                  refine g_dload C X4 (pc' := 157) at_155 rfl rfl ?_
                  refine g_dconst0 C X4 (pc' := 158) at_157 rfl rfl ?_
                  rw [kk_5]
                  refine g_dcmpV C X4 (pc' := 159) at_158 (own_c0 Rr.1 _) rfl ?_
                  refine g_if C X4 at_159 (pc' := 164) (pc'' := 162) (by decide) (by decide) rfl (fun c159 => ?_) (fun c159 => ?_)
                  · have c159 : (cmpI (dz r4) 0).toInt < 0 := c159
                    have c159 : dz r4 < 0 := (cmpI_lt _ _).mp c159
                    refine g_dload C X4 (pc' := 166) at_164 rfl rfl ?_
                    refine g_dconst0 C X4 (pc' := 167) at_166 rfl rfl ?_
                    rw [kk_5]
                    refine g_dcmpV C X4 (pc' := 168) at_167 (dcmp_cmpI D_d1 dint_zero _) rfl ?_
                    refine g_if C X4 at_168 (pc' := 180) (pc'' := 171) (by decide) (by decide) rfl (fun c168 => ?_) (fun c168 => ?_)
                    · have c168 : ¬ ((cmpI p0.toInt 0).toInt = 0) := c168
                      have c168 : ¬ (p0.toInt = 0) := fun q => c168 ((cmpI_eq _ _).mpr q)
                      refine g_dload C X4 (pc' := 182) at_180 rfl rfl ?_
                      refine g_dconst0 C X4 (pc' := 183) at_182 rfl rfl ?_
                      rw [kk_5]
                      refine g_dcmpV C X4 (pc' := 184) at_183 (dcmp_cmpI D_d1 dint_zero _) rfl ?_
                      refine g_ifN C X4 at_184 (fun q => q ((cmpI_lt _ _).mpr c152)) rfl ?_
                      refine g_dload C X4 (pc' := 189) at_187 rfl rfl ?_
                      refine g_dneg C X4 (pc' := 190) at_189 rfl ?_
                      refine g_goto C X4 at_190 (pc' := 195) (by decide) (by decide) ?_
                      obtain ⟨d11, e_d11⟩ : ∃ z : UInt64, z = FP.dneg d1 := ⟨_, rfl⟩
                      have D_d11 : FP.Core.DInt (-p0.toInt) d11 := e_d11 ▸ (dneg_int' D_d1)
                      refine g_dstore C X4 (pc' := 197) at_195 (x := d11) e_d11 (l' := #[.val (.int p0), .val (.int p1), .val (.int p2), .val (.int p3), .val (.double d1), .second, .val (.double d2), .second, .val (.ref a1), .val (.double r4), .second, .val (.double d11), .second]) rfl rfl ?_
                      have Rq := Rr
                      obtain ⟨-, R1, R2, R3, R4, R5, R6⟩ := Rq
                      have zac : dz d11 = -dz d1 := by rw [e_d11]; exact dz_dneg _
                      refine g_dload C X4 (pc' := 199) at_197 rfl rfl ?_
                      refine g_dload C X4 (pc' := 201) at_199 rfl rfl ?_
                      refine g_dcmpV C X4 (pc' := 202) at_201 (dcmp_dz Rr.1 (nn_of_int D_d11) _) rfl ?_
                      refine g_if C X4 at_202 (pc' := 218) (pc'' := 205) (by decide) (by decide) rfl (fun c202 => ?_) (fun c202 => ?_)
                      · have c202 : 0 < (cmpI (dz r4) (dz d11)).toInt := c202
                        have c202 : dz d11 < dz r4 := (cmpI_gt _ _).mp c202
                        refine g_iconst C X4 (pc' := 219) at_218 (v := (0 : Int32)) (by decide) rfl ?_
                        exfalso; omega
                      · have c202 : ¬ (0 < (cmpI (dz r4) (dz d11)).toInt) := c202
                        have c202 : ¬ (dz d11 < dz r4) := fun q => c202 ((cmpI_gt _ _).mpr q)
                        refine g_dload C X4 (pc' := 207) at_205 rfl rfl ?_
                        refine g_dneg C X4 (pc' := 208) at_207 rfl ?_
                        refine g_dload C X4 (pc' := 210) at_208 rfl rfl ?_
                        refine g_dcmpV C X4 (pc' := 211) at_210 (own_cn Rr.1 (nn_of_int D_d11) _) rfl ?_
                        refine g_if C X4 at_211 (pc' := 218) (pc'' := 214) (by decide) (by decide) rfl (fun c211 => ?_) (fun c211 => ?_)
                        · have c211 : 0 < (cmpI (-dz r4) (dz d11)).toInt := c211
                          have c211 : dz d11 < -dz r4 := (cmpI_gt _ _).mp c211
                          refine g_iconst C X4 (pc' := 219) at_218 (v := (0 : Int32)) (by decide) rfl ?_
                          exfalso; omega
                        · have c211 : ¬ (0 < (cmpI (-dz r4) (dz d11)).toInt) := c211
                          have c211 : ¬ (dz d11 < -dz r4) := fun q => c211 ((cmpI_gt _ _).mpr q)
                          refine g_iconst C X4 (pc' := 215) at_214 (v := (1 : Int32)) (by decide) rfl ?_
                          refine g_goto C X4 at_215 (pc' := 219) (by decide) (by decide) ?_
                          exact g_zreturnW C X4 S2 e4 Y2 at_219 (w := 1) (by decide) ⟨rfl, N3⟩ (by decide) (by decide)
                    · have c168 : (cmpI p0.toInt 0).toInt = 0 := Decidable.not_not.mp c168
                      have c168 : p0.toInt = 0 := (cmpI_eq _ _).mp c168
                      refine g_dload C X4 (pc' := 173) at_171 rfl rfl ?_
                      refine g_dconst0 C X4 (pc' := 174) at_173 rfl rfl ?_
                      rw [kk_5]
                      refine g_dcmpV C X4 (pc' := 175) at_174 (own_c0 Rr.1 _) rfl ?_
                      refine g_if C X4 at_175 (pc' := 180) (pc'' := 178) (by decide) (by decide) rfl (fun c175 => ?_) (fun c175 => ?_)
                      · have c175 : (cmpI (dz r4) 0).toInt = 0 := c175
                        have c175 : dz r4 = 0 := (cmpI_eq _ _).mp c175
                        refine g_dload C X4 (pc' := 182) at_180 rfl rfl ?_
                        refine g_dconst0 C X4 (pc' := 183) at_182 rfl rfl ?_
                        rw [kk_5]
                        refine g_dcmpV C X4 (pc' := 184) at_183 (dcmp_cmpI D_d1 dint_zero _) rfl ?_
                        refine g_ifN C X4 at_184 (fun q => q ((cmpI_lt _ _).mpr c152)) rfl ?_
                        refine g_dload C X4 (pc' := 189) at_187 rfl rfl ?_
                        refine g_dneg C X4 (pc' := 190) at_189 rfl ?_
                        refine g_goto C X4 at_190 (pc' := 195) (by decide) (by decide) ?_
                        obtain ⟨d12, e_d12⟩ : ∃ z : UInt64, z = FP.dneg d1 := ⟨_, rfl⟩
                        have D_d12 : FP.Core.DInt (-p0.toInt) d12 := e_d12 ▸ (dneg_int' D_d1)
                        refine g_dstore C X4 (pc' := 197) at_195 (x := d12) e_d12 (l' := #[.val (.int p0), .val (.int p1), .val (.int p2), .val (.int p3), .val (.double d1), .second, .val (.double d2), .second, .val (.ref a1), .val (.double r4), .second, .val (.double d12), .second]) rfl rfl ?_
                        have Rq := Rr
                        obtain ⟨-, R1, R2, R3, R4, R5, R6⟩ := Rq
                        have zac : dz d12 = -dz d1 := by rw [e_d12]; exact dz_dneg _
                        refine g_dload C X4 (pc' := 199) at_197 rfl rfl ?_
                        refine g_dload C X4 (pc' := 201) at_199 rfl rfl ?_
                        refine g_dcmpV C X4 (pc' := 202) at_201 (dcmp_dz Rr.1 (nn_of_int D_d12) _) rfl ?_
                        refine g_if C X4 at_202 (pc' := 218) (pc'' := 205) (by decide) (by decide) rfl (fun c202 => ?_) (fun c202 => ?_)
                        · have c202 : 0 < (cmpI (dz r4) (dz d12)).toInt := c202
                          have c202 : dz d12 < dz r4 := (cmpI_gt _ _).mp c202
                          refine g_iconst C X4 (pc' := 219) at_218 (v := (0 : Int32)) (by decide) rfl ?_
                          exfalso; omega
                        · have c202 : ¬ (0 < (cmpI (dz r4) (dz d12)).toInt) := c202
                          have c202 : ¬ (dz d12 < dz r4) := fun q => c202 ((cmpI_gt _ _).mpr q)
                          refine g_dload C X4 (pc' := 207) at_205 rfl rfl ?_
                          refine g_dneg C X4 (pc' := 208) at_207 rfl ?_
                          refine g_dload C X4 (pc' := 210) at_208 rfl rfl ?_
                          refine g_dcmpV C X4 (pc' := 211) at_210 (own_cn Rr.1 (nn_of_int D_d12) _) rfl ?_
                          refine g_if C X4 at_211 (pc' := 218) (pc'' := 214) (by decide) (by decide) rfl (fun c211 => ?_) (fun c211 => ?_)
                          · have c211 : 0 < (cmpI (-dz r4) (dz d12)).toInt := c211
                            have c211 : dz d12 < -dz r4 := (cmpI_gt _ _).mp c211
                            refine g_iconst C X4 (pc' := 219) at_218 (v := (0 : Int32)) (by decide) rfl ?_
                            exfalso; omega
                          · have c211 : ¬ (0 < (cmpI (-dz r4) (dz d12)).toInt) := c211
                            have c211 : ¬ (dz d12 < -dz r4) := fun q => c211 ((cmpI_gt _ _).mpr q)
                            refine g_iconst C X4 (pc' := 215) at_214 (v := (1 : Int32)) (by decide) rfl ?_
                            refine g_goto C X4 at_215 (pc' := 219) (by decide) (by decide) ?_
                            exact g_zreturnW C X4 S2 e4 Y2 at_219 (w := 1) (by decide) ⟨rfl, N3⟩ (by decide) (by decide)
                      · have c175 : ¬ ((cmpI (dz r4) 0).toInt = 0) := c175
                        have c175 : ¬ (dz r4 = 0) := fun q => c175 ((cmpI_eq _ _).mpr q)
                        refine g_iconst C X4 (pc' := 179) at_178 (v := (0 : Int32)) (by decide) rfl ?_
                        exfalso; omega
                  · have c159 : ¬ ((cmpI (dz r4) 0).toInt < 0) := c159
                    have c159 : ¬ (dz r4 < 0) := fun q => c159 ((cmpI_lt _ _).mpr q)
                    refine g_iconst C X4 (pc' := 163) at_162 (v := (0 : Int32)) (by decide) rfl ?_
                    exfalso; omega
              · have c143 : ¬ (0 < (cmpI (dz r4) 0).toInt) := c143
                have c143 : ¬ (0 < dz r4) := fun q => c143 ((cmpI_gt _ _).mpr q)
                refine g_iconst C X4 (pc' := 147) at_146 (v := (0 : Int32)) (by decide) rfl ?_
                exfalso; omega
        · rw [show FP.dconst1 = (4607182418800017408 : UInt64) from by decide +kernel]
          show Go p.tables e below _ T4 (mkF m 113 #[.val (.int p0), .val (.int p1), .val (.int p2), .val (.int p3), .val (.double d1), .second, .val (.double d2), .second, .val (.ref a1), .unset, .unset, .unset, .unset] [(.double (4607182418800017408 : UInt64))])
          refine g_dstore C X4 (pc' := 115) at_113 (x := (4607182418800017408 : UInt64)) rfl (l' := #[.val (.int p0), .val (.int p1), .val (.int p2), .val (.int p3), .val (.double d1), .second, .val (.double d2), .second, .val (.ref a1), .val (.double (4607182418800017408 : UInt64)), .second, .unset, .unset]) rfl rfl ?_
          refine g_dload C X4 (pc' := 117) at_115 rfl rfl ?_
          refine g_dconst0 C X4 (pc' := 118) at_117 rfl rfl ?_
          rw [kk_5]
          refine g_dcmpV C X4 (pc' := 119) at_118 (dcmp_cmpI D_d2 dint_zero _) rfl ?_
          refine g_if C X4 at_119 (pc' := 220) (pc'' := 122) (by decide) (by decide) rfl (fun c119 => ?_) (fun c119 => ?_)
          · have c119 : ¬ (0 < (cmpI p1.toInt 0).toInt) := c119
            have c119 : ¬ (0 < p1.toInt) := fun q => c119 ((cmpI_gt _ _).mpr q)
            refine g_dload C X4 (pc' := 222) at_220 rfl rfl ?_
            refine g_dconst0 C X4 (pc' := 223) at_222 rfl rfl ?_
            rw [kk_5]
            refine g_dcmpV C X4 (pc' := 224) at_223 (dcmp_cmpI D_d2 dint_zero _) rfl ?_
            refine g_if C X4 at_224 (pc' := 247) (pc'' := 227) (by decide) (by decide) rfl (fun c224 => ?_) (fun c224 => ?_)
            · have c224 : ¬ ((cmpI p1.toInt 0).toInt = 0) := c224
              have c224 : ¬ (p1.toInt = 0) := fun q => c224 ((cmpI_eq _ _).mpr q)
              refine g_dload C X4 (pc' := 249) at_247 rfl rfl ?_
              refine g_dload C X4 (pc' := 251) at_249 rfl rfl ?_
              refine g_dcmpV C X4 (pc' := 252) at_251 (v := (0 : Int32)) kk_7 rfl ?_
              refine g_ifY C X4 at_252 (pc' := 259) (by decide) (by decide) (by decide) ?_
              refine g_iconst C X4 (pc' := 260) at_259 (v := (0 : Int32)) (by decide) rfl ?_
              exfalso; omega
            · have c224 : (cmpI p1.toInt 0).toInt = 0 := Decidable.not_not.mp c224
              have c224 : p1.toInt = 0 := (cmpI_eq _ _).mp c224
              refine g_dload C X4 (pc' := 229) at_227 rfl rfl ?_
              refine g_dconst0 C X4 (pc' := 230) at_229 rfl rfl ?_
              rw [kk_5]
              refine g_dcmpV C X4 (pc' := 231) at_230 (dcmp_cmpI D_d1 dint_zero _) rfl ?_
              refine g_if C X4 at_231 (pc' := 247) (pc'' := 234) (by decide) (by decide) rfl (fun c231 => ?_) (fun c231 => ?_)
              · have c231 : ¬ ((cmpI p0.toInt 0).toInt = 0) := c231
                have c231 : ¬ (p0.toInt = 0) := fun q => c231 ((cmpI_eq _ _).mpr q)
                refine g_dload C X4 (pc' := 249) at_247 rfl rfl ?_
                refine g_dload C X4 (pc' := 251) at_249 rfl rfl ?_
                refine g_dcmpV C X4 (pc' := 252) at_251 (v := (0 : Int32)) kk_7 rfl ?_
                refine g_ifY C X4 at_252 (pc' := 259) (by decide) (by decide) (by decide) ?_
                refine g_iconst C X4 (pc' := 260) at_259 (v := (0 : Int32)) (by decide) rfl ?_
                exfalso; omega
              · have c231 : (cmpI p0.toInt 0).toInt = 0 := Decidable.not_not.mp c231
                have c231 : p0.toInt = 0 := (cmpI_eq _ _).mp c231
                refine g_dload C X4 (pc' := 236) at_234 rfl rfl ?_
                refine g_dconst1 C X4 (pc' := 237) at_236 rfl rfl ?_
                rw [kk_6]
                refine g_dcmpV C X4 (pc' := 238) at_237 (v := (0 : Int32)) kk_7 rfl ?_
                refine g_ifN C X4 at_238 (by decide) rfl ?_
                refine g_iconst C X4 (pc' := 242) at_241 (v := (1 : Int32)) (by decide) rfl ?_
                refine g_goto C X4 at_242 (pc' := 246) (by decide) (by decide) ?_
                exact g_zreturnW C X4 S2 e4 Y2 at_246 (w := 1) (by decide) ⟨rfl, N3⟩ (by decide) (by decide)
          · have c119 : 0 < (cmpI p1.toInt 0).toInt := Decidable.not_not.mp c119
            have c119 : 0 < p1.toInt := (cmpI_gt _ _).mp c119
            refine g_dload C X4 (pc' := 124) at_122 rfl rfl ?_
            refine g_dload C X4 (pc' := 126) at_124 rfl rfl ?_
            refine g_dcmpV C X4 (pc' := 127) at_126 (v := (0 : Int32)) kk_7 rfl ?_
            refine g_ifY C X4 at_127 (pc' := 132) (by decide) (by decide) (by decide) ?_
            refine g_dload C X4 (pc' := 134) at_132 rfl rfl ?_
            refine g_dconst0 C X4 (pc' := 135) at_134 rfl rfl ?_
            rw [kk_5]
            refine g_dcmpV C X4 (pc' := 136) at_135 (dcmp_cmpI D_d1 dint_zero _) rfl ?_
            refine g_if C X4 at_136 (pc' := 148) (pc'' := 139) (by decide) (by decide) rfl (fun c136 => ?_) (fun c136 => ?_)
            · have c136 : ¬ (0 < (cmpI p0.toInt 0).toInt) := c136
              have c136 : ¬ (0 < p0.toInt) := fun q => c136 ((cmpI_gt _ _).mpr q)
              refine g_dload C X4 (pc' := 150) at_148 rfl rfl ?_
              refine g_dconst0 C X4 (pc' := 151) at_150 rfl rfl ?_
              rw [kk_5]
              refine g_dcmpV C X4 (pc' := 152) at_151 (dcmp_cmpI D_d1 dint_zero _) rfl ?_
              refine g_if C X4 at_152 (pc' := 164) (pc'' := 155) (by decide) (by decide) rfl (fun c152 => ?_) (fun c152 => ?_)
              · have c152 : ¬ ((cmpI p0.toInt 0).toInt < 0) := c152
                have c152 : ¬ (p0.toInt < 0) := fun q => c152 ((cmpI_lt _ _).mpr q)
                refine g_dload C X4 (pc' := 166) at_164 rfl rfl ?_
                refine g_dconst0 C X4 (pc' := 167) at_166 rfl rfl ?_
                rw [kk_5]
                refine g_dcmpV C X4 (pc' := 168) at_167 (dcmp_cmpI D_d1 dint_zero _) rfl ?_
                refine g_if C X4 at_168 (pc' := 180) (pc'' := 171) (by decide) (by decide) rfl (fun c168 => ?_) (fun c168 => ?_)
                · have c168 : ¬ ((cmpI p0.toInt 0).toInt = 0) := c168
                  have c168 : ¬ (p0.toInt = 0) := fun q => c168 ((cmpI_eq _ _).mpr q)
                  refine g_dload C X4 (pc' := 182) at_180 rfl rfl ?_
                  refine g_dconst0 C X4 (pc' := 183) at_182 rfl rfl ?_
                  rw [kk_5]
                  refine g_dcmpV C X4 (pc' := 184) at_183 (dcmp_cmpI D_d1 dint_zero _) rfl ?_
                  refine g_ifY C X4 at_184 (pc' := 193) (by decide) (by decide) (fun q => c152 ((cmpI_lt _ _).mp q)) ?_
                  refine g_dload C X4 (pc' := 195) at_193 rfl rfl ?_
                  refine g_dstore C X4 (pc' := 197) at_195 (x := d1) rfl (l' := #[.val (.int p0), .val (.int p1), .val (.int p2), .val (.int p3), .val (.double d1), .second, .val (.double d2), .second, .val (.ref a1), .val (.double (4607182418800017408 : UInt64)), .second, .val (.double d1), .second]) rfl rfl ?_
                  refine g_dload C X4 (pc' := 199) at_197 rfl rfl ?_
                  refine g_dload C X4 (pc' := 201) at_199 rfl rfl ?_
                  refine g_dcmpV C X4 (pc' := 202) at_201 (dcmp_cmpI dint_one' D_d1 _) rfl ?_
                  refine g_if C X4 at_202 (pc' := 218) (pc'' := 205) (by decide) (by decide) rfl (fun c202 => ?_) (fun c202 => ?_)
                  · have c202 : 0 < (cmpI 1 p0.toInt).toInt := c202
                    have c202 : p0.toInt < 1 := (cmpI_gt _ _).mp c202
                    refine g_iconst C X4 (pc' := 219) at_218 (v := (0 : Int32)) (by decide) rfl ?_
                    exfalso; omega
                  · have c202 : ¬ (0 < (cmpI 1 p0.toInt).toInt) := c202
                    have c202 : ¬ (p0.toInt < 1) := fun q => c202 ((cmpI_gt _ _).mpr q)
                    refine g_dload C X4 (pc' := 207) at_205 rfl rfl ?_
                    refine g_dneg C X4 (pc' := 208) at_207 rfl ?_
                    refine g_dload C X4 (pc' := 210) at_208 rfl rfl ?_
                    refine g_dcmpV C X4 (pc' := 211) at_210 (dcmp_cmpI (dneg_int' dint_one') D_d1 _) rfl ?_
                    refine g_if C X4 at_211 (pc' := 218) (pc'' := 214) (by decide) (by decide) rfl (fun c211 => ?_) (fun c211 => ?_)
                    · have c211 : 0 < (cmpI (-1) p0.toInt).toInt := c211
                      have c211 : p0.toInt < -1 := (cmpI_gt _ _).mp c211
                      refine g_iconst C X4 (pc' := 219) at_218 (v := (0 : Int32)) (by decide) rfl ?_
                      exfalso; omega
                    · have c211 : ¬ (0 < (cmpI (-1) p0.toInt).toInt) := c211
                      have c211 : ¬ (p0.toInt < -1) := fun q => c211 ((cmpI_gt _ _).mpr q)
                      refine g_iconst C X4 (pc' := 215) at_214 (v := (1 : Int32)) (by decide) rfl ?_
                      refine g_goto C X4 at_215 (pc' := 219) (by decide) (by decide) ?_
                      exact g_zreturnW C X4 S2 e4 Y2 at_219 (w := 1) (by decide) ⟨rfl, N3⟩ (by decide) (by decide)
                · have c168 : (cmpI p0.toInt 0).toInt = 0 := Decidable.not_not.mp c168
                  have c168 : p0.toInt = 0 := (cmpI_eq _ _).mp c168
                  refine g_dload C X4 (pc' := 173) at_171 rfl rfl ?_
                  refine g_dconst0 C X4 (pc' := 174) at_173 rfl rfl ?_
                  rw [kk_5]
                  refine g_dcmpV C X4 (pc' := 175) at_174 (v := (1 : Int32)) kk_8 rfl ?_
                  refine g_ifN C X4 at_175 (by decide) rfl ?_
                  refine g_iconst C X4 (pc' := 179) at_178 (v := (0 : Int32)) (by decide) rfl ?_
                  exfalso; omega
              · have c152 : (cmpI p0.toInt 0).toInt < 0 := Decidable.not_not.mp c152
                have c152 : p0.toInt < 0 := (cmpI_lt _ _).mp c152
                refine g_dload C X4 (pc' := 157) at_155 rfl rfl ?_
                refine g_dconst0 C X4 (pc' := 158) at_157 rfl rfl ?_
                rw [kk_5]
                refine g_dcmpV C X4 (pc' := 159) at_158 (v := (1 : Int32)) kk_9 rfl ?_
                refine g_ifN C X4 at_159 (by decide) rfl ?_
                refine g_iconst C X4 (pc' := 163) at_162 (v := (0 : Int32)) (by decide) rfl ?_
                exfalso; omega
            · have c136 : 0 < (cmpI p0.toInt 0).toInt := Decidable.not_not.mp c136
              have c136 : 0 < p0.toInt := (cmpI_gt _ _).mp c136
              refine g_dload C X4 (pc' := 141) at_139 rfl rfl ?_
              refine g_dconst0 C X4 (pc' := 142) at_141 rfl rfl ?_
              rw [kk_5]
              refine g_dcmpV C X4 (pc' := 143) at_142 (v := (1 : Int32)) kk_8 rfl ?_
              refine g_ifY C X4 at_143 (pc' := 148) (by decide) (by decide) (by decide) ?_
              refine g_dload C X4 (pc' := 150) at_148 rfl rfl ?_
              refine g_dconst0 C X4 (pc' := 151) at_150 rfl rfl ?_
              rw [kk_5]
              refine g_dcmpV C X4 (pc' := 152) at_151 (dcmp_cmpI D_d1 dint_zero _) rfl ?_
              refine g_if C X4 at_152 (pc' := 164) (pc'' := 155) (by decide) (by decide) rfl (fun c152 => ?_) (fun c152 => ?_)
              · have c152 : ¬ ((cmpI p0.toInt 0).toInt < 0) := c152
                have c152 : ¬ (p0.toInt < 0) := fun q => c152 ((cmpI_lt _ _).mpr q)
                refine g_dload C X4 (pc' := 166) at_164 rfl rfl ?_
                refine g_dconst0 C X4 (pc' := 167) at_166 rfl rfl ?_
                rw [kk_5]
                refine g_dcmpV C X4 (pc' := 168) at_167 (dcmp_cmpI D_d1 dint_zero _) rfl ?_
                refine g_if C X4 at_168 (pc' := 180) (pc'' := 171) (by decide) (by decide) rfl (fun c168 => ?_) (fun c168 => ?_)
                · have c168 : ¬ ((cmpI p0.toInt 0).toInt = 0) := c168
                  have c168 : ¬ (p0.toInt = 0) := fun q => c168 ((cmpI_eq _ _).mpr q)
                  refine g_dload C X4 (pc' := 182) at_180 rfl rfl ?_
                  refine g_dconst0 C X4 (pc' := 183) at_182 rfl rfl ?_
                  rw [kk_5]
                  refine g_dcmpV C X4 (pc' := 184) at_183 (dcmp_cmpI D_d1 dint_zero _) rfl ?_
                  refine g_ifY C X4 at_184 (pc' := 193) (by decide) (by decide) (fun q => c152 ((cmpI_lt _ _).mp q)) ?_
                  refine g_dload C X4 (pc' := 195) at_193 rfl rfl ?_
                  refine g_dstore C X4 (pc' := 197) at_195 (x := d1) rfl (l' := #[.val (.int p0), .val (.int p1), .val (.int p2), .val (.int p3), .val (.double d1), .second, .val (.double d2), .second, .val (.ref a1), .val (.double (4607182418800017408 : UInt64)), .second, .val (.double d1), .second]) rfl rfl ?_
                  refine g_dload C X4 (pc' := 199) at_197 rfl rfl ?_
                  refine g_dload C X4 (pc' := 201) at_199 rfl rfl ?_
                  refine g_dcmpV C X4 (pc' := 202) at_201 (dcmp_cmpI dint_one' D_d1 _) rfl ?_
                  refine g_if C X4 at_202 (pc' := 218) (pc'' := 205) (by decide) (by decide) rfl (fun c202 => ?_) (fun c202 => ?_)
                  · have c202 : 0 < (cmpI 1 p0.toInt).toInt := c202
                    have c202 : p0.toInt < 1 := (cmpI_gt _ _).mp c202
                    refine g_iconst C X4 (pc' := 219) at_218 (v := (0 : Int32)) (by decide) rfl ?_
                    exfalso; omega
                  · have c202 : ¬ (0 < (cmpI 1 p0.toInt).toInt) := c202
                    have c202 : ¬ (p0.toInt < 1) := fun q => c202 ((cmpI_gt _ _).mpr q)
                    refine g_dload C X4 (pc' := 207) at_205 rfl rfl ?_
                    refine g_dneg C X4 (pc' := 208) at_207 rfl ?_
                    refine g_dload C X4 (pc' := 210) at_208 rfl rfl ?_
                    refine g_dcmpV C X4 (pc' := 211) at_210 (dcmp_cmpI (dneg_int' dint_one') D_d1 _) rfl ?_
                    refine g_if C X4 at_211 (pc' := 218) (pc'' := 214) (by decide) (by decide) rfl (fun c211 => ?_) (fun c211 => ?_)
                    · have c211 : 0 < (cmpI (-1) p0.toInt).toInt := c211
                      have c211 : p0.toInt < -1 := (cmpI_gt _ _).mp c211
                      refine g_iconst C X4 (pc' := 219) at_218 (v := (0 : Int32)) (by decide) rfl ?_
                      exfalso; omega
                    · have c211 : ¬ (0 < (cmpI (-1) p0.toInt).toInt) := c211
                      have c211 : ¬ (p0.toInt < -1) := fun q => c211 ((cmpI_gt _ _).mpr q)
                      refine g_iconst C X4 (pc' := 215) at_214 (v := (1 : Int32)) (by decide) rfl ?_
                      refine g_goto C X4 at_215 (pc' := 219) (by decide) (by decide) ?_
                      exact g_zreturnW C X4 S2 e4 Y2 at_219 (w := 1) (by decide) ⟨rfl, N3⟩ (by decide) (by decide)
                · have c168 : (cmpI p0.toInt 0).toInt = 0 := Decidable.not_not.mp c168
                  have c168 : p0.toInt = 0 := (cmpI_eq _ _).mp c168
                  refine g_dload C X4 (pc' := 173) at_171 rfl rfl ?_
                  refine g_dconst0 C X4 (pc' := 174) at_173 rfl rfl ?_
                  rw [kk_5]
                  refine g_dcmpV C X4 (pc' := 175) at_174 (v := (1 : Int32)) kk_8 rfl ?_
                  refine g_ifN C X4 at_175 (by decide) rfl ?_
                  refine g_iconst C X4 (pc' := 179) at_178 (v := (0 : Int32)) (by decide) rfl ?_
                  exfalso; omega
              · have c152 : (cmpI p0.toInt 0).toInt < 0 := Decidable.not_not.mp c152
                have c152 : p0.toInt < 0 := (cmpI_lt _ _).mp c152
                refine g_dload C X4 (pc' := 157) at_155 rfl rfl ?_
                refine g_dconst0 C X4 (pc' := 158) at_157 rfl rfl ?_
                rw [kk_5]
                refine g_dcmpV C X4 (pc' := 159) at_158 (v := (1 : Int32)) kk_9 rfl ?_
                refine g_ifN C X4 at_159 (by decide) rfl ?_
                refine g_iconst C X4 (pc' := 163) at_162 (v := (0 : Int32)) (by decide) rfl ?_
                exfalso; omega
        · show Go p.tables e below _ T4 (mkF m 113 #[.val (.int p0), .val (.int p1), .val (.int p2), .val (.int p3), .val (.double d1), .second, .val (.double d2), .second, .val (.ref a1), .unset, .unset, .unset, .unset] [(.double (9221120237041090560 : UInt64))])
          refine g_dstore C X4 (pc' := 115) at_113 (x := (9221120237041090560 : UInt64)) rfl (l' := #[.val (.int p0), .val (.int p1), .val (.int p2), .val (.int p3), .val (.double d1), .second, .val (.double d2), .second, .val (.ref a1), .val (.double (9221120237041090560 : UInt64)), .second, .unset, .unset]) rfl rfl ?_
          refine g_dload C X4 (pc' := 117) at_115 rfl rfl ?_
          refine g_dconst0 C X4 (pc' := 118) at_117 rfl rfl ?_
          rw [kk_5]
          refine g_dcmpV C X4 (pc' := 119) at_118 (dcmp_cmpI D_d2 dint_zero _) rfl ?_
          refine g_if C X4 at_119 (pc' := 220) (pc'' := 122) (by decide) (by decide) rfl (fun c119 => ?_) (fun c119 => ?_)
          · have c119 : ¬ (0 < (cmpI p1.toInt 0).toInt) := c119
            have c119 : ¬ (0 < p1.toInt) := fun q => c119 ((cmpI_gt _ _).mpr q)
            refine g_dload C X4 (pc' := 222) at_220 rfl rfl ?_
            refine g_dconst0 C X4 (pc' := 223) at_222 rfl rfl ?_
            rw [kk_5]
            refine g_dcmpV C X4 (pc' := 224) at_223 (dcmp_cmpI D_d2 dint_zero _) rfl ?_
            refine g_if C X4 at_224 (pc' := 247) (pc'' := 227) (by decide) (by decide) rfl (fun c224 => ?_) (fun c224 => ?_)
            · have c224 : ¬ ((cmpI p1.toInt 0).toInt = 0) := c224
              have c224 : ¬ (p1.toInt = 0) := fun q => c224 ((cmpI_eq _ _).mpr q)
              refine g_dload C X4 (pc' := 249) at_247 rfl rfl ?_
              refine g_dload C X4 (pc' := 251) at_249 rfl rfl ?_
              refine g_dcmpV C X4 (pc' := 252) at_251 (v := (-1 : Int32)) kk_10 rfl ?_
              refine g_ifN C X4 at_252 (by decide) rfl ?_
              refine g_iconst C X4 (pc' := 256) at_255 (v := (1 : Int32)) (by decide) rfl ?_
              refine g_goto C X4 at_256 (pc' := 260) (by decide) (by decide) ?_
              exact g_zreturnW C X4 S2 e4 Y2 at_260 (w := 1) (by decide) ⟨rfl, N3⟩ (by decide) (by decide)
            · have c224 : (cmpI p1.toInt 0).toInt = 0 := Decidable.not_not.mp c224
              have c224 : p1.toInt = 0 := (cmpI_eq _ _).mp c224
              refine g_dload C X4 (pc' := 229) at_227 rfl rfl ?_
              refine g_dconst0 C X4 (pc' := 230) at_229 rfl rfl ?_
              rw [kk_5]
              refine g_dcmpV C X4 (pc' := 231) at_230 (dcmp_cmpI D_d1 dint_zero _) rfl ?_
              refine g_if C X4 at_231 (pc' := 247) (pc'' := 234) (by decide) (by decide) rfl (fun c231 => ?_) (fun c231 => ?_)
              · have c231 : ¬ ((cmpI p0.toInt 0).toInt = 0) := c231
                have c231 : ¬ (p0.toInt = 0) := fun q => c231 ((cmpI_eq _ _).mpr q)
                refine g_dload C X4 (pc' := 249) at_247 rfl rfl ?_
                refine g_dload C X4 (pc' := 251) at_249 rfl rfl ?_
                refine g_dcmpV C X4 (pc' := 252) at_251 (v := (-1 : Int32)) kk_10 rfl ?_
                refine g_ifN C X4 at_252 (by decide) rfl ?_
                refine g_iconst C X4 (pc' := 256) at_255 (v := (1 : Int32)) (by decide) rfl ?_
                refine g_goto C X4 at_256 (pc' := 260) (by decide) (by decide) ?_
                exact g_zreturnW C X4 S2 e4 Y2 at_260 (w := 1) (by decide) ⟨rfl, N3⟩ (by decide) (by decide)
              · have c231 : (cmpI p0.toInt 0).toInt = 0 := Decidable.not_not.mp c231
                have c231 : p0.toInt = 0 := (cmpI_eq _ _).mp c231
                refine g_dload C X4 (pc' := 236) at_234 rfl rfl ?_
                refine g_dconst1 C X4 (pc' := 237) at_236 rfl rfl ?_
                rw [kk_6]
                refine g_dcmpV C X4 (pc' := 238) at_237 (v := (-1 : Int32)) kk_11 rfl ?_
                refine g_ifY C X4 at_238 (pc' := 245) (by decide) (by decide) (by decide) ?_
                refine g_iconst C X4 (pc' := 246) at_245 (v := (0 : Int32)) (by decide) rfl ?_
                exfalso; omega
          · have c119 : 0 < (cmpI p1.toInt 0).toInt := Decidable.not_not.mp c119
            have c119 : 0 < p1.toInt := (cmpI_gt _ _).mp c119
            refine g_dload C X4 (pc' := 124) at_122 rfl rfl ?_
            refine g_dload C X4 (pc' := 126) at_124 rfl rfl ?_
            refine g_dcmpV C X4 (pc' := 127) at_126 (v := (-1 : Int32)) kk_10 rfl ?_
            refine g_ifN C X4 at_127 (by decide) rfl ?_
            refine g_iconst C X4 (pc' := 131) at_130 (v := (0 : Int32)) (by decide) rfl ?_
            exfalso; omega
      · have c84 : ¬ ((p3 &&& (8 : Int32)).toInt = 0) := c84
        refine g_dload C X0 (pc' := 89) at_87 rfl rfl ?_
        refine g_dneg C X0 (pc' := 90) at_89 rfl ?_
        obtain ⟨d13, e_d13⟩ : ∃ z : UInt64, z = FP.dneg d2 := ⟨_, rfl⟩
        have D_d13 : FP.Core.DInt (-p1.toInt) d13 := e_d13 ▸ (dneg_int' D_d2)
        refine g_dstore C X0 (pc' := 92) at_90 (x := d13) e_d13 (l' := #[.val (.int p0), .val (.int p1), .val (.int p2), .val (.int p3), .val (.double d1), .second, .val (.double d13), .second, .unset, .unset, .unset, .unset, .unset]) rfl rfl ?_
        have r0 := own_b32 p0
        have r1 := own_b32 p1
        have bi : -2147483648 ≤ p0.toInt ∧ p0.toInt ≤ 2147483648 := by omega
        have bj : -2147483648 ≤ -p1.toInt ∧ -p1.toInt ≤ 2147483648 := by omega
        refine g_new C X0 (hw _ (List.mem_of_getElem? (i := 0) rfl)) (hw _ (List.mem_of_getElem? (i := 1) rfl)) (hw _ (List.mem_of_getElem? (i := 2) rfl)) e0 at_92 (by decide) (by decide) rfl ?_
        intro T5 h5 a5 g5 X5 e5 E5 A5 D5
        have z_a5 : n0 ≤ a5 := by rw [g5]; exact Z0
        have Z5 : n0 ≤ h5.size := Nat.le_trans Z0 E5.1
        have F5_1 : Fld Z h5 a5 "com/example/sitewise/sitewise/Solution" "plan" "Lcom/example/sitewise/sitewise/Plan;" .null := D5 (Or.inr (hw _ (List.mem_of_getElem? (i := 21) rfl))) (ty := (.object "com/example/sitewise/sitewise/Plan")) (by decide)
        have F5_2 : Fld Z h5 a5 "com/example/sitewise/sitewise/Solution" "cost" "D" (.double (0 : UInt64)) := D5 (Or.inr (hw _ (List.mem_of_getElem? (i := 23) rfl))) (ty := .double) (by decide)
        have F5_3 : Fld Z h5 a5 "com/example/sitewise/sitewise/Solution" "lowerBound" "D" (.double (0 : UInt64)) := D5 (Or.inr (hw _ (List.mem_of_getElem? (i := 25) rfl))) (ty := .double) (by decide)
        have F5_4 : Fld Z h5 a5 "com/example/sitewise/sitewise/Solution" "guarantee" "Ljava/lang/String;" .null := D5 (Or.inr (hw _ (List.mem_of_getElem? (i := 27) rfl))) (ty := (.object "java/lang/String")) (by decide)
        have F5_5 : Fld Z h5 a5 "com/example/sitewise/sitewise/Solution" "alpha" "[D" .null := D5 (Or.inr (hw _ (List.mem_of_getElem? (i := 29) rfl))) (ty := (.array .double)) (by decide)
        refine g_dup C X5 (pc' := 96) at_95 rfl rfl ?_
        refine g_aconstNull C X5 (pc' := 97) at_96 rfl ?_
        refine g_dload C X5 (pc' := 99) at_97 rfl rfl ?_
        refine g_dload C X5 (pc' := 101) at_99 rfl rfl ?_
        refine g_ldcS1 C X5 (hw _ (List.mem_of_getElem? (i := 3) rfl)) wS e5 at_101 4 (by decide) (by decide) (by decide) (by decide) rfl ?_
        intro a6 T6 h6 k6 C X6 e6 E6 S6 Y6
        have A5 := A5.ext E6
        have F5_1 := F5_1.ext E6
        have F5_2 := F5_2.ext E6
        have F5_3 := F5_3.ext E6
        have F5_4 := F5_4.ext E6
        have F5_5 := F5_5.ext E6
        have Z6 : n0 ≤ h6.size := Nat.le_trans Z5 E6.1
        refine g_callI C X6 (k4_init l Z a0 hw h6 n0 Z6 a5 d1 p0.toInt d13 (-p1.toInt) a6 z_a5  D_d1 (own_b32 p0) D_d13 A5 F5_1 F5_2 F5_3 F5_4 F5_5) rfl (hw _ (List.mem_of_getElem? (i := 11) rfl)) (hw _ (List.mem_of_getElem? (i := 12) rfl)) (hw _ (List.mem_of_getElem? (i := 2) rfl)) (hw _ (List.mem_of_getElem? (i := 13) rfl)) (by decide) e6 at_103 rfl kk_4 a5 [.null, (.double d1), (.double d13), (.ref a6)] [(.ref a5)] rfl rfl rfl 1 rfl (by decide) (by decide) (by decide) (by decide) rfl ?_
        rintro _ T7 L7 X7 ⟨rfl, M7, K7, FF14, FF15, FF16, FF17, FF18, FF19⟩
        have Y6 := Y6.keep K7
        have Z7 : n0 ≤ T7.heap.size := Nat.le_trans Z6 K7.1
        have N7 := Fr.app (Fr.nil n0) M7
        obtain ⟨h7, e7⟩ : ∃ z, T7.heap = z := ⟨_, rfl⟩
        rw [e7] at Y6 FF14 FF15 FF16 FF17 FF18 FF19 Z7
        show Go p.tables e below _ T7 (mkF m 106 #[.val (.int p0), .val (.int p1), .val (.int p2), .val (.int p3), .val (.double d1), .second, .val (.double d13), .second, .unset, .unset, .unset, .unset, .unset] [(.ref a5)])
        refine g_astore C X7 (pc' := 108) at_106 rfl (l' := #[.val (.int p0), .val (.int p1), .val (.int p2), .val (.int p3), .val (.double d1), .second, .val (.double d13), .second, .val (.ref a5), .unset, .unset, .unset, .unset]) rfl rfl ?_
        refine g_aload C X7 (pc' := 110) at_108 rfl rfl rfl ?_
        refine g_callV C X7 (c_ratG l Z a0 hw h7 a5 d1 d13 _ _ D_d1 D_d13 FF16 FF17 bi bj) (hw _ (List.mem_of_getElem? (i := 30) rfl)) (hw _ (List.mem_of_getElem? (i := 31) rfl)) (hw _ (List.mem_of_getElem? (i := 33) rfl)) (hw _ (List.mem_of_getElem? (i := 32) rfl)) (hw _ (List.mem_of_getElem? (i := 2) rfl)) (hw _ (List.mem_of_getElem? (i := 34) rfl)) (by decide) e7 FF14 at_110 rfl pdR [] [] rfl rfl rfl 0 rfl (by decide) (by decide) (by decide) (by decide) rfl ?_
        rintro w8 T8 L8 X8 ⟨r8, w_, Q8, l_, e8⟩
        subst w_ l_
        rw [List.append_nil] at X8
        rcases Q8 with ⟨pj, Rr⟩ | ⟨pj, pi, rfl⟩ | ⟨pj, pi, rfl⟩
        · show Go p.tables e below _ T8 (mkF m 113 #[.val (.int p0), .val (.int p1), .val (.int p2), .val (.int p3), .val (.double d1), .second, .val (.double d13), .second, .val (.ref a5), .unset, .unset, .unset, .unset] [(.double r8)])
          refine g_dstore C X8 (pc' := 115) at_113 (x := r8) rfl (l' := #[.val (.int p0), .val (.int p1), .val (.int p2), .val (.int p3), .val (.double d1), .second, .val (.double d13), .second, .val (.ref a5), .val (.double r8), .second, .unset, .unset]) rfl rfl ?_
          refine g_dload C X8 (pc' := 117) at_115 rfl rfl ?_
          refine g_dconst0 C X8 (pc' := 118) at_117 rfl rfl ?_
          rw [kk_5]
          refine g_dcmpV C X8 (pc' := 119) at_118 (dcmp_cmpI D_d13 dint_zero _) rfl ?_
          refine g_if C X8 at_119 (pc' := 220) (pc'' := 122) (by decide) (by decide) rfl (fun c119 => ?_) (fun c119 => ?_)
          · have c119 : ¬ (0 < (cmpI (-p1.toInt) 0).toInt) := c119
            have c119 : ¬ (0 < -p1.toInt) := fun q => c119 ((cmpI_gt _ _).mpr q)
            refine g_dload C X8 (pc' := 222) at_220 rfl rfl ?_
            refine g_dconst0 C X8 (pc' := 223) at_222 rfl rfl ?_
            rw [kk_5]
            refine g_dcmpV C X8 (pc' := 224) at_223 (dcmp_cmpI D_d13 dint_zero _) rfl ?_
            refine g_if C X8 at_224 (pc' := 247) (pc'' := 227) (by decide) (by decide) rfl (fun c224 => ?_) (fun c224 => ?_)
            · have c224 : ¬ ((cmpI (-p1.toInt) 0).toInt = 0) := c224
              have c224 : ¬ (-p1.toInt = 0) := fun q => c224 ((cmpI_eq _ _).mpr q)
              refine g_dload C X8 (pc' := 249) at_247 rfl rfl ?_
              refine g_dload C X8 (pc' := 251) at_249 rfl rfl ?_
              refine g_dcmp C X8 (pc' := 252) at_251 rfl ?_
              refine g_if C X8 at_252 (pc' := 259) (pc'' := 255) (by decide) (by decide) rfl (fun c252 => ?_) (fun c252 => ?_)
              · have c252 : (cmpValue (FP.dcmp r8 r8) .l).toInt = 0 := c252
                refine g_iconst C X8 (pc' := 260) at_259 (v := (0 : Int32)) (by decide) rfl ?_
                exfalso; omega
              · have c252 : ¬ ((cmpValue (FP.dcmp r8 r8) .l).toInt = 0) := c252
                refine g_iconst C X8 (pc' := 256) at_255 (v := (1 : Int32)) (by decide) rfl ?_
                refine g_goto C X8 at_256 (pc' := 260) (by decide) (by decide) ?_
                exact g_zreturnW C X8 S6 e8 Y6 at_260 (w := 1) (by decide) ⟨rfl, N7⟩ (by decide) (by decide)
            · have c224 : (cmpI (-p1.toInt) 0).toInt = 0 := Decidable.not_not.mp c224
              have c224 : -p1.toInt = 0 := (cmpI_eq _ _).mp c224
              refine g_dload C X8 (pc' := 229) at_227 rfl rfl ?_
              refine g_dconst0 C X8 (pc' := 230) at_229 rfl rfl ?_
              rw [kk_5]
              refine g_dcmpV C X8 (pc' := 231) at_230 (dcmp_cmpI D_d1 dint_zero _) rfl ?_
              refine g_if C X8 at_231 (pc' := 247) (pc'' := 234) (by decide) (by decide) rfl (fun c231 => ?_) (fun c231 => ?_)
              · have c231 : ¬ ((cmpI p0.toInt 0).toInt = 0) := c231
                have c231 : ¬ (p0.toInt = 0) := fun q => c231 ((cmpI_eq _ _).mpr q)
                refine g_dload C X8 (pc' := 249) at_247 rfl rfl ?_
                refine g_dload C X8 (pc' := 251) at_249 rfl rfl ?_
                refine g_dcmp C X8 (pc' := 252) at_251 rfl ?_
                refine g_if C X8 at_252 (pc' := 259) (pc'' := 255) (by decide) (by decide) rfl (fun c252 => ?_) (fun c252 => ?_)
                · have c252 : (cmpValue (FP.dcmp r8 r8) .l).toInt = 0 := c252
                  refine g_iconst C X8 (pc' := 260) at_259 (v := (0 : Int32)) (by decide) rfl ?_
                  exfalso; omega
                · have c252 : ¬ ((cmpValue (FP.dcmp r8 r8) .l).toInt = 0) := c252
                  refine g_iconst C X8 (pc' := 256) at_255 (v := (1 : Int32)) (by decide) rfl ?_
                  refine g_goto C X8 at_256 (pc' := 260) (by decide) (by decide) ?_
                  exact g_zreturnW C X8 S6 e8 Y6 at_260 (w := 1) (by decide) ⟨rfl, N7⟩ (by decide) (by decide)
              · have c231 : (cmpI p0.toInt 0).toInt = 0 := Decidable.not_not.mp c231
                have c231 : p0.toInt = 0 := (cmpI_eq _ _).mp c231
                refine g_dload C X8 (pc' := 236) at_234 rfl rfl ?_
                refine g_dconst1 C X8 (pc' := 237) at_236 rfl rfl ?_
                rw [kk_6]
                refine g_dcmp C X8 (pc' := 238) at_237 rfl ?_
                refine g_if C X8 at_238 (pc' := 245) (pc'' := 241) (by decide) (by decide) rfl (fun c238 => ?_) (fun c238 => ?_)
                · have c238 : ¬ ((cmpValue (FP.dcmp r8 (4607182418800017408 : UInt64)) .l).toInt = 0) := c238
                  refine g_iconst C X8 (pc' := 246) at_245 (v := (0 : Int32)) (by decide) rfl ?_
                  exfalso; omega
                · have c238 : (cmpValue (FP.dcmp r8 (4607182418800017408 : UInt64)) .l).toInt = 0 := Decidable.not_not.mp c238
                  refine g_iconst C X8 (pc' := 242) at_241 (v := (1 : Int32)) (by decide) rfl ?_
                  refine g_goto C X8 at_242 (pc' := 246) (by decide) (by decide) ?_
                  exact g_zreturnW C X8 S6 e8 Y6 at_246 (w := 1) (by decide) ⟨rfl, N7⟩ (by decide) (by decide)
          · have c119 : 0 < (cmpI (-p1.toInt) 0).toInt := Decidable.not_not.mp c119
            have c119 : 0 < -p1.toInt := (cmpI_gt _ _).mp c119
            refine g_dload C X8 (pc' := 124) at_122 rfl rfl ?_
            refine g_dload C X8 (pc' := 126) at_124 rfl rfl ?_
            refine g_dcmpV C X8 (pc' := 127) at_126 (v := (0 : Int32)) (own_self Rr.1 _) rfl ?_
            refine g_ifY C X8 at_127 (pc' := 132) (by decide) (by decide) (by decide) ?_
            have Rq := Rr
            obtain ⟨-, R1, R2, R3, -, -, -⟩ := Rq
            refine g_dload C X8 (pc' := 134) at_132 rfl rfl ?_
            refine g_dconst0 C X8 (pc' := 135) at_134 rfl rfl ?_
            rw [kk_5]
            refine g_dcmpV C X8 (pc' := 136) at_135 (dcmp_cmpI D_d1 dint_zero _) rfl ?_
            refine g_if C X8 at_136 (pc' := 148) (pc'' := 139) (by decide) (by decide) rfl (fun c136 => ?_) (fun c136 => ?_)
            · have c136 : ¬ (0 < (cmpI p0.toInt 0).toInt) := c136
              have c136 : ¬ (0 < p0.toInt) := fun q => c136 ((cmpI_gt _ _).mpr q)
              refine g_dload C X8 (pc' := 150) at_148 rfl rfl ?_
              refine g_dconst0 C X8 (pc' := 151) at_150 rfl rfl ?_
              rw [kk_5]
              refine g_dcmpV C X8 (pc' := 152) at_151 (dcmp_cmpI D_d1 dint_zero _) rfl ?_
              refine g_if C X8 at_152 (pc' := 164) (pc'' := 155) (by decide) (by decide) rfl (fun c152 => ?_) (fun c152 => ?_)
              · have c152 : ¬ ((cmpI p0.toInt 0).toInt < 0) := c152
                have c152 : ¬ (p0.toInt < 0) := fun q => c152 ((cmpI_lt _ _).mpr q)
                refine g_dload C X8 (pc' := 166) at_164 rfl rfl ?_
                refine g_dconst0 C X8 (pc' := 167) at_166 rfl rfl ?_
                rw [kk_5]
                refine g_dcmpV C X8 (pc' := 168) at_167 (dcmp_cmpI D_d1 dint_zero _) rfl ?_
                refine g_if C X8 at_168 (pc' := 180) (pc'' := 171) (by decide) (by decide) rfl (fun c168 => ?_) (fun c168 => ?_)
                · have c168 : ¬ ((cmpI p0.toInt 0).toInt = 0) := c168
                  have c168 : ¬ (p0.toInt = 0) := fun q => c168 ((cmpI_eq _ _).mpr q)
                  refine g_dload C X8 (pc' := 182) at_180 rfl rfl ?_
                  refine g_dconst0 C X8 (pc' := 183) at_182 rfl rfl ?_
                  rw [kk_5]
                  refine g_dcmpV C X8 (pc' := 184) at_183 (dcmp_cmpI D_d1 dint_zero _) rfl ?_
                  refine g_ifY C X8 at_184 (pc' := 193) (by decide) (by decide) (fun q => c152 ((cmpI_lt _ _).mp q)) ?_
                  refine g_dload C X8 (pc' := 195) at_193 rfl rfl ?_
                  refine g_dstore C X8 (pc' := 197) at_195 (x := d1) rfl (l' := #[.val (.int p0), .val (.int p1), .val (.int p2), .val (.int p3), .val (.double d1), .second, .val (.double d13), .second, .val (.ref a5), .val (.double r8), .second, .val (.double d1), .second]) rfl rfl ?_
                  have Rq := Rr
                  obtain ⟨-, R1, R2, R3, R4, R5, R6⟩ := Rq
                  refine g_dload C X8 (pc' := 199) at_197 rfl rfl ?_
                  refine g_dload C X8 (pc' := 201) at_199 rfl rfl ?_
                  refine g_dcmpV C X8 (pc' := 202) at_201 (dcmp_dz Rr.1 (nn_of_int D_d1) _) rfl ?_
                  refine g_if C X8 at_202 (pc' := 218) (pc'' := 205) (by decide) (by decide) rfl (fun c202 => ?_) (fun c202 => ?_)
                  · have c202 : 0 < (cmpI (dz r8) (dz d1)).toInt := c202
                    have c202 : dz d1 < dz r8 := (cmpI_gt _ _).mp c202
                    refine g_iconst C X8 (pc' := 219) at_218 (v := (0 : Int32)) (by decide) rfl ?_
                    exfalso; omega
                  · have c202 : ¬ (0 < (cmpI (dz r8) (dz d1)).toInt) := c202
                    have c202 : ¬ (dz d1 < dz r8) := fun q => c202 ((cmpI_gt _ _).mpr q)
                    refine g_dload C X8 (pc' := 207) at_205 rfl rfl ?_
                    refine g_dneg C X8 (pc' := 208) at_207 rfl ?_
                    refine g_dload C X8 (pc' := 210) at_208 rfl rfl ?_
                    refine g_dcmpV C X8 (pc' := 211) at_210 (own_cn Rr.1 (nn_of_int D_d1) _) rfl ?_
                    refine g_if C X8 at_211 (pc' := 218) (pc'' := 214) (by decide) (by decide) rfl (fun c211 => ?_) (fun c211 => ?_)
                    · have c211 : 0 < (cmpI (-dz r8) (dz d1)).toInt := c211
                      have c211 : dz d1 < -dz r8 := (cmpI_gt _ _).mp c211
                      refine g_iconst C X8 (pc' := 219) at_218 (v := (0 : Int32)) (by decide) rfl ?_
                      exfalso; omega
                    · have c211 : ¬ (0 < (cmpI (-dz r8) (dz d1)).toInt) := c211
                      have c211 : ¬ (dz d1 < -dz r8) := fun q => c211 ((cmpI_gt _ _).mpr q)
                      refine g_iconst C X8 (pc' := 215) at_214 (v := (1 : Int32)) (by decide) rfl ?_
                      refine g_goto C X8 at_215 (pc' := 219) (by decide) (by decide) ?_
                      exact g_zreturnW C X8 S6 e8 Y6 at_219 (w := 1) (by decide) ⟨rfl, N7⟩ (by decide) (by decide)
                · have c168 : (cmpI p0.toInt 0).toInt = 0 := Decidable.not_not.mp c168
                  have c168 : p0.toInt = 0 := (cmpI_eq _ _).mp c168
                  refine g_dload C X8 (pc' := 173) at_171 rfl rfl ?_
                  refine g_dconst0 C X8 (pc' := 174) at_173 rfl rfl ?_
                  rw [kk_5]
                  refine g_dcmpV C X8 (pc' := 175) at_174 (own_c0 Rr.1 _) rfl ?_
                  refine g_if C X8 at_175 (pc' := 180) (pc'' := 178) (by decide) (by decide) rfl (fun c175 => ?_) (fun c175 => ?_)
                  · have c175 : (cmpI (dz r8) 0).toInt = 0 := c175
                    have c175 : dz r8 = 0 := (cmpI_eq _ _).mp c175
                    refine g_dload C X8 (pc' := 182) at_180 rfl rfl ?_
                    refine g_dconst0 C X8 (pc' := 183) at_182 rfl rfl ?_
                    rw [kk_5]
                    refine g_dcmpV C X8 (pc' := 184) at_183 (dcmp_cmpI D_d1 dint_zero _) rfl ?_
                    refine g_ifY C X8 at_184 (pc' := 193) (by decide) (by decide) (fun q => c152 ((cmpI_lt _ _).mp q)) ?_
                    refine g_dload C X8 (pc' := 195) at_193 rfl rfl ?_
                    refine g_dstore C X8 (pc' := 197) at_195 (x := d1) rfl (l' := #[.val (.int p0), .val (.int p1), .val (.int p2), .val (.int p3), .val (.double d1), .second, .val (.double d13), .second, .val (.ref a5), .val (.double r8), .second, .val (.double d1), .second]) rfl rfl ?_
                    have Rq := Rr
                    obtain ⟨-, R1, R2, R3, R4, R5, R6⟩ := Rq
                    refine g_dload C X8 (pc' := 199) at_197 rfl rfl ?_
                    refine g_dload C X8 (pc' := 201) at_199 rfl rfl ?_
                    refine g_dcmpV C X8 (pc' := 202) at_201 (dcmp_dz Rr.1 (nn_of_int D_d1) _) rfl ?_
                    refine g_if C X8 at_202 (pc' := 218) (pc'' := 205) (by decide) (by decide) rfl (fun c202 => ?_) (fun c202 => ?_)
                    · have c202 : 0 < (cmpI (dz r8) (dz d1)).toInt := c202
                      have c202 : dz d1 < dz r8 := (cmpI_gt _ _).mp c202
                      refine g_iconst C X8 (pc' := 219) at_218 (v := (0 : Int32)) (by decide) rfl ?_
                      exfalso; omega
                    · have c202 : ¬ (0 < (cmpI (dz r8) (dz d1)).toInt) := c202
                      have c202 : ¬ (dz d1 < dz r8) := fun q => c202 ((cmpI_gt _ _).mpr q)
                      refine g_dload C X8 (pc' := 207) at_205 rfl rfl ?_
                      refine g_dneg C X8 (pc' := 208) at_207 rfl ?_
                      refine g_dload C X8 (pc' := 210) at_208 rfl rfl ?_
                      refine g_dcmpV C X8 (pc' := 211) at_210 (own_cn Rr.1 (nn_of_int D_d1) _) rfl ?_
                      refine g_if C X8 at_211 (pc' := 218) (pc'' := 214) (by decide) (by decide) rfl (fun c211 => ?_) (fun c211 => ?_)
                      · have c211 : 0 < (cmpI (-dz r8) (dz d1)).toInt := c211
                        have c211 : dz d1 < -dz r8 := (cmpI_gt _ _).mp c211
                        refine g_iconst C X8 (pc' := 219) at_218 (v := (0 : Int32)) (by decide) rfl ?_
                        exfalso; omega
                      · have c211 : ¬ (0 < (cmpI (-dz r8) (dz d1)).toInt) := c211
                        have c211 : ¬ (dz d1 < -dz r8) := fun q => c211 ((cmpI_gt _ _).mpr q)
                        refine g_iconst C X8 (pc' := 215) at_214 (v := (1 : Int32)) (by decide) rfl ?_
                        refine g_goto C X8 at_215 (pc' := 219) (by decide) (by decide) ?_
                        exact g_zreturnW C X8 S6 e8 Y6 at_219 (w := 1) (by decide) ⟨rfl, N7⟩ (by decide) (by decide)
                  · have c175 : ¬ ((cmpI (dz r8) 0).toInt = 0) := c175
                    have c175 : ¬ (dz r8 = 0) := fun q => c175 ((cmpI_eq _ _).mpr q)
                    refine g_iconst C X8 (pc' := 179) at_178 (v := (0 : Int32)) (by decide) rfl ?_
                    exfalso; omega
              · have c152 : (cmpI p0.toInt 0).toInt < 0 := Decidable.not_not.mp c152
                have c152 : p0.toInt < 0 := (cmpI_lt _ _).mp c152
                refine g_dload C X8 (pc' := 157) at_155 rfl rfl ?_
                refine g_dconst0 C X8 (pc' := 158) at_157 rfl rfl ?_
                rw [kk_5]
                refine g_dcmpV C X8 (pc' := 159) at_158 (own_c0 Rr.1 _) rfl ?_
                refine g_if C X8 at_159 (pc' := 164) (pc'' := 162) (by decide) (by decide) rfl (fun c159 => ?_) (fun c159 => ?_)
                · have c159 : (cmpI (dz r8) 0).toInt < 0 := c159
                  have c159 : dz r8 < 0 := (cmpI_lt _ _).mp c159
                  refine g_dload C X8 (pc' := 166) at_164 rfl rfl ?_
                  refine g_dconst0 C X8 (pc' := 167) at_166 rfl rfl ?_
                  rw [kk_5]
                  refine g_dcmpV C X8 (pc' := 168) at_167 (dcmp_cmpI D_d1 dint_zero _) rfl ?_
                  refine g_if C X8 at_168 (pc' := 180) (pc'' := 171) (by decide) (by decide) rfl (fun c168 => ?_) (fun c168 => ?_)
                  · have c168 : ¬ ((cmpI p0.toInt 0).toInt = 0) := c168
                    have c168 : ¬ (p0.toInt = 0) := fun q => c168 ((cmpI_eq _ _).mpr q)
                    refine g_dload C X8 (pc' := 182) at_180 rfl rfl ?_
                    refine g_dconst0 C X8 (pc' := 183) at_182 rfl rfl ?_
                    rw [kk_5]
                    refine g_dcmpV C X8 (pc' := 184) at_183 (dcmp_cmpI D_d1 dint_zero _) rfl ?_
                    refine g_ifN C X8 at_184 (fun q => q ((cmpI_lt _ _).mpr c152)) rfl ?_
                    refine g_dload C X8 (pc' := 189) at_187 rfl rfl ?_
                    refine g_dneg C X8 (pc' := 190) at_189 rfl ?_
                    refine g_goto C X8 at_190 (pc' := 195) (by decide) (by decide) ?_
                    obtain ⟨d20, e_d20⟩ : ∃ z : UInt64, z = FP.dneg d1 := ⟨_, rfl⟩
                    have D_d20 : FP.Core.DInt (-p0.toInt) d20 := e_d20 ▸ (dneg_int' D_d1)
                    refine g_dstore C X8 (pc' := 197) at_195 (x := d20) e_d20 (l' := #[.val (.int p0), .val (.int p1), .val (.int p2), .val (.int p3), .val (.double d1), .second, .val (.double d13), .second, .val (.ref a5), .val (.double r8), .second, .val (.double d20), .second]) rfl rfl ?_
                    have Rq := Rr
                    obtain ⟨-, R1, R2, R3, R4, R5, R6⟩ := Rq
                    have zac : dz d20 = -dz d1 := by rw [e_d20]; exact dz_dneg _
                    refine g_dload C X8 (pc' := 199) at_197 rfl rfl ?_
                    refine g_dload C X8 (pc' := 201) at_199 rfl rfl ?_
                    refine g_dcmpV C X8 (pc' := 202) at_201 (dcmp_dz Rr.1 (nn_of_int D_d20) _) rfl ?_
                    refine g_if C X8 at_202 (pc' := 218) (pc'' := 205) (by decide) (by decide) rfl (fun c202 => ?_) (fun c202 => ?_)
                    · have c202 : 0 < (cmpI (dz r8) (dz d20)).toInt := c202
                      have c202 : dz d20 < dz r8 := (cmpI_gt _ _).mp c202
                      refine g_iconst C X8 (pc' := 219) at_218 (v := (0 : Int32)) (by decide) rfl ?_
                      exfalso; omega
                    · have c202 : ¬ (0 < (cmpI (dz r8) (dz d20)).toInt) := c202
                      have c202 : ¬ (dz d20 < dz r8) := fun q => c202 ((cmpI_gt _ _).mpr q)
                      refine g_dload C X8 (pc' := 207) at_205 rfl rfl ?_
                      refine g_dneg C X8 (pc' := 208) at_207 rfl ?_
                      refine g_dload C X8 (pc' := 210) at_208 rfl rfl ?_
                      refine g_dcmpV C X8 (pc' := 211) at_210 (own_cn Rr.1 (nn_of_int D_d20) _) rfl ?_
                      refine g_if C X8 at_211 (pc' := 218) (pc'' := 214) (by decide) (by decide) rfl (fun c211 => ?_) (fun c211 => ?_)
                      · have c211 : 0 < (cmpI (-dz r8) (dz d20)).toInt := c211
                        have c211 : dz d20 < -dz r8 := (cmpI_gt _ _).mp c211
                        refine g_iconst C X8 (pc' := 219) at_218 (v := (0 : Int32)) (by decide) rfl ?_
                        exfalso; omega
                      · have c211 : ¬ (0 < (cmpI (-dz r8) (dz d20)).toInt) := c211
                        have c211 : ¬ (dz d20 < -dz r8) := fun q => c211 ((cmpI_gt _ _).mpr q)
                        refine g_iconst C X8 (pc' := 215) at_214 (v := (1 : Int32)) (by decide) rfl ?_
                        refine g_goto C X8 at_215 (pc' := 219) (by decide) (by decide) ?_
                        exact g_zreturnW C X8 S6 e8 Y6 at_219 (w := 1) (by decide) ⟨rfl, N7⟩ (by decide) (by decide)
                  · have c168 : (cmpI p0.toInt 0).toInt = 0 := Decidable.not_not.mp c168
                    have c168 : p0.toInt = 0 := (cmpI_eq _ _).mp c168
                    refine g_dload C X8 (pc' := 173) at_171 rfl rfl ?_
                    refine g_dconst0 C X8 (pc' := 174) at_173 rfl rfl ?_
                    rw [kk_5]
                    refine g_dcmpV C X8 (pc' := 175) at_174 (own_c0 Rr.1 _) rfl ?_
                    refine g_if C X8 at_175 (pc' := 180) (pc'' := 178) (by decide) (by decide) rfl (fun c175 => ?_) (fun c175 => ?_)
                    · have c175 : (cmpI (dz r8) 0).toInt = 0 := c175
                      have c175 : dz r8 = 0 := (cmpI_eq _ _).mp c175
                      refine g_dload C X8 (pc' := 182) at_180 rfl rfl ?_
                      refine g_dconst0 C X8 (pc' := 183) at_182 rfl rfl ?_
                      rw [kk_5]
                      refine g_dcmpV C X8 (pc' := 184) at_183 (dcmp_cmpI D_d1 dint_zero _) rfl ?_
                      refine g_ifN C X8 at_184 (fun q => q ((cmpI_lt _ _).mpr c152)) rfl ?_
                      refine g_dload C X8 (pc' := 189) at_187 rfl rfl ?_
                      refine g_dneg C X8 (pc' := 190) at_189 rfl ?_
                      refine g_goto C X8 at_190 (pc' := 195) (by decide) (by decide) ?_
                      obtain ⟨d21, e_d21⟩ : ∃ z : UInt64, z = FP.dneg d1 := ⟨_, rfl⟩
                      have D_d21 : FP.Core.DInt (-p0.toInt) d21 := e_d21 ▸ (dneg_int' D_d1)
                      refine g_dstore C X8 (pc' := 197) at_195 (x := d21) e_d21 (l' := #[.val (.int p0), .val (.int p1), .val (.int p2), .val (.int p3), .val (.double d1), .second, .val (.double d13), .second, .val (.ref a5), .val (.double r8), .second, .val (.double d21), .second]) rfl rfl ?_
                      have Rq := Rr
                      obtain ⟨-, R1, R2, R3, R4, R5, R6⟩ := Rq
                      have zac : dz d21 = -dz d1 := by rw [e_d21]; exact dz_dneg _
                      refine g_dload C X8 (pc' := 199) at_197 rfl rfl ?_
                      refine g_dload C X8 (pc' := 201) at_199 rfl rfl ?_
                      refine g_dcmpV C X8 (pc' := 202) at_201 (dcmp_dz Rr.1 (nn_of_int D_d21) _) rfl ?_
                      refine g_if C X8 at_202 (pc' := 218) (pc'' := 205) (by decide) (by decide) rfl (fun c202 => ?_) (fun c202 => ?_)
                      · have c202 : 0 < (cmpI (dz r8) (dz d21)).toInt := c202
                        have c202 : dz d21 < dz r8 := (cmpI_gt _ _).mp c202
                        refine g_iconst C X8 (pc' := 219) at_218 (v := (0 : Int32)) (by decide) rfl ?_
                        exfalso; omega
                      · have c202 : ¬ (0 < (cmpI (dz r8) (dz d21)).toInt) := c202
                        have c202 : ¬ (dz d21 < dz r8) := fun q => c202 ((cmpI_gt _ _).mpr q)
                        refine g_dload C X8 (pc' := 207) at_205 rfl rfl ?_
                        refine g_dneg C X8 (pc' := 208) at_207 rfl ?_
                        refine g_dload C X8 (pc' := 210) at_208 rfl rfl ?_
                        refine g_dcmpV C X8 (pc' := 211) at_210 (own_cn Rr.1 (nn_of_int D_d21) _) rfl ?_
                        refine g_if C X8 at_211 (pc' := 218) (pc'' := 214) (by decide) (by decide) rfl (fun c211 => ?_) (fun c211 => ?_)
                        · have c211 : 0 < (cmpI (-dz r8) (dz d21)).toInt := c211
                          have c211 : dz d21 < -dz r8 := (cmpI_gt _ _).mp c211
                          refine g_iconst C X8 (pc' := 219) at_218 (v := (0 : Int32)) (by decide) rfl ?_
                          exfalso; omega
                        · have c211 : ¬ (0 < (cmpI (-dz r8) (dz d21)).toInt) := c211
                          have c211 : ¬ (dz d21 < -dz r8) := fun q => c211 ((cmpI_gt _ _).mpr q)
                          refine g_iconst C X8 (pc' := 215) at_214 (v := (1 : Int32)) (by decide) rfl ?_
                          refine g_goto C X8 at_215 (pc' := 219) (by decide) (by decide) ?_
                          exact g_zreturnW C X8 S6 e8 Y6 at_219 (w := 1) (by decide) ⟨rfl, N7⟩ (by decide) (by decide)
                    · have c175 : ¬ ((cmpI (dz r8) 0).toInt = 0) := c175
                      have c175 : ¬ (dz r8 = 0) := fun q => c175 ((cmpI_eq _ _).mpr q)
                      refine g_iconst C X8 (pc' := 179) at_178 (v := (0 : Int32)) (by decide) rfl ?_
                      exfalso; omega
                · have c159 : ¬ ((cmpI (dz r8) 0).toInt < 0) := c159
                  have c159 : ¬ (dz r8 < 0) := fun q => c159 ((cmpI_lt _ _).mpr q)
                  refine g_iconst C X8 (pc' := 163) at_162 (v := (0 : Int32)) (by decide) rfl ?_
                  exfalso; omega
            · have c136 : 0 < (cmpI p0.toInt 0).toInt := Decidable.not_not.mp c136
              have c136 : 0 < p0.toInt := (cmpI_gt _ _).mp c136
              refine g_dload C X8 (pc' := 141) at_139 rfl rfl ?_
              refine g_dconst0 C X8 (pc' := 142) at_141 rfl rfl ?_
              rw [kk_5]
              refine g_dcmpV C X8 (pc' := 143) at_142 (own_c0 Rr.1 _) rfl ?_
              refine g_if C X8 at_143 (pc' := 148) (pc'' := 146) (by decide) (by decide) rfl (fun c143 => ?_) (fun c143 => ?_)
              · have c143 : 0 < (cmpI (dz r8) 0).toInt := c143
                have c143 : 0 < dz r8 := (cmpI_gt _ _).mp c143
                refine g_dload C X8 (pc' := 150) at_148 rfl rfl ?_
                refine g_dconst0 C X8 (pc' := 151) at_150 rfl rfl ?_
                rw [kk_5]
                refine g_dcmpV C X8 (pc' := 152) at_151 (dcmp_cmpI D_d1 dint_zero _) rfl ?_
                refine g_if C X8 at_152 (pc' := 164) (pc'' := 155) (by decide) (by decide) rfl (fun c152 => ?_) (fun c152 => ?_)
                · have c152 : ¬ ((cmpI p0.toInt 0).toInt < 0) := c152
                  have c152 : ¬ (p0.toInt < 0) := fun q => c152 ((cmpI_lt _ _).mpr q)
                  refine g_dload C X8 (pc' := 166) at_164 rfl rfl ?_
                  refine g_dconst0 C X8 (pc' := 167) at_166 rfl rfl ?_
                  rw [kk_5]
                  refine g_dcmpV C X8 (pc' := 168) at_167 (dcmp_cmpI D_d1 dint_zero _) rfl ?_
                  refine g_if C X8 at_168 (pc' := 180) (pc'' := 171) (by decide) (by decide) rfl (fun c168 => ?_) (fun c168 => ?_)
                  · have c168 : ¬ ((cmpI p0.toInt 0).toInt = 0) := c168
                    have c168 : ¬ (p0.toInt = 0) := fun q => c168 ((cmpI_eq _ _).mpr q)
                    refine g_dload C X8 (pc' := 182) at_180 rfl rfl ?_
                    refine g_dconst0 C X8 (pc' := 183) at_182 rfl rfl ?_
                    rw [kk_5]
                    refine g_dcmpV C X8 (pc' := 184) at_183 (dcmp_cmpI D_d1 dint_zero _) rfl ?_
                    refine g_ifY C X8 at_184 (pc' := 193) (by decide) (by decide) (fun q => c152 ((cmpI_lt _ _).mp q)) ?_
                    refine g_dload C X8 (pc' := 195) at_193 rfl rfl ?_
                    refine g_dstore C X8 (pc' := 197) at_195 (x := d1) rfl (l' := #[.val (.int p0), .val (.int p1), .val (.int p2), .val (.int p3), .val (.double d1), .second, .val (.double d13), .second, .val (.ref a5), .val (.double r8), .second, .val (.double d1), .second]) rfl rfl ?_
                    have Rq := Rr
                    obtain ⟨-, R1, R2, R3, R4, R5, R6⟩ := Rq
                    refine g_dload C X8 (pc' := 199) at_197 rfl rfl ?_
                    refine g_dload C X8 (pc' := 201) at_199 rfl rfl ?_
                    refine g_dcmpV C X8 (pc' := 202) at_201 (dcmp_dz Rr.1 (nn_of_int D_d1) _) rfl ?_
                    refine g_if C X8 at_202 (pc' := 218) (pc'' := 205) (by decide) (by decide) rfl (fun c202 => ?_) (fun c202 => ?_)
                    · have c202 : 0 < (cmpI (dz r8) (dz d1)).toInt := c202
                      have c202 : dz d1 < dz r8 := (cmpI_gt _ _).mp c202
                      refine g_iconst C X8 (pc' := 219) at_218 (v := (0 : Int32)) (by decide) rfl ?_
                      exfalso; omega
                    · have c202 : ¬ (0 < (cmpI (dz r8) (dz d1)).toInt) := c202
                      have c202 : ¬ (dz d1 < dz r8) := fun q => c202 ((cmpI_gt _ _).mpr q)
                      refine g_dload C X8 (pc' := 207) at_205 rfl rfl ?_
                      refine g_dneg C X8 (pc' := 208) at_207 rfl ?_
                      refine g_dload C X8 (pc' := 210) at_208 rfl rfl ?_
                      refine g_dcmpV C X8 (pc' := 211) at_210 (own_cn Rr.1 (nn_of_int D_d1) _) rfl ?_
                      refine g_if C X8 at_211 (pc' := 218) (pc'' := 214) (by decide) (by decide) rfl (fun c211 => ?_) (fun c211 => ?_)
                      · have c211 : 0 < (cmpI (-dz r8) (dz d1)).toInt := c211
                        have c211 : dz d1 < -dz r8 := (cmpI_gt _ _).mp c211
                        refine g_iconst C X8 (pc' := 219) at_218 (v := (0 : Int32)) (by decide) rfl ?_
                        exfalso; omega
                      · have c211 : ¬ (0 < (cmpI (-dz r8) (dz d1)).toInt) := c211
                        have c211 : ¬ (dz d1 < -dz r8) := fun q => c211 ((cmpI_gt _ _).mpr q)
                        refine g_iconst C X8 (pc' := 215) at_214 (v := (1 : Int32)) (by decide) rfl ?_
                        refine g_goto C X8 at_215 (pc' := 219) (by decide) (by decide) ?_
                        exact g_zreturnW C X8 S6 e8 Y6 at_219 (w := 1) (by decide) ⟨rfl, N7⟩ (by decide) (by decide)
                  · have c168 : (cmpI p0.toInt 0).toInt = 0 := Decidable.not_not.mp c168
                    have c168 : p0.toInt = 0 := (cmpI_eq _ _).mp c168
                    refine g_dload C X8 (pc' := 173) at_171 rfl rfl ?_
                    refine g_dconst0 C X8 (pc' := 174) at_173 rfl rfl ?_
                    rw [kk_5]
                    refine g_dcmpV C X8 (pc' := 175) at_174 (own_c0 Rr.1 _) rfl ?_
                    refine g_if C X8 at_175 (pc' := 180) (pc'' := 178) (by decide) (by decide) rfl (fun c175 => ?_) (fun c175 => ?_)
                    · have c175 : (cmpI (dz r8) 0).toInt = 0 := c175
                      have c175 : dz r8 = 0 := (cmpI_eq _ _).mp c175
                      refine g_dload C X8 (pc' := 182) at_180 rfl rfl ?_
                      refine g_dconst0 C X8 (pc' := 183) at_182 rfl rfl ?_
                      rw [kk_5]
                      refine g_dcmpV C X8 (pc' := 184) at_183 (dcmp_cmpI D_d1 dint_zero _) rfl ?_
                      refine g_ifY C X8 at_184 (pc' := 193) (by decide) (by decide) (fun q => c152 ((cmpI_lt _ _).mp q)) ?_
                      refine g_dload C X8 (pc' := 195) at_193 rfl rfl ?_
                      refine g_dstore C X8 (pc' := 197) at_195 (x := d1) rfl (l' := #[.val (.int p0), .val (.int p1), .val (.int p2), .val (.int p3), .val (.double d1), .second, .val (.double d13), .second, .val (.ref a5), .val (.double r8), .second, .val (.double d1), .second]) rfl rfl ?_
                      have Rq := Rr
                      obtain ⟨-, R1, R2, R3, R4, R5, R6⟩ := Rq
                      refine g_dload C X8 (pc' := 199) at_197 rfl rfl ?_
                      refine g_dload C X8 (pc' := 201) at_199 rfl rfl ?_
                      refine g_dcmpV C X8 (pc' := 202) at_201 (dcmp_dz Rr.1 (nn_of_int D_d1) _) rfl ?_
                      refine g_if C X8 at_202 (pc' := 218) (pc'' := 205) (by decide) (by decide) rfl (fun c202 => ?_) (fun c202 => ?_)
                      · have c202 : 0 < (cmpI (dz r8) (dz d1)).toInt := c202
                        have c202 : dz d1 < dz r8 := (cmpI_gt _ _).mp c202
                        refine g_iconst C X8 (pc' := 219) at_218 (v := (0 : Int32)) (by decide) rfl ?_
                        exfalso; omega
                      · have c202 : ¬ (0 < (cmpI (dz r8) (dz d1)).toInt) := c202
                        have c202 : ¬ (dz d1 < dz r8) := fun q => c202 ((cmpI_gt _ _).mpr q)
                        refine g_dload C X8 (pc' := 207) at_205 rfl rfl ?_
                        refine g_dneg C X8 (pc' := 208) at_207 rfl ?_
                        refine g_dload C X8 (pc' := 210) at_208 rfl rfl ?_
                        refine g_dcmpV C X8 (pc' := 211) at_210 (own_cn Rr.1 (nn_of_int D_d1) _) rfl ?_
                        refine g_if C X8 at_211 (pc' := 218) (pc'' := 214) (by decide) (by decide) rfl (fun c211 => ?_) (fun c211 => ?_)
                        · have c211 : 0 < (cmpI (-dz r8) (dz d1)).toInt := c211
                          have c211 : dz d1 < -dz r8 := (cmpI_gt _ _).mp c211
                          refine g_iconst C X8 (pc' := 219) at_218 (v := (0 : Int32)) (by decide) rfl ?_
                          exfalso; omega
                        · have c211 : ¬ (0 < (cmpI (-dz r8) (dz d1)).toInt) := c211
                          have c211 : ¬ (dz d1 < -dz r8) := fun q => c211 ((cmpI_gt _ _).mpr q)
                          refine g_iconst C X8 (pc' := 215) at_214 (v := (1 : Int32)) (by decide) rfl ?_
                          refine g_goto C X8 at_215 (pc' := 219) (by decide) (by decide) ?_
                          exact g_zreturnW C X8 S6 e8 Y6 at_219 (w := 1) (by decide) ⟨rfl, N7⟩ (by decide) (by decide)
                    · have c175 : ¬ ((cmpI (dz r8) 0).toInt = 0) := c175
                      have c175 : ¬ (dz r8 = 0) := fun q => c175 ((cmpI_eq _ _).mpr q)
                      refine g_iconst C X8 (pc' := 179) at_178 (v := (0 : Int32)) (by decide) rfl ?_
                      exfalso; omega
                · have c152 : (cmpI p0.toInt 0).toInt < 0 := Decidable.not_not.mp c152
                  have c152 : p0.toInt < 0 := (cmpI_lt _ _).mp c152
                  refine g_dload C X8 (pc' := 157) at_155 rfl rfl ?_
                  refine g_dconst0 C X8 (pc' := 158) at_157 rfl rfl ?_
                  rw [kk_5]
                  refine g_dcmpV C X8 (pc' := 159) at_158 (own_c0 Rr.1 _) rfl ?_
                  refine g_if C X8 at_159 (pc' := 164) (pc'' := 162) (by decide) (by decide) rfl (fun c159 => ?_) (fun c159 => ?_)
                  · have c159 : (cmpI (dz r8) 0).toInt < 0 := c159
                    have c159 : dz r8 < 0 := (cmpI_lt _ _).mp c159
                    refine g_dload C X8 (pc' := 166) at_164 rfl rfl ?_
                    refine g_dconst0 C X8 (pc' := 167) at_166 rfl rfl ?_
                    rw [kk_5]
                    refine g_dcmpV C X8 (pc' := 168) at_167 (dcmp_cmpI D_d1 dint_zero _) rfl ?_
                    refine g_if C X8 at_168 (pc' := 180) (pc'' := 171) (by decide) (by decide) rfl (fun c168 => ?_) (fun c168 => ?_)
                    · have c168 : ¬ ((cmpI p0.toInt 0).toInt = 0) := c168
                      have c168 : ¬ (p0.toInt = 0) := fun q => c168 ((cmpI_eq _ _).mpr q)
                      refine g_dload C X8 (pc' := 182) at_180 rfl rfl ?_
                      refine g_dconst0 C X8 (pc' := 183) at_182 rfl rfl ?_
                      rw [kk_5]
                      refine g_dcmpV C X8 (pc' := 184) at_183 (dcmp_cmpI D_d1 dint_zero _) rfl ?_
                      refine g_ifN C X8 at_184 (fun q => q ((cmpI_lt _ _).mpr c152)) rfl ?_
                      refine g_dload C X8 (pc' := 189) at_187 rfl rfl ?_
                      refine g_dneg C X8 (pc' := 190) at_189 rfl ?_
                      refine g_goto C X8 at_190 (pc' := 195) (by decide) (by decide) ?_
                      obtain ⟨d22, e_d22⟩ : ∃ z : UInt64, z = FP.dneg d1 := ⟨_, rfl⟩
                      have D_d22 : FP.Core.DInt (-p0.toInt) d22 := e_d22 ▸ (dneg_int' D_d1)
                      refine g_dstore C X8 (pc' := 197) at_195 (x := d22) e_d22 (l' := #[.val (.int p0), .val (.int p1), .val (.int p2), .val (.int p3), .val (.double d1), .second, .val (.double d13), .second, .val (.ref a5), .val (.double r8), .second, .val (.double d22), .second]) rfl rfl ?_
                      have Rq := Rr
                      obtain ⟨-, R1, R2, R3, R4, R5, R6⟩ := Rq
                      have zac : dz d22 = -dz d1 := by rw [e_d22]; exact dz_dneg _
                      refine g_dload C X8 (pc' := 199) at_197 rfl rfl ?_
                      refine g_dload C X8 (pc' := 201) at_199 rfl rfl ?_
                      refine g_dcmpV C X8 (pc' := 202) at_201 (dcmp_dz Rr.1 (nn_of_int D_d22) _) rfl ?_
                      refine g_if C X8 at_202 (pc' := 218) (pc'' := 205) (by decide) (by decide) rfl (fun c202 => ?_) (fun c202 => ?_)
                      · have c202 : 0 < (cmpI (dz r8) (dz d22)).toInt := c202
                        have c202 : dz d22 < dz r8 := (cmpI_gt _ _).mp c202
                        refine g_iconst C X8 (pc' := 219) at_218 (v := (0 : Int32)) (by decide) rfl ?_
                        exfalso; omega
                      · have c202 : ¬ (0 < (cmpI (dz r8) (dz d22)).toInt) := c202
                        have c202 : ¬ (dz d22 < dz r8) := fun q => c202 ((cmpI_gt _ _).mpr q)
                        refine g_dload C X8 (pc' := 207) at_205 rfl rfl ?_
                        refine g_dneg C X8 (pc' := 208) at_207 rfl ?_
                        refine g_dload C X8 (pc' := 210) at_208 rfl rfl ?_
                        refine g_dcmpV C X8 (pc' := 211) at_210 (own_cn Rr.1 (nn_of_int D_d22) _) rfl ?_
                        refine g_if C X8 at_211 (pc' := 218) (pc'' := 214) (by decide) (by decide) rfl (fun c211 => ?_) (fun c211 => ?_)
                        · have c211 : 0 < (cmpI (-dz r8) (dz d22)).toInt := c211
                          have c211 : dz d22 < -dz r8 := (cmpI_gt _ _).mp c211
                          refine g_iconst C X8 (pc' := 219) at_218 (v := (0 : Int32)) (by decide) rfl ?_
                          exfalso; omega
                        · have c211 : ¬ (0 < (cmpI (-dz r8) (dz d22)).toInt) := c211
                          have c211 : ¬ (dz d22 < -dz r8) := fun q => c211 ((cmpI_gt _ _).mpr q)
                          refine g_iconst C X8 (pc' := 215) at_214 (v := (1 : Int32)) (by decide) rfl ?_
                          refine g_goto C X8 at_215 (pc' := 219) (by decide) (by decide) ?_
                          exact g_zreturnW C X8 S6 e8 Y6 at_219 (w := 1) (by decide) ⟨rfl, N7⟩ (by decide) (by decide)
                    · have c168 : (cmpI p0.toInt 0).toInt = 0 := Decidable.not_not.mp c168
                      have c168 : p0.toInt = 0 := (cmpI_eq _ _).mp c168
                      refine g_dload C X8 (pc' := 173) at_171 rfl rfl ?_
                      refine g_dconst0 C X8 (pc' := 174) at_173 rfl rfl ?_
                      rw [kk_5]
                      refine g_dcmpV C X8 (pc' := 175) at_174 (own_c0 Rr.1 _) rfl ?_
                      refine g_if C X8 at_175 (pc' := 180) (pc'' := 178) (by decide) (by decide) rfl (fun c175 => ?_) (fun c175 => ?_)
                      · have c175 : (cmpI (dz r8) 0).toInt = 0 := c175
                        have c175 : dz r8 = 0 := (cmpI_eq _ _).mp c175
                        refine g_dload C X8 (pc' := 182) at_180 rfl rfl ?_
                        refine g_dconst0 C X8 (pc' := 183) at_182 rfl rfl ?_
                        rw [kk_5]
                        refine g_dcmpV C X8 (pc' := 184) at_183 (dcmp_cmpI D_d1 dint_zero _) rfl ?_
                        refine g_ifN C X8 at_184 (fun q => q ((cmpI_lt _ _).mpr c152)) rfl ?_
                        refine g_dload C X8 (pc' := 189) at_187 rfl rfl ?_
                        refine g_dneg C X8 (pc' := 190) at_189 rfl ?_
                        refine g_goto C X8 at_190 (pc' := 195) (by decide) (by decide) ?_
                        obtain ⟨d23, e_d23⟩ : ∃ z : UInt64, z = FP.dneg d1 := ⟨_, rfl⟩
                        have D_d23 : FP.Core.DInt (-p0.toInt) d23 := e_d23 ▸ (dneg_int' D_d1)
                        refine g_dstore C X8 (pc' := 197) at_195 (x := d23) e_d23 (l' := #[.val (.int p0), .val (.int p1), .val (.int p2), .val (.int p3), .val (.double d1), .second, .val (.double d13), .second, .val (.ref a5), .val (.double r8), .second, .val (.double d23), .second]) rfl rfl ?_
                        have Rq := Rr
                        obtain ⟨-, R1, R2, R3, R4, R5, R6⟩ := Rq
                        have zac : dz d23 = -dz d1 := by rw [e_d23]; exact dz_dneg _
                        refine g_dload C X8 (pc' := 199) at_197 rfl rfl ?_
                        refine g_dload C X8 (pc' := 201) at_199 rfl rfl ?_
                        refine g_dcmpV C X8 (pc' := 202) at_201 (dcmp_dz Rr.1 (nn_of_int D_d23) _) rfl ?_
                        refine g_if C X8 at_202 (pc' := 218) (pc'' := 205) (by decide) (by decide) rfl (fun c202 => ?_) (fun c202 => ?_)
                        · have c202 : 0 < (cmpI (dz r8) (dz d23)).toInt := c202
                          have c202 : dz d23 < dz r8 := (cmpI_gt _ _).mp c202
                          refine g_iconst C X8 (pc' := 219) at_218 (v := (0 : Int32)) (by decide) rfl ?_
                          exfalso; omega
                        · have c202 : ¬ (0 < (cmpI (dz r8) (dz d23)).toInt) := c202
                          have c202 : ¬ (dz d23 < dz r8) := fun q => c202 ((cmpI_gt _ _).mpr q)
                          refine g_dload C X8 (pc' := 207) at_205 rfl rfl ?_
                          refine g_dneg C X8 (pc' := 208) at_207 rfl ?_
                          refine g_dload C X8 (pc' := 210) at_208 rfl rfl ?_
                          refine g_dcmpV C X8 (pc' := 211) at_210 (own_cn Rr.1 (nn_of_int D_d23) _) rfl ?_
                          refine g_if C X8 at_211 (pc' := 218) (pc'' := 214) (by decide) (by decide) rfl (fun c211 => ?_) (fun c211 => ?_)
                          · have c211 : 0 < (cmpI (-dz r8) (dz d23)).toInt := c211
                            have c211 : dz d23 < -dz r8 := (cmpI_gt _ _).mp c211
                            refine g_iconst C X8 (pc' := 219) at_218 (v := (0 : Int32)) (by decide) rfl ?_
                            exfalso; omega
                          · have c211 : ¬ (0 < (cmpI (-dz r8) (dz d23)).toInt) := c211
                            have c211 : ¬ (dz d23 < -dz r8) := fun q => c211 ((cmpI_gt _ _).mpr q)
                            refine g_iconst C X8 (pc' := 215) at_214 (v := (1 : Int32)) (by decide) rfl ?_
                            refine g_goto C X8 at_215 (pc' := 219) (by decide) (by decide) ?_
                            exact g_zreturnW C X8 S6 e8 Y6 at_219 (w := 1) (by decide) ⟨rfl, N7⟩ (by decide) (by decide)
                      · have c175 : ¬ ((cmpI (dz r8) 0).toInt = 0) := c175
                        have c175 : ¬ (dz r8 = 0) := fun q => c175 ((cmpI_eq _ _).mpr q)
                        refine g_iconst C X8 (pc' := 179) at_178 (v := (0 : Int32)) (by decide) rfl ?_
                        exfalso; omega
                  · have c159 : ¬ ((cmpI (dz r8) 0).toInt < 0) := c159
                    have c159 : ¬ (dz r8 < 0) := fun q => c159 ((cmpI_lt _ _).mpr q)
                    refine g_iconst C X8 (pc' := 163) at_162 (v := (0 : Int32)) (by decide) rfl ?_
                    exfalso; omega
              · have c143 : ¬ (0 < (cmpI (dz r8) 0).toInt) := c143
                have c143 : ¬ (0 < dz r8) := fun q => c143 ((cmpI_gt _ _).mpr q)
                refine g_iconst C X8 (pc' := 147) at_146 (v := (0 : Int32)) (by decide) rfl ?_
                exfalso; omega
        · rw [show FP.dconst1 = (4607182418800017408 : UInt64) from by decide +kernel]
          show Go p.tables e below _ T8 (mkF m 113 #[.val (.int p0), .val (.int p1), .val (.int p2), .val (.int p3), .val (.double d1), .second, .val (.double d13), .second, .val (.ref a5), .unset, .unset, .unset, .unset] [(.double (4607182418800017408 : UInt64))])
          refine g_dstore C X8 (pc' := 115) at_113 (x := (4607182418800017408 : UInt64)) rfl (l' := #[.val (.int p0), .val (.int p1), .val (.int p2), .val (.int p3), .val (.double d1), .second, .val (.double d13), .second, .val (.ref a5), .val (.double (4607182418800017408 : UInt64)), .second, .unset, .unset]) rfl rfl ?_
          refine g_dload C X8 (pc' := 117) at_115 rfl rfl ?_
          refine g_dconst0 C X8 (pc' := 118) at_117 rfl rfl ?_
          rw [kk_5]
          refine g_dcmpV C X8 (pc' := 119) at_118 (dcmp_cmpI D_d13 dint_zero _) rfl ?_
          refine g_if C X8 at_119 (pc' := 220) (pc'' := 122) (by decide) (by decide) rfl (fun c119 => ?_) (fun c119 => ?_)
          · have c119 : ¬ (0 < (cmpI (-p1.toInt) 0).toInt) := c119
            have c119 : ¬ (0 < -p1.toInt) := fun q => c119 ((cmpI_gt _ _).mpr q)
            refine g_dload C X8 (pc' := 222) at_220 rfl rfl ?_
            refine g_dconst0 C X8 (pc' := 223) at_222 rfl rfl ?_
            rw [kk_5]
            refine g_dcmpV C X8 (pc' := 224) at_223 (dcmp_cmpI D_d13 dint_zero _) rfl ?_
            refine g_if C X8 at_224 (pc' := 247) (pc'' := 227) (by decide) (by decide) rfl (fun c224 => ?_) (fun c224 => ?_)
            · have c224 : ¬ ((cmpI (-p1.toInt) 0).toInt = 0) := c224
              have c224 : ¬ (-p1.toInt = 0) := fun q => c224 ((cmpI_eq _ _).mpr q)
              refine g_dload C X8 (pc' := 249) at_247 rfl rfl ?_
              refine g_dload C X8 (pc' := 251) at_249 rfl rfl ?_
              refine g_dcmpV C X8 (pc' := 252) at_251 (v := (0 : Int32)) kk_7 rfl ?_
              refine g_ifY C X8 at_252 (pc' := 259) (by decide) (by decide) (by decide) ?_
              refine g_iconst C X8 (pc' := 260) at_259 (v := (0 : Int32)) (by decide) rfl ?_
              exfalso; omega
            · have c224 : (cmpI (-p1.toInt) 0).toInt = 0 := Decidable.not_not.mp c224
              have c224 : -p1.toInt = 0 := (cmpI_eq _ _).mp c224
              refine g_dload C X8 (pc' := 229) at_227 rfl rfl ?_
              refine g_dconst0 C X8 (pc' := 230) at_229 rfl rfl ?_
              rw [kk_5]
              refine g_dcmpV C X8 (pc' := 231) at_230 (dcmp_cmpI D_d1 dint_zero _) rfl ?_
              refine g_if C X8 at_231 (pc' := 247) (pc'' := 234) (by decide) (by decide) rfl (fun c231 => ?_) (fun c231 => ?_)
              · have c231 : ¬ ((cmpI p0.toInt 0).toInt = 0) := c231
                have c231 : ¬ (p0.toInt = 0) := fun q => c231 ((cmpI_eq _ _).mpr q)
                refine g_dload C X8 (pc' := 249) at_247 rfl rfl ?_
                refine g_dload C X8 (pc' := 251) at_249 rfl rfl ?_
                refine g_dcmpV C X8 (pc' := 252) at_251 (v := (0 : Int32)) kk_7 rfl ?_
                refine g_ifY C X8 at_252 (pc' := 259) (by decide) (by decide) (by decide) ?_
                refine g_iconst C X8 (pc' := 260) at_259 (v := (0 : Int32)) (by decide) rfl ?_
                exfalso; omega
              · have c231 : (cmpI p0.toInt 0).toInt = 0 := Decidable.not_not.mp c231
                have c231 : p0.toInt = 0 := (cmpI_eq _ _).mp c231
                refine g_dload C X8 (pc' := 236) at_234 rfl rfl ?_
                refine g_dconst1 C X8 (pc' := 237) at_236 rfl rfl ?_
                rw [kk_6]
                refine g_dcmpV C X8 (pc' := 238) at_237 (v := (0 : Int32)) kk_7 rfl ?_
                refine g_ifN C X8 at_238 (by decide) rfl ?_
                refine g_iconst C X8 (pc' := 242) at_241 (v := (1 : Int32)) (by decide) rfl ?_
                refine g_goto C X8 at_242 (pc' := 246) (by decide) (by decide) ?_
                exact g_zreturnW C X8 S6 e8 Y6 at_246 (w := 1) (by decide) ⟨rfl, N7⟩ (by decide) (by decide)
          · have c119 : 0 < (cmpI (-p1.toInt) 0).toInt := Decidable.not_not.mp c119
            have c119 : 0 < -p1.toInt := (cmpI_gt _ _).mp c119
            refine g_dload C X8 (pc' := 124) at_122 rfl rfl ?_
            refine g_dload C X8 (pc' := 126) at_124 rfl rfl ?_
            refine g_dcmpV C X8 (pc' := 127) at_126 (v := (0 : Int32)) kk_7 rfl ?_
            refine g_ifY C X8 at_127 (pc' := 132) (by decide) (by decide) (by decide) ?_
            refine g_dload C X8 (pc' := 134) at_132 rfl rfl ?_
            refine g_dconst0 C X8 (pc' := 135) at_134 rfl rfl ?_
            rw [kk_5]
            refine g_dcmpV C X8 (pc' := 136) at_135 (dcmp_cmpI D_d1 dint_zero _) rfl ?_
            refine g_if C X8 at_136 (pc' := 148) (pc'' := 139) (by decide) (by decide) rfl (fun c136 => ?_) (fun c136 => ?_)
            · have c136 : ¬ (0 < (cmpI p0.toInt 0).toInt) := c136
              have c136 : ¬ (0 < p0.toInt) := fun q => c136 ((cmpI_gt _ _).mpr q)
              refine g_dload C X8 (pc' := 150) at_148 rfl rfl ?_
              refine g_dconst0 C X8 (pc' := 151) at_150 rfl rfl ?_
              rw [kk_5]
              refine g_dcmpV C X8 (pc' := 152) at_151 (dcmp_cmpI D_d1 dint_zero _) rfl ?_
              refine g_if C X8 at_152 (pc' := 164) (pc'' := 155) (by decide) (by decide) rfl (fun c152 => ?_) (fun c152 => ?_)
              · have c152 : ¬ ((cmpI p0.toInt 0).toInt < 0) := c152
                have c152 : ¬ (p0.toInt < 0) := fun q => c152 ((cmpI_lt _ _).mpr q)
                refine g_dload C X8 (pc' := 166) at_164 rfl rfl ?_
                refine g_dconst0 C X8 (pc' := 167) at_166 rfl rfl ?_
                rw [kk_5]
                refine g_dcmpV C X8 (pc' := 168) at_167 (dcmp_cmpI D_d1 dint_zero _) rfl ?_
                refine g_if C X8 at_168 (pc' := 180) (pc'' := 171) (by decide) (by decide) rfl (fun c168 => ?_) (fun c168 => ?_)
                · have c168 : ¬ ((cmpI p0.toInt 0).toInt = 0) := c168
                  have c168 : ¬ (p0.toInt = 0) := fun q => c168 ((cmpI_eq _ _).mpr q)
                  refine g_dload C X8 (pc' := 182) at_180 rfl rfl ?_
                  refine g_dconst0 C X8 (pc' := 183) at_182 rfl rfl ?_
                  rw [kk_5]
                  refine g_dcmpV C X8 (pc' := 184) at_183 (dcmp_cmpI D_d1 dint_zero _) rfl ?_
                  refine g_ifY C X8 at_184 (pc' := 193) (by decide) (by decide) (fun q => c152 ((cmpI_lt _ _).mp q)) ?_
                  refine g_dload C X8 (pc' := 195) at_193 rfl rfl ?_
                  refine g_dstore C X8 (pc' := 197) at_195 (x := d1) rfl (l' := #[.val (.int p0), .val (.int p1), .val (.int p2), .val (.int p3), .val (.double d1), .second, .val (.double d13), .second, .val (.ref a5), .val (.double (4607182418800017408 : UInt64)), .second, .val (.double d1), .second]) rfl rfl ?_
                  refine g_dload C X8 (pc' := 199) at_197 rfl rfl ?_
                  refine g_dload C X8 (pc' := 201) at_199 rfl rfl ?_
                  refine g_dcmpV C X8 (pc' := 202) at_201 (dcmp_cmpI dint_one' D_d1 _) rfl ?_
                  refine g_if C X8 at_202 (pc' := 218) (pc'' := 205) (by decide) (by decide) rfl (fun c202 => ?_) (fun c202 => ?_)
                  · have c202 : 0 < (cmpI 1 p0.toInt).toInt := c202
                    have c202 : p0.toInt < 1 := (cmpI_gt _ _).mp c202
                    refine g_iconst C X8 (pc' := 219) at_218 (v := (0 : Int32)) (by decide) rfl ?_
                    exfalso; omega
                  · have c202 : ¬ (0 < (cmpI 1 p0.toInt).toInt) := c202
                    have c202 : ¬ (p0.toInt < 1) := fun q => c202 ((cmpI_gt _ _).mpr q)
                    refine g_dload C X8 (pc' := 207) at_205 rfl rfl ?_
                    refine g_dneg C X8 (pc' := 208) at_207 rfl ?_
                    refine g_dload C X8 (pc' := 210) at_208 rfl rfl ?_
                    refine g_dcmpV C X8 (pc' := 211) at_210 (dcmp_cmpI (dneg_int' dint_one') D_d1 _) rfl ?_
                    refine g_if C X8 at_211 (pc' := 218) (pc'' := 214) (by decide) (by decide) rfl (fun c211 => ?_) (fun c211 => ?_)
                    · have c211 : 0 < (cmpI (-1) p0.toInt).toInt := c211
                      have c211 : p0.toInt < -1 := (cmpI_gt _ _).mp c211
                      refine g_iconst C X8 (pc' := 219) at_218 (v := (0 : Int32)) (by decide) rfl ?_
                      exfalso; omega
                    · have c211 : ¬ (0 < (cmpI (-1) p0.toInt).toInt) := c211
                      have c211 : ¬ (p0.toInt < -1) := fun q => c211 ((cmpI_gt _ _).mpr q)
                      refine g_iconst C X8 (pc' := 215) at_214 (v := (1 : Int32)) (by decide) rfl ?_
                      refine g_goto C X8 at_215 (pc' := 219) (by decide) (by decide) ?_
                      exact g_zreturnW C X8 S6 e8 Y6 at_219 (w := 1) (by decide) ⟨rfl, N7⟩ (by decide) (by decide)
                · have c168 : (cmpI p0.toInt 0).toInt = 0 := Decidable.not_not.mp c168
                  have c168 : p0.toInt = 0 := (cmpI_eq _ _).mp c168
                  refine g_dload C X8 (pc' := 173) at_171 rfl rfl ?_
                  refine g_dconst0 C X8 (pc' := 174) at_173 rfl rfl ?_
                  rw [kk_5]
                  refine g_dcmpV C X8 (pc' := 175) at_174 (v := (1 : Int32)) kk_8 rfl ?_
                  refine g_ifN C X8 at_175 (by decide) rfl ?_
                  refine g_iconst C X8 (pc' := 179) at_178 (v := (0 : Int32)) (by decide) rfl ?_
                  exfalso; omega
              · have c152 : (cmpI p0.toInt 0).toInt < 0 := Decidable.not_not.mp c152
                have c152 : p0.toInt < 0 := (cmpI_lt _ _).mp c152
                refine g_dload C X8 (pc' := 157) at_155 rfl rfl ?_
                refine g_dconst0 C X8 (pc' := 158) at_157 rfl rfl ?_
                rw [kk_5]
                refine g_dcmpV C X8 (pc' := 159) at_158 (v := (1 : Int32)) kk_9 rfl ?_
                refine g_ifN C X8 at_159 (by decide) rfl ?_
                refine g_iconst C X8 (pc' := 163) at_162 (v := (0 : Int32)) (by decide) rfl ?_
                exfalso; omega
            · have c136 : 0 < (cmpI p0.toInt 0).toInt := Decidable.not_not.mp c136
              have c136 : 0 < p0.toInt := (cmpI_gt _ _).mp c136
              refine g_dload C X8 (pc' := 141) at_139 rfl rfl ?_
              refine g_dconst0 C X8 (pc' := 142) at_141 rfl rfl ?_
              rw [kk_5]
              refine g_dcmpV C X8 (pc' := 143) at_142 (v := (1 : Int32)) kk_8 rfl ?_
              refine g_ifY C X8 at_143 (pc' := 148) (by decide) (by decide) (by decide) ?_
              refine g_dload C X8 (pc' := 150) at_148 rfl rfl ?_
              refine g_dconst0 C X8 (pc' := 151) at_150 rfl rfl ?_
              rw [kk_5]
              refine g_dcmpV C X8 (pc' := 152) at_151 (dcmp_cmpI D_d1 dint_zero _) rfl ?_
              refine g_if C X8 at_152 (pc' := 164) (pc'' := 155) (by decide) (by decide) rfl (fun c152 => ?_) (fun c152 => ?_)
              · have c152 : ¬ ((cmpI p0.toInt 0).toInt < 0) := c152
                have c152 : ¬ (p0.toInt < 0) := fun q => c152 ((cmpI_lt _ _).mpr q)
                refine g_dload C X8 (pc' := 166) at_164 rfl rfl ?_
                refine g_dconst0 C X8 (pc' := 167) at_166 rfl rfl ?_
                rw [kk_5]
                refine g_dcmpV C X8 (pc' := 168) at_167 (dcmp_cmpI D_d1 dint_zero _) rfl ?_
                refine g_if C X8 at_168 (pc' := 180) (pc'' := 171) (by decide) (by decide) rfl (fun c168 => ?_) (fun c168 => ?_)
                · have c168 : ¬ ((cmpI p0.toInt 0).toInt = 0) := c168
                  have c168 : ¬ (p0.toInt = 0) := fun q => c168 ((cmpI_eq _ _).mpr q)
                  refine g_dload C X8 (pc' := 182) at_180 rfl rfl ?_
                  refine g_dconst0 C X8 (pc' := 183) at_182 rfl rfl ?_
                  rw [kk_5]
                  refine g_dcmpV C X8 (pc' := 184) at_183 (dcmp_cmpI D_d1 dint_zero _) rfl ?_
                  refine g_ifY C X8 at_184 (pc' := 193) (by decide) (by decide) (fun q => c152 ((cmpI_lt _ _).mp q)) ?_
                  refine g_dload C X8 (pc' := 195) at_193 rfl rfl ?_
                  refine g_dstore C X8 (pc' := 197) at_195 (x := d1) rfl (l' := #[.val (.int p0), .val (.int p1), .val (.int p2), .val (.int p3), .val (.double d1), .second, .val (.double d13), .second, .val (.ref a5), .val (.double (4607182418800017408 : UInt64)), .second, .val (.double d1), .second]) rfl rfl ?_
                  refine g_dload C X8 (pc' := 199) at_197 rfl rfl ?_
                  refine g_dload C X8 (pc' := 201) at_199 rfl rfl ?_
                  refine g_dcmpV C X8 (pc' := 202) at_201 (dcmp_cmpI dint_one' D_d1 _) rfl ?_
                  refine g_if C X8 at_202 (pc' := 218) (pc'' := 205) (by decide) (by decide) rfl (fun c202 => ?_) (fun c202 => ?_)
                  · have c202 : 0 < (cmpI 1 p0.toInt).toInt := c202
                    have c202 : p0.toInt < 1 := (cmpI_gt _ _).mp c202
                    refine g_iconst C X8 (pc' := 219) at_218 (v := (0 : Int32)) (by decide) rfl ?_
                    exfalso; omega
                  · have c202 : ¬ (0 < (cmpI 1 p0.toInt).toInt) := c202
                    have c202 : ¬ (p0.toInt < 1) := fun q => c202 ((cmpI_gt _ _).mpr q)
                    refine g_dload C X8 (pc' := 207) at_205 rfl rfl ?_
                    refine g_dneg C X8 (pc' := 208) at_207 rfl ?_
                    refine g_dload C X8 (pc' := 210) at_208 rfl rfl ?_
                    refine g_dcmpV C X8 (pc' := 211) at_210 (dcmp_cmpI (dneg_int' dint_one') D_d1 _) rfl ?_
                    refine g_if C X8 at_211 (pc' := 218) (pc'' := 214) (by decide) (by decide) rfl (fun c211 => ?_) (fun c211 => ?_)
                    · have c211 : 0 < (cmpI (-1) p0.toInt).toInt := c211
                      have c211 : p0.toInt < -1 := (cmpI_gt _ _).mp c211
                      refine g_iconst C X8 (pc' := 219) at_218 (v := (0 : Int32)) (by decide) rfl ?_
                      exfalso; omega
                    · have c211 : ¬ (0 < (cmpI (-1) p0.toInt).toInt) := c211
                      have c211 : ¬ (p0.toInt < -1) := fun q => c211 ((cmpI_gt _ _).mpr q)
                      refine g_iconst C X8 (pc' := 215) at_214 (v := (1 : Int32)) (by decide) rfl ?_
                      refine g_goto C X8 at_215 (pc' := 219) (by decide) (by decide) ?_
                      exact g_zreturnW C X8 S6 e8 Y6 at_219 (w := 1) (by decide) ⟨rfl, N7⟩ (by decide) (by decide)
                · have c168 : (cmpI p0.toInt 0).toInt = 0 := Decidable.not_not.mp c168
                  have c168 : p0.toInt = 0 := (cmpI_eq _ _).mp c168
                  refine g_dload C X8 (pc' := 173) at_171 rfl rfl ?_
                  refine g_dconst0 C X8 (pc' := 174) at_173 rfl rfl ?_
                  rw [kk_5]
                  refine g_dcmpV C X8 (pc' := 175) at_174 (v := (1 : Int32)) kk_8 rfl ?_
                  refine g_ifN C X8 at_175 (by decide) rfl ?_
                  refine g_iconst C X8 (pc' := 179) at_178 (v := (0 : Int32)) (by decide) rfl ?_
                  exfalso; omega
              · have c152 : (cmpI p0.toInt 0).toInt < 0 := Decidable.not_not.mp c152
                have c152 : p0.toInt < 0 := (cmpI_lt _ _).mp c152
                refine g_dload C X8 (pc' := 157) at_155 rfl rfl ?_
                refine g_dconst0 C X8 (pc' := 158) at_157 rfl rfl ?_
                rw [kk_5]
                refine g_dcmpV C X8 (pc' := 159) at_158 (v := (1 : Int32)) kk_9 rfl ?_
                refine g_ifN C X8 at_159 (by decide) rfl ?_
                refine g_iconst C X8 (pc' := 163) at_162 (v := (0 : Int32)) (by decide) rfl ?_
                exfalso; omega
        · show Go p.tables e below _ T8 (mkF m 113 #[.val (.int p0), .val (.int p1), .val (.int p2), .val (.int p3), .val (.double d1), .second, .val (.double d13), .second, .val (.ref a5), .unset, .unset, .unset, .unset] [(.double (9221120237041090560 : UInt64))])
          refine g_dstore C X8 (pc' := 115) at_113 (x := (9221120237041090560 : UInt64)) rfl (l' := #[.val (.int p0), .val (.int p1), .val (.int p2), .val (.int p3), .val (.double d1), .second, .val (.double d13), .second, .val (.ref a5), .val (.double (9221120237041090560 : UInt64)), .second, .unset, .unset]) rfl rfl ?_
          refine g_dload C X8 (pc' := 117) at_115 rfl rfl ?_
          refine g_dconst0 C X8 (pc' := 118) at_117 rfl rfl ?_
          rw [kk_5]
          refine g_dcmpV C X8 (pc' := 119) at_118 (dcmp_cmpI D_d13 dint_zero _) rfl ?_
          refine g_if C X8 at_119 (pc' := 220) (pc'' := 122) (by decide) (by decide) rfl (fun c119 => ?_) (fun c119 => ?_)
          · have c119 : ¬ (0 < (cmpI (-p1.toInt) 0).toInt) := c119
            have c119 : ¬ (0 < -p1.toInt) := fun q => c119 ((cmpI_gt _ _).mpr q)
            refine g_dload C X8 (pc' := 222) at_220 rfl rfl ?_
            refine g_dconst0 C X8 (pc' := 223) at_222 rfl rfl ?_
            rw [kk_5]
            refine g_dcmpV C X8 (pc' := 224) at_223 (dcmp_cmpI D_d13 dint_zero _) rfl ?_
            refine g_if C X8 at_224 (pc' := 247) (pc'' := 227) (by decide) (by decide) rfl (fun c224 => ?_) (fun c224 => ?_)
            · have c224 : ¬ ((cmpI (-p1.toInt) 0).toInt = 0) := c224
              have c224 : ¬ (-p1.toInt = 0) := fun q => c224 ((cmpI_eq _ _).mpr q)
              refine g_dload C X8 (pc' := 249) at_247 rfl rfl ?_
              refine g_dload C X8 (pc' := 251) at_249 rfl rfl ?_
              refine g_dcmpV C X8 (pc' := 252) at_251 (v := (-1 : Int32)) kk_10 rfl ?_
              refine g_ifN C X8 at_252 (by decide) rfl ?_
              refine g_iconst C X8 (pc' := 256) at_255 (v := (1 : Int32)) (by decide) rfl ?_
              refine g_goto C X8 at_256 (pc' := 260) (by decide) (by decide) ?_
              exact g_zreturnW C X8 S6 e8 Y6 at_260 (w := 1) (by decide) ⟨rfl, N7⟩ (by decide) (by decide)
            · have c224 : (cmpI (-p1.toInt) 0).toInt = 0 := Decidable.not_not.mp c224
              have c224 : -p1.toInt = 0 := (cmpI_eq _ _).mp c224
              refine g_dload C X8 (pc' := 229) at_227 rfl rfl ?_
              refine g_dconst0 C X8 (pc' := 230) at_229 rfl rfl ?_
              rw [kk_5]
              refine g_dcmpV C X8 (pc' := 231) at_230 (dcmp_cmpI D_d1 dint_zero _) rfl ?_
              refine g_if C X8 at_231 (pc' := 247) (pc'' := 234) (by decide) (by decide) rfl (fun c231 => ?_) (fun c231 => ?_)
              · have c231 : ¬ ((cmpI p0.toInt 0).toInt = 0) := c231
                have c231 : ¬ (p0.toInt = 0) := fun q => c231 ((cmpI_eq _ _).mpr q)
                refine g_dload C X8 (pc' := 249) at_247 rfl rfl ?_
                refine g_dload C X8 (pc' := 251) at_249 rfl rfl ?_
                refine g_dcmpV C X8 (pc' := 252) at_251 (v := (-1 : Int32)) kk_10 rfl ?_
                refine g_ifN C X8 at_252 (by decide) rfl ?_
                refine g_iconst C X8 (pc' := 256) at_255 (v := (1 : Int32)) (by decide) rfl ?_
                refine g_goto C X8 at_256 (pc' := 260) (by decide) (by decide) ?_
                exact g_zreturnW C X8 S6 e8 Y6 at_260 (w := 1) (by decide) ⟨rfl, N7⟩ (by decide) (by decide)
              · have c231 : (cmpI p0.toInt 0).toInt = 0 := Decidable.not_not.mp c231
                have c231 : p0.toInt = 0 := (cmpI_eq _ _).mp c231
                refine g_dload C X8 (pc' := 236) at_234 rfl rfl ?_
                refine g_dconst1 C X8 (pc' := 237) at_236 rfl rfl ?_
                rw [kk_6]
                refine g_dcmpV C X8 (pc' := 238) at_237 (v := (-1 : Int32)) kk_11 rfl ?_
                refine g_ifY C X8 at_238 (pc' := 245) (by decide) (by decide) (by decide) ?_
                refine g_iconst C X8 (pc' := 246) at_245 (v := (0 : Int32)) (by decide) rfl ?_
                exfalso; omega
          · have c119 : 0 < (cmpI (-p1.toInt) 0).toInt := Decidable.not_not.mp c119
            have c119 : 0 < -p1.toInt := (cmpI_gt _ _).mp c119
            refine g_dload C X8 (pc' := 124) at_122 rfl rfl ?_
            refine g_dload C X8 (pc' := 126) at_124 rfl rfl ?_
            refine g_dcmpV C X8 (pc' := 127) at_126 (v := (-1 : Int32)) kk_10 rfl ?_
            refine g_ifN C X8 at_127 (by decide) rfl ?_
            refine g_iconst C X8 (pc' := 131) at_130 (v := (0 : Int32)) (by decide) rfl ?_
            exfalso; omega
    · have c68 : ¬ ((p3 &&& (4 : Int32)).toInt = 0) := c68
      refine g_dload C X0 (pc' := 73) at_71 rfl rfl ?_
      refine g_dneg C X0 (pc' := 74) at_73 rfl ?_
      obtain ⟨d24, e_d24⟩ : ∃ z : UInt64, z = FP.dneg d1 := ⟨_, rfl⟩
      have D_d24 : FP.Core.DInt (-p0.toInt) d24 := e_d24 ▸ (dneg_int' D_d1)
      refine g_dstore C X0 (pc' := 76) at_74 (x := d24) e_d24 (l' := #[.val (.int p0), .val (.int p1), .val (.int p2), .val (.int p3), .val (.double d24), .second, .unset, .unset, .unset, .unset, .unset, .unset, .unset]) rfl rfl ?_
      refine g_iloadN C X0 (pc' := 77) at_76 rfl rfl ?_
      refine g_i2d C X0 (pc' := 78) at_77 rfl ?_
      obtain ⟨d25, e_d25⟩ : ∃ z : UInt64, z = FP.i2d p1 := ⟨_, rfl⟩
      have D_d25 : FP.Core.DInt p1.toInt d25 := e_d25 ▸ (i2d_D p1)
      refine g_dstore C X0 (pc' := 80) at_78 (x := d25) e_d25 (l' := #[.val (.int p0), .val (.int p1), .val (.int p2), .val (.int p3), .val (.double d24), .second, .val (.double d25), .second, .unset, .unset, .unset, .unset, .unset]) rfl rfl ?_
      refine g_iloadN C X0 (pc' := 81) at_80 rfl rfl ?_
      refine g_bipush C X0 (pc' := 83) at_81 (v := (8 : Int32)) (by decide) rfl ?_
      refine g_iand C X0 (pc' := 84) at_83 rfl ?_
      refine g_if C X0 at_84 (pc' := 92) (pc'' := 87) (by decide) (by decide) rfl (fun c84 => ?_) (fun c84 => ?_)
      · have c84 : (p3 &&& (8 : Int32)).toInt = 0 := c84
        have r0 := own_b32 p0
        have r1 := own_b32 p1
        have bi : -2147483648 ≤ -p0.toInt ∧ -p0.toInt ≤ 2147483648 := by omega
        have bj : -2147483648 ≤ p1.toInt ∧ p1.toInt ≤ 2147483648 := by omega
        refine g_new C X0 (hw _ (List.mem_of_getElem? (i := 0) rfl)) (hw _ (List.mem_of_getElem? (i := 1) rfl)) (hw _ (List.mem_of_getElem? (i := 2) rfl)) e0 at_92 (by decide) (by decide) rfl ?_
        intro T9 h9 a9 g9 X9 e9 E9 A9 D9
        have z_a9 : n0 ≤ a9 := by rw [g9]; exact Z0
        have Z9 : n0 ≤ h9.size := Nat.le_trans Z0 E9.1
        have F9_1 : Fld Z h9 a9 "com/example/sitewise/sitewise/Solution" "plan" "Lcom/example/sitewise/sitewise/Plan;" .null := D9 (Or.inr (hw _ (List.mem_of_getElem? (i := 21) rfl))) (ty := (.object "com/example/sitewise/sitewise/Plan")) (by decide)
        have F9_2 : Fld Z h9 a9 "com/example/sitewise/sitewise/Solution" "cost" "D" (.double (0 : UInt64)) := D9 (Or.inr (hw _ (List.mem_of_getElem? (i := 23) rfl))) (ty := .double) (by decide)
        have F9_3 : Fld Z h9 a9 "com/example/sitewise/sitewise/Solution" "lowerBound" "D" (.double (0 : UInt64)) := D9 (Or.inr (hw _ (List.mem_of_getElem? (i := 25) rfl))) (ty := .double) (by decide)
        have F9_4 : Fld Z h9 a9 "com/example/sitewise/sitewise/Solution" "guarantee" "Ljava/lang/String;" .null := D9 (Or.inr (hw _ (List.mem_of_getElem? (i := 27) rfl))) (ty := (.object "java/lang/String")) (by decide)
        have F9_5 : Fld Z h9 a9 "com/example/sitewise/sitewise/Solution" "alpha" "[D" .null := D9 (Or.inr (hw _ (List.mem_of_getElem? (i := 29) rfl))) (ty := (.array .double)) (by decide)
        refine g_dup C X9 (pc' := 96) at_95 rfl rfl ?_
        refine g_aconstNull C X9 (pc' := 97) at_96 rfl ?_
        refine g_dload C X9 (pc' := 99) at_97 rfl rfl ?_
        refine g_dload C X9 (pc' := 101) at_99 rfl rfl ?_
        refine g_ldcS1 C X9 (hw _ (List.mem_of_getElem? (i := 3) rfl)) wS e9 at_101 4 (by decide) (by decide) (by decide) (by decide) rfl ?_
        intro a10 T10 h10 k10 C X10 e10 E10 S10 Y10
        have A9 := A9.ext E10
        have F9_1 := F9_1.ext E10
        have F9_2 := F9_2.ext E10
        have F9_3 := F9_3.ext E10
        have F9_4 := F9_4.ext E10
        have F9_5 := F9_5.ext E10
        have Z10 : n0 ≤ h10.size := Nat.le_trans Z9 E10.1
        refine g_callI C X10 (k6_init l Z a0 hw h10 n0 Z10 a9 d24 (-p0.toInt) d25 p1.toInt a10 z_a9  D_d24 D_d25 (own_b32 p1) A9 F9_1 F9_2 F9_3 F9_4 F9_5) rfl (hw _ (List.mem_of_getElem? (i := 11) rfl)) (hw _ (List.mem_of_getElem? (i := 12) rfl)) (hw _ (List.mem_of_getElem? (i := 2) rfl)) (hw _ (List.mem_of_getElem? (i := 13) rfl)) (by decide) e10 at_103 rfl kk_4 a9 [.null, (.double d24), (.double d25), (.ref a10)] [(.ref a9)] rfl rfl rfl 1 rfl (by decide) (by decide) (by decide) (by decide) rfl ?_
        rintro _ T11 L11 X11 ⟨rfl, M11, K11, FF26, FF27, FF28, FF29, FF30, FF31⟩
        have Y10 := Y10.keep K11
        have Z11 : n0 ≤ T11.heap.size := Nat.le_trans Z10 K11.1
        have N11 := Fr.app (Fr.nil n0) M11
        obtain ⟨h11, e11⟩ : ∃ z, T11.heap = z := ⟨_, rfl⟩
        rw [e11] at Y10 FF26 FF27 FF28 FF29 FF30 FF31 Z11
        show Go p.tables e below _ T11 (mkF m 106 #[.val (.int p0), .val (.int p1), .val (.int p2), .val (.int p3), .val (.double d24), .second, .val (.double d25), .second, .unset, .unset, .unset, .unset, .unset] [(.ref a9)])
        refine g_astore C X11 (pc' := 108) at_106 rfl (l' := #[.val (.int p0), .val (.int p1), .val (.int p2), .val (.int p3), .val (.double d24), .second, .val (.double d25), .second, .val (.ref a9), .unset, .unset, .unset, .unset]) rfl rfl ?_
        refine g_aload C X11 (pc' := 110) at_108 rfl rfl rfl ?_
        refine g_callV C X11 (c_ratG l Z a0 hw h11 a9 d24 d25 _ _ D_d24 D_d25 FF28 FF29 bi bj) (hw _ (List.mem_of_getElem? (i := 30) rfl)) (hw _ (List.mem_of_getElem? (i := 31) rfl)) (hw _ (List.mem_of_getElem? (i := 33) rfl)) (hw _ (List.mem_of_getElem? (i := 32) rfl)) (hw _ (List.mem_of_getElem? (i := 2) rfl)) (hw _ (List.mem_of_getElem? (i := 34) rfl)) (by decide) e11 FF26 at_110 rfl pdR [] [] rfl rfl rfl 0 rfl (by decide) (by decide) (by decide) (by decide) rfl ?_
        rintro w12 T12 L12 X12 ⟨r12, w_, Q12, l_, e12⟩
        subst w_ l_
        rw [List.append_nil] at X12
        rcases Q12 with ⟨pj, Rr⟩ | ⟨pj, pi, rfl⟩ | ⟨pj, pi, rfl⟩
        · show Go p.tables e below _ T12 (mkF m 113 #[.val (.int p0), .val (.int p1), .val (.int p2), .val (.int p3), .val (.double d24), .second, .val (.double d25), .second, .val (.ref a9), .unset, .unset, .unset, .unset] [(.double r12)])
          refine g_dstore C X12 (pc' := 115) at_113 (x := r12) rfl (l' := #[.val (.int p0), .val (.int p1), .val (.int p2), .val (.int p3), .val (.double d24), .second, .val (.double d25), .second, .val (.ref a9), .val (.double r12), .second, .unset, .unset]) rfl rfl ?_
          refine g_dload C X12 (pc' := 117) at_115 rfl rfl ?_
          refine g_dconst0 C X12 (pc' := 118) at_117 rfl rfl ?_
          rw [kk_5]
          refine g_dcmpV C X12 (pc' := 119) at_118 (dcmp_cmpI D_d25 dint_zero _) rfl ?_
          refine g_if C X12 at_119 (pc' := 220) (pc'' := 122) (by decide) (by decide) rfl (fun c119 => ?_) (fun c119 => ?_)
          · have c119 : ¬ (0 < (cmpI p1.toInt 0).toInt) := c119
            have c119 : ¬ (0 < p1.toInt) := fun q => c119 ((cmpI_gt _ _).mpr q)
            refine g_dload C X12 (pc' := 222) at_220 rfl rfl ?_
            refine g_dconst0 C X12 (pc' := 223) at_222 rfl rfl ?_
            rw [kk_5]
            refine g_dcmpV C X12 (pc' := 224) at_223 (dcmp_cmpI D_d25 dint_zero _) rfl ?_
            refine g_if C X12 at_224 (pc' := 247) (pc'' := 227) (by decide) (by decide) rfl (fun c224 => ?_) (fun c224 => ?_)
            · have c224 : ¬ ((cmpI p1.toInt 0).toInt = 0) := c224
              have c224 : ¬ (p1.toInt = 0) := fun q => c224 ((cmpI_eq _ _).mpr q)
              refine g_dload C X12 (pc' := 249) at_247 rfl rfl ?_
              refine g_dload C X12 (pc' := 251) at_249 rfl rfl ?_
              refine g_dcmp C X12 (pc' := 252) at_251 rfl ?_
              refine g_if C X12 at_252 (pc' := 259) (pc'' := 255) (by decide) (by decide) rfl (fun c252 => ?_) (fun c252 => ?_)
              · have c252 : (cmpValue (FP.dcmp r12 r12) .l).toInt = 0 := c252
                refine g_iconst C X12 (pc' := 260) at_259 (v := (0 : Int32)) (by decide) rfl ?_
                exfalso; omega
              · have c252 : ¬ ((cmpValue (FP.dcmp r12 r12) .l).toInt = 0) := c252
                refine g_iconst C X12 (pc' := 256) at_255 (v := (1 : Int32)) (by decide) rfl ?_
                refine g_goto C X12 at_256 (pc' := 260) (by decide) (by decide) ?_
                exact g_zreturnW C X12 S10 e12 Y10 at_260 (w := 1) (by decide) ⟨rfl, N11⟩ (by decide) (by decide)
            · have c224 : (cmpI p1.toInt 0).toInt = 0 := Decidable.not_not.mp c224
              have c224 : p1.toInt = 0 := (cmpI_eq _ _).mp c224
              refine g_dload C X12 (pc' := 229) at_227 rfl rfl ?_
              refine g_dconst0 C X12 (pc' := 230) at_229 rfl rfl ?_
              rw [kk_5]
              refine g_dcmpV C X12 (pc' := 231) at_230 (dcmp_cmpI D_d24 dint_zero _) rfl ?_
              refine g_if C X12 at_231 (pc' := 247) (pc'' := 234) (by decide) (by decide) rfl (fun c231 => ?_) (fun c231 => ?_)
              · have c231 : ¬ ((cmpI (-p0.toInt) 0).toInt = 0) := c231
                have c231 : ¬ (-p0.toInt = 0) := fun q => c231 ((cmpI_eq _ _).mpr q)
                refine g_dload C X12 (pc' := 249) at_247 rfl rfl ?_
                refine g_dload C X12 (pc' := 251) at_249 rfl rfl ?_
                refine g_dcmp C X12 (pc' := 252) at_251 rfl ?_
                refine g_if C X12 at_252 (pc' := 259) (pc'' := 255) (by decide) (by decide) rfl (fun c252 => ?_) (fun c252 => ?_)
                · have c252 : (cmpValue (FP.dcmp r12 r12) .l).toInt = 0 := c252
                  refine g_iconst C X12 (pc' := 260) at_259 (v := (0 : Int32)) (by decide) rfl ?_
                  exfalso; omega
                · have c252 : ¬ ((cmpValue (FP.dcmp r12 r12) .l).toInt = 0) := c252
                  refine g_iconst C X12 (pc' := 256) at_255 (v := (1 : Int32)) (by decide) rfl ?_
                  refine g_goto C X12 at_256 (pc' := 260) (by decide) (by decide) ?_
                  exact g_zreturnW C X12 S10 e12 Y10 at_260 (w := 1) (by decide) ⟨rfl, N11⟩ (by decide) (by decide)
              · have c231 : (cmpI (-p0.toInt) 0).toInt = 0 := Decidable.not_not.mp c231
                have c231 : -p0.toInt = 0 := (cmpI_eq _ _).mp c231
                refine g_dload C X12 (pc' := 236) at_234 rfl rfl ?_
                refine g_dconst1 C X12 (pc' := 237) at_236 rfl rfl ?_
                rw [kk_6]
                refine g_dcmp C X12 (pc' := 238) at_237 rfl ?_
                refine g_if C X12 at_238 (pc' := 245) (pc'' := 241) (by decide) (by decide) rfl (fun c238 => ?_) (fun c238 => ?_)
                · have c238 : ¬ ((cmpValue (FP.dcmp r12 (4607182418800017408 : UInt64)) .l).toInt = 0) := c238
                  refine g_iconst C X12 (pc' := 246) at_245 (v := (0 : Int32)) (by decide) rfl ?_
                  exfalso; omega
                · have c238 : (cmpValue (FP.dcmp r12 (4607182418800017408 : UInt64)) .l).toInt = 0 := Decidable.not_not.mp c238
                  refine g_iconst C X12 (pc' := 242) at_241 (v := (1 : Int32)) (by decide) rfl ?_
                  refine g_goto C X12 at_242 (pc' := 246) (by decide) (by decide) ?_
                  exact g_zreturnW C X12 S10 e12 Y10 at_246 (w := 1) (by decide) ⟨rfl, N11⟩ (by decide) (by decide)
          · have c119 : 0 < (cmpI p1.toInt 0).toInt := Decidable.not_not.mp c119
            have c119 : 0 < p1.toInt := (cmpI_gt _ _).mp c119
            refine g_dload C X12 (pc' := 124) at_122 rfl rfl ?_
            refine g_dload C X12 (pc' := 126) at_124 rfl rfl ?_
            refine g_dcmpV C X12 (pc' := 127) at_126 (v := (0 : Int32)) (own_self Rr.1 _) rfl ?_
            refine g_ifY C X12 at_127 (pc' := 132) (by decide) (by decide) (by decide) ?_
            have Rq := Rr
            obtain ⟨-, R1, R2, R3, -, -, -⟩ := Rq
            refine g_dload C X12 (pc' := 134) at_132 rfl rfl ?_
            refine g_dconst0 C X12 (pc' := 135) at_134 rfl rfl ?_
            rw [kk_5]
            refine g_dcmpV C X12 (pc' := 136) at_135 (dcmp_cmpI D_d24 dint_zero _) rfl ?_
            refine g_if C X12 at_136 (pc' := 148) (pc'' := 139) (by decide) (by decide) rfl (fun c136 => ?_) (fun c136 => ?_)
            · have c136 : ¬ (0 < (cmpI (-p0.toInt) 0).toInt) := c136
              have c136 : ¬ (0 < -p0.toInt) := fun q => c136 ((cmpI_gt _ _).mpr q)
              refine g_dload C X12 (pc' := 150) at_148 rfl rfl ?_
              refine g_dconst0 C X12 (pc' := 151) at_150 rfl rfl ?_
              rw [kk_5]
              refine g_dcmpV C X12 (pc' := 152) at_151 (dcmp_cmpI D_d24 dint_zero _) rfl ?_
              refine g_if C X12 at_152 (pc' := 164) (pc'' := 155) (by decide) (by decide) rfl (fun c152 => ?_) (fun c152 => ?_)
              · have c152 : ¬ ((cmpI (-p0.toInt) 0).toInt < 0) := c152
                have c152 : ¬ (-p0.toInt < 0) := fun q => c152 ((cmpI_lt _ _).mpr q)
                refine g_dload C X12 (pc' := 166) at_164 rfl rfl ?_
                refine g_dconst0 C X12 (pc' := 167) at_166 rfl rfl ?_
                rw [kk_5]
                refine g_dcmpV C X12 (pc' := 168) at_167 (dcmp_cmpI D_d24 dint_zero _) rfl ?_
                refine g_if C X12 at_168 (pc' := 180) (pc'' := 171) (by decide) (by decide) rfl (fun c168 => ?_) (fun c168 => ?_)
                · have c168 : ¬ ((cmpI (-p0.toInt) 0).toInt = 0) := c168
                  have c168 : ¬ (-p0.toInt = 0) := fun q => c168 ((cmpI_eq _ _).mpr q)
                  refine g_dload C X12 (pc' := 182) at_180 rfl rfl ?_
                  refine g_dconst0 C X12 (pc' := 183) at_182 rfl rfl ?_
                  rw [kk_5]
                  refine g_dcmpV C X12 (pc' := 184) at_183 (dcmp_cmpI D_d24 dint_zero _) rfl ?_
                  refine g_ifY C X12 at_184 (pc' := 193) (by decide) (by decide) (fun q => c152 ((cmpI_lt _ _).mp q)) ?_
                  refine g_dload C X12 (pc' := 195) at_193 rfl rfl ?_
                  refine g_dstore C X12 (pc' := 197) at_195 (x := d24) rfl (l' := #[.val (.int p0), .val (.int p1), .val (.int p2), .val (.int p3), .val (.double d24), .second, .val (.double d25), .second, .val (.ref a9), .val (.double r12), .second, .val (.double d24), .second]) rfl rfl ?_
                  have Rq := Rr
                  obtain ⟨-, R1, R2, R3, R4, R5, R6⟩ := Rq
                  refine g_dload C X12 (pc' := 199) at_197 rfl rfl ?_
                  refine g_dload C X12 (pc' := 201) at_199 rfl rfl ?_
                  refine g_dcmpV C X12 (pc' := 202) at_201 (dcmp_dz Rr.1 (nn_of_int D_d24) _) rfl ?_
                  refine g_if C X12 at_202 (pc' := 218) (pc'' := 205) (by decide) (by decide) rfl (fun c202 => ?_) (fun c202 => ?_)
                  · have c202 : 0 < (cmpI (dz r12) (dz d24)).toInt := c202
                    have c202 : dz d24 < dz r12 := (cmpI_gt _ _).mp c202
                    refine g_iconst C X12 (pc' := 219) at_218 (v := (0 : Int32)) (by decide) rfl ?_
                    exfalso; omega
                  · have c202 : ¬ (0 < (cmpI (dz r12) (dz d24)).toInt) := c202
                    have c202 : ¬ (dz d24 < dz r12) := fun q => c202 ((cmpI_gt _ _).mpr q)
                    refine g_dload C X12 (pc' := 207) at_205 rfl rfl ?_
                    refine g_dneg C X12 (pc' := 208) at_207 rfl ?_
                    refine g_dload C X12 (pc' := 210) at_208 rfl rfl ?_
                    refine g_dcmpV C X12 (pc' := 211) at_210 (own_cn Rr.1 (nn_of_int D_d24) _) rfl ?_
                    refine g_if C X12 at_211 (pc' := 218) (pc'' := 214) (by decide) (by decide) rfl (fun c211 => ?_) (fun c211 => ?_)
                    · have c211 : 0 < (cmpI (-dz r12) (dz d24)).toInt := c211
                      have c211 : dz d24 < -dz r12 := (cmpI_gt _ _).mp c211
                      refine g_iconst C X12 (pc' := 219) at_218 (v := (0 : Int32)) (by decide) rfl ?_
                      exfalso; omega
                    · have c211 : ¬ (0 < (cmpI (-dz r12) (dz d24)).toInt) := c211
                      have c211 : ¬ (dz d24 < -dz r12) := fun q => c211 ((cmpI_gt _ _).mpr q)
                      refine g_iconst C X12 (pc' := 215) at_214 (v := (1 : Int32)) (by decide) rfl ?_
                      refine g_goto C X12 at_215 (pc' := 219) (by decide) (by decide) ?_
                      exact g_zreturnW C X12 S10 e12 Y10 at_219 (w := 1) (by decide) ⟨rfl, N11⟩ (by decide) (by decide)
                · have c168 : (cmpI (-p0.toInt) 0).toInt = 0 := Decidable.not_not.mp c168
                  have c168 : -p0.toInt = 0 := (cmpI_eq _ _).mp c168
                  refine g_dload C X12 (pc' := 173) at_171 rfl rfl ?_
                  refine g_dconst0 C X12 (pc' := 174) at_173 rfl rfl ?_
                  rw [kk_5]
                  refine g_dcmpV C X12 (pc' := 175) at_174 (own_c0 Rr.1 _) rfl ?_
                  refine g_if C X12 at_175 (pc' := 180) (pc'' := 178) (by decide) (by decide) rfl (fun c175 => ?_) (fun c175 => ?_)
                  · have c175 : (cmpI (dz r12) 0).toInt = 0 := c175
                    have c175 : dz r12 = 0 := (cmpI_eq _ _).mp c175
                    refine g_dload C X12 (pc' := 182) at_180 rfl rfl ?_
                    refine g_dconst0 C X12 (pc' := 183) at_182 rfl rfl ?_
                    rw [kk_5]
                    refine g_dcmpV C X12 (pc' := 184) at_183 (dcmp_cmpI D_d24 dint_zero _) rfl ?_
                    refine g_ifY C X12 at_184 (pc' := 193) (by decide) (by decide) (fun q => c152 ((cmpI_lt _ _).mp q)) ?_
                    refine g_dload C X12 (pc' := 195) at_193 rfl rfl ?_
                    refine g_dstore C X12 (pc' := 197) at_195 (x := d24) rfl (l' := #[.val (.int p0), .val (.int p1), .val (.int p2), .val (.int p3), .val (.double d24), .second, .val (.double d25), .second, .val (.ref a9), .val (.double r12), .second, .val (.double d24), .second]) rfl rfl ?_
                    have Rq := Rr
                    obtain ⟨-, R1, R2, R3, R4, R5, R6⟩ := Rq
                    refine g_dload C X12 (pc' := 199) at_197 rfl rfl ?_
                    refine g_dload C X12 (pc' := 201) at_199 rfl rfl ?_
                    refine g_dcmpV C X12 (pc' := 202) at_201 (dcmp_dz Rr.1 (nn_of_int D_d24) _) rfl ?_
                    refine g_if C X12 at_202 (pc' := 218) (pc'' := 205) (by decide) (by decide) rfl (fun c202 => ?_) (fun c202 => ?_)
                    · have c202 : 0 < (cmpI (dz r12) (dz d24)).toInt := c202
                      have c202 : dz d24 < dz r12 := (cmpI_gt _ _).mp c202
                      refine g_iconst C X12 (pc' := 219) at_218 (v := (0 : Int32)) (by decide) rfl ?_
                      exfalso; omega
                    · have c202 : ¬ (0 < (cmpI (dz r12) (dz d24)).toInt) := c202
                      have c202 : ¬ (dz d24 < dz r12) := fun q => c202 ((cmpI_gt _ _).mpr q)
                      refine g_dload C X12 (pc' := 207) at_205 rfl rfl ?_
                      refine g_dneg C X12 (pc' := 208) at_207 rfl ?_
                      refine g_dload C X12 (pc' := 210) at_208 rfl rfl ?_
                      refine g_dcmpV C X12 (pc' := 211) at_210 (own_cn Rr.1 (nn_of_int D_d24) _) rfl ?_
                      refine g_if C X12 at_211 (pc' := 218) (pc'' := 214) (by decide) (by decide) rfl (fun c211 => ?_) (fun c211 => ?_)
                      · have c211 : 0 < (cmpI (-dz r12) (dz d24)).toInt := c211
                        have c211 : dz d24 < -dz r12 := (cmpI_gt _ _).mp c211
                        refine g_iconst C X12 (pc' := 219) at_218 (v := (0 : Int32)) (by decide) rfl ?_
                        exfalso; omega
                      · have c211 : ¬ (0 < (cmpI (-dz r12) (dz d24)).toInt) := c211
                        have c211 : ¬ (dz d24 < -dz r12) := fun q => c211 ((cmpI_gt _ _).mpr q)
                        refine g_iconst C X12 (pc' := 215) at_214 (v := (1 : Int32)) (by decide) rfl ?_
                        refine g_goto C X12 at_215 (pc' := 219) (by decide) (by decide) ?_
                        exact g_zreturnW C X12 S10 e12 Y10 at_219 (w := 1) (by decide) ⟨rfl, N11⟩ (by decide) (by decide)
                  · have c175 : ¬ ((cmpI (dz r12) 0).toInt = 0) := c175
                    have c175 : ¬ (dz r12 = 0) := fun q => c175 ((cmpI_eq _ _).mpr q)
                    refine g_iconst C X12 (pc' := 179) at_178 (v := (0 : Int32)) (by decide) rfl ?_
                    exfalso; omega
              · have c152 : (cmpI (-p0.toInt) 0).toInt < 0 := Decidable.not_not.mp c152
                have c152 : -p0.toInt < 0 := (cmpI_lt _ _).mp c152
                refine g_dload C X12 (pc' := 157) at_155 rfl rfl ?_
                refine g_dconst0 C X12 (pc' := 158) at_157 rfl rfl ?_
                rw [kk_5]
                refine g_dcmpV C X12 (pc' := 159) at_158 (own_c0 Rr.1 _) rfl ?_
                refine g_if C X12 at_159 (pc' := 164) (pc'' := 162) (by decide) (by decide) rfl (fun c159 => ?_) (fun c159 => ?_)
                · have c159 : (cmpI (dz r12) 0).toInt < 0 := c159
                  have c159 : dz r12 < 0 := (cmpI_lt _ _).mp c159
                  refine g_dload C X12 (pc' := 166) at_164 rfl rfl ?_
                  refine g_dconst0 C X12 (pc' := 167) at_166 rfl rfl ?_
                  rw [kk_5]
                  refine g_dcmpV C X12 (pc' := 168) at_167 (dcmp_cmpI D_d24 dint_zero _) rfl ?_
                  refine g_if C X12 at_168 (pc' := 180) (pc'' := 171) (by decide) (by decide) rfl (fun c168 => ?_) (fun c168 => ?_)
                  · have c168 : ¬ ((cmpI (-p0.toInt) 0).toInt = 0) := c168
                    have c168 : ¬ (-p0.toInt = 0) := fun q => c168 ((cmpI_eq _ _).mpr q)
                    refine g_dload C X12 (pc' := 182) at_180 rfl rfl ?_
                    refine g_dconst0 C X12 (pc' := 183) at_182 rfl rfl ?_
                    rw [kk_5]
                    refine g_dcmpV C X12 (pc' := 184) at_183 (dcmp_cmpI D_d24 dint_zero _) rfl ?_
                    refine g_ifN C X12 at_184 (fun q => q ((cmpI_lt _ _).mpr c152)) rfl ?_
                    refine g_dload C X12 (pc' := 189) at_187 rfl rfl ?_
                    refine g_dneg C X12 (pc' := 190) at_189 rfl ?_
                    refine g_goto C X12 at_190 (pc' := 195) (by decide) (by decide) ?_
                    obtain ⟨d32, e_d32⟩ : ∃ z : UInt64, z = FP.dneg d24 := ⟨_, rfl⟩
                    have D_d32 : FP.Core.DInt (-(-p0.toInt)) d32 := e_d32 ▸ (dneg_int' D_d24)
                    refine g_dstore C X12 (pc' := 197) at_195 (x := d32) e_d32 (l' := #[.val (.int p0), .val (.int p1), .val (.int p2), .val (.int p3), .val (.double d24), .second, .val (.double d25), .second, .val (.ref a9), .val (.double r12), .second, .val (.double d32), .second]) rfl rfl ?_
                    have Rq := Rr
                    obtain ⟨-, R1, R2, R3, R4, R5, R6⟩ := Rq
                    have zac : dz d32 = -dz d24 := by rw [e_d32]; exact dz_dneg _
                    refine g_dload C X12 (pc' := 199) at_197 rfl rfl ?_
                    refine g_dload C X12 (pc' := 201) at_199 rfl rfl ?_
                    refine g_dcmpV C X12 (pc' := 202) at_201 (dcmp_dz Rr.1 (nn_of_int D_d32) _) rfl ?_
                    refine g_if C X12 at_202 (pc' := 218) (pc'' := 205) (by decide) (by decide) rfl (fun c202 => ?_) (fun c202 => ?_)
                    · have c202 : 0 < (cmpI (dz r12) (dz d32)).toInt := c202
                      have c202 : dz d32 < dz r12 := (cmpI_gt _ _).mp c202
                      refine g_iconst C X12 (pc' := 219) at_218 (v := (0 : Int32)) (by decide) rfl ?_
                      exfalso; omega
                    · have c202 : ¬ (0 < (cmpI (dz r12) (dz d32)).toInt) := c202
                      have c202 : ¬ (dz d32 < dz r12) := fun q => c202 ((cmpI_gt _ _).mpr q)
                      refine g_dload C X12 (pc' := 207) at_205 rfl rfl ?_
                      refine g_dneg C X12 (pc' := 208) at_207 rfl ?_
                      refine g_dload C X12 (pc' := 210) at_208 rfl rfl ?_
                      refine g_dcmpV C X12 (pc' := 211) at_210 (own_cn Rr.1 (nn_of_int D_d32) _) rfl ?_
                      refine g_if C X12 at_211 (pc' := 218) (pc'' := 214) (by decide) (by decide) rfl (fun c211 => ?_) (fun c211 => ?_)
                      · have c211 : 0 < (cmpI (-dz r12) (dz d32)).toInt := c211
                        have c211 : dz d32 < -dz r12 := (cmpI_gt _ _).mp c211
                        refine g_iconst C X12 (pc' := 219) at_218 (v := (0 : Int32)) (by decide) rfl ?_
                        exfalso; omega
                      · have c211 : ¬ (0 < (cmpI (-dz r12) (dz d32)).toInt) := c211
                        have c211 : ¬ (dz d32 < -dz r12) := fun q => c211 ((cmpI_gt _ _).mpr q)
                        refine g_iconst C X12 (pc' := 215) at_214 (v := (1 : Int32)) (by decide) rfl ?_
                        refine g_goto C X12 at_215 (pc' := 219) (by decide) (by decide) ?_
                        exact g_zreturnW C X12 S10 e12 Y10 at_219 (w := 1) (by decide) ⟨rfl, N11⟩ (by decide) (by decide)
                  · have c168 : (cmpI (-p0.toInt) 0).toInt = 0 := Decidable.not_not.mp c168
                    have c168 : -p0.toInt = 0 := (cmpI_eq _ _).mp c168
                    refine g_dload C X12 (pc' := 173) at_171 rfl rfl ?_
                    refine g_dconst0 C X12 (pc' := 174) at_173 rfl rfl ?_
                    rw [kk_5]
                    refine g_dcmpV C X12 (pc' := 175) at_174 (own_c0 Rr.1 _) rfl ?_
                    refine g_if C X12 at_175 (pc' := 180) (pc'' := 178) (by decide) (by decide) rfl (fun c175 => ?_) (fun c175 => ?_)
                    · have c175 : (cmpI (dz r12) 0).toInt = 0 := c175
                      have c175 : dz r12 = 0 := (cmpI_eq _ _).mp c175
                      refine g_dload C X12 (pc' := 182) at_180 rfl rfl ?_
                      refine g_dconst0 C X12 (pc' := 183) at_182 rfl rfl ?_
                      rw [kk_5]
                      refine g_dcmpV C X12 (pc' := 184) at_183 (dcmp_cmpI D_d24 dint_zero _) rfl ?_
                      refine g_ifN C X12 at_184 (fun q => q ((cmpI_lt _ _).mpr c152)) rfl ?_
                      refine g_dload C X12 (pc' := 189) at_187 rfl rfl ?_
                      refine g_dneg C X12 (pc' := 190) at_189 rfl ?_
                      refine g_goto C X12 at_190 (pc' := 195) (by decide) (by decide) ?_
                      obtain ⟨d33, e_d33⟩ : ∃ z : UInt64, z = FP.dneg d24 := ⟨_, rfl⟩
                      have D_d33 : FP.Core.DInt (-(-p0.toInt)) d33 := e_d33 ▸ (dneg_int' D_d24)
                      refine g_dstore C X12 (pc' := 197) at_195 (x := d33) e_d33 (l' := #[.val (.int p0), .val (.int p1), .val (.int p2), .val (.int p3), .val (.double d24), .second, .val (.double d25), .second, .val (.ref a9), .val (.double r12), .second, .val (.double d33), .second]) rfl rfl ?_
                      have Rq := Rr
                      obtain ⟨-, R1, R2, R3, R4, R5, R6⟩ := Rq
                      have zac : dz d33 = -dz d24 := by rw [e_d33]; exact dz_dneg _
                      refine g_dload C X12 (pc' := 199) at_197 rfl rfl ?_
                      refine g_dload C X12 (pc' := 201) at_199 rfl rfl ?_
                      refine g_dcmpV C X12 (pc' := 202) at_201 (dcmp_dz Rr.1 (nn_of_int D_d33) _) rfl ?_
                      refine g_if C X12 at_202 (pc' := 218) (pc'' := 205) (by decide) (by decide) rfl (fun c202 => ?_) (fun c202 => ?_)
                      · have c202 : 0 < (cmpI (dz r12) (dz d33)).toInt := c202
                        have c202 : dz d33 < dz r12 := (cmpI_gt _ _).mp c202
                        refine g_iconst C X12 (pc' := 219) at_218 (v := (0 : Int32)) (by decide) rfl ?_
                        exfalso; omega
                      · have c202 : ¬ (0 < (cmpI (dz r12) (dz d33)).toInt) := c202
                        have c202 : ¬ (dz d33 < dz r12) := fun q => c202 ((cmpI_gt _ _).mpr q)
                        refine g_dload C X12 (pc' := 207) at_205 rfl rfl ?_
                        refine g_dneg C X12 (pc' := 208) at_207 rfl ?_
                        refine g_dload C X12 (pc' := 210) at_208 rfl rfl ?_
                        refine g_dcmpV C X12 (pc' := 211) at_210 (own_cn Rr.1 (nn_of_int D_d33) _) rfl ?_
                        refine g_if C X12 at_211 (pc' := 218) (pc'' := 214) (by decide) (by decide) rfl (fun c211 => ?_) (fun c211 => ?_)
                        · have c211 : 0 < (cmpI (-dz r12) (dz d33)).toInt := c211
                          have c211 : dz d33 < -dz r12 := (cmpI_gt _ _).mp c211
                          refine g_iconst C X12 (pc' := 219) at_218 (v := (0 : Int32)) (by decide) rfl ?_
                          exfalso; omega
                        · have c211 : ¬ (0 < (cmpI (-dz r12) (dz d33)).toInt) := c211
                          have c211 : ¬ (dz d33 < -dz r12) := fun q => c211 ((cmpI_gt _ _).mpr q)
                          refine g_iconst C X12 (pc' := 215) at_214 (v := (1 : Int32)) (by decide) rfl ?_
                          refine g_goto C X12 at_215 (pc' := 219) (by decide) (by decide) ?_
                          exact g_zreturnW C X12 S10 e12 Y10 at_219 (w := 1) (by decide) ⟨rfl, N11⟩ (by decide) (by decide)
                    · have c175 : ¬ ((cmpI (dz r12) 0).toInt = 0) := c175
                      have c175 : ¬ (dz r12 = 0) := fun q => c175 ((cmpI_eq _ _).mpr q)
                      refine g_iconst C X12 (pc' := 179) at_178 (v := (0 : Int32)) (by decide) rfl ?_
                      exfalso; omega
                · have c159 : ¬ ((cmpI (dz r12) 0).toInt < 0) := c159
                  have c159 : ¬ (dz r12 < 0) := fun q => c159 ((cmpI_lt _ _).mpr q)
                  refine g_iconst C X12 (pc' := 163) at_162 (v := (0 : Int32)) (by decide) rfl ?_
                  exfalso; omega
            · have c136 : 0 < (cmpI (-p0.toInt) 0).toInt := Decidable.not_not.mp c136
              have c136 : 0 < -p0.toInt := (cmpI_gt _ _).mp c136
              refine g_dload C X12 (pc' := 141) at_139 rfl rfl ?_
              refine g_dconst0 C X12 (pc' := 142) at_141 rfl rfl ?_
              rw [kk_5]
              refine g_dcmpV C X12 (pc' := 143) at_142 (own_c0 Rr.1 _) rfl ?_
              refine g_if C X12 at_143 (pc' := 148) (pc'' := 146) (by decide) (by decide) rfl (fun c143 => ?_) (fun c143 => ?_)
              · have c143 : 0 < (cmpI (dz r12) 0).toInt := c143
                have c143 : 0 < dz r12 := (cmpI_gt _ _).mp c143
                refine g_dload C X12 (pc' := 150) at_148 rfl rfl ?_
                refine g_dconst0 C X12 (pc' := 151) at_150 rfl rfl ?_
                rw [kk_5]
                refine g_dcmpV C X12 (pc' := 152) at_151 (dcmp_cmpI D_d24 dint_zero _) rfl ?_
                refine g_if C X12 at_152 (pc' := 164) (pc'' := 155) (by decide) (by decide) rfl (fun c152 => ?_) (fun c152 => ?_)
                · have c152 : ¬ ((cmpI (-p0.toInt) 0).toInt < 0) := c152
                  have c152 : ¬ (-p0.toInt < 0) := fun q => c152 ((cmpI_lt _ _).mpr q)
                  refine g_dload C X12 (pc' := 166) at_164 rfl rfl ?_
                  refine g_dconst0 C X12 (pc' := 167) at_166 rfl rfl ?_
                  rw [kk_5]
                  refine g_dcmpV C X12 (pc' := 168) at_167 (dcmp_cmpI D_d24 dint_zero _) rfl ?_
                  refine g_if C X12 at_168 (pc' := 180) (pc'' := 171) (by decide) (by decide) rfl (fun c168 => ?_) (fun c168 => ?_)
                  · have c168 : ¬ ((cmpI (-p0.toInt) 0).toInt = 0) := c168
                    have c168 : ¬ (-p0.toInt = 0) := fun q => c168 ((cmpI_eq _ _).mpr q)
                    refine g_dload C X12 (pc' := 182) at_180 rfl rfl ?_
                    refine g_dconst0 C X12 (pc' := 183) at_182 rfl rfl ?_
                    rw [kk_5]
                    refine g_dcmpV C X12 (pc' := 184) at_183 (dcmp_cmpI D_d24 dint_zero _) rfl ?_
                    refine g_ifY C X12 at_184 (pc' := 193) (by decide) (by decide) (fun q => c152 ((cmpI_lt _ _).mp q)) ?_
                    refine g_dload C X12 (pc' := 195) at_193 rfl rfl ?_
                    refine g_dstore C X12 (pc' := 197) at_195 (x := d24) rfl (l' := #[.val (.int p0), .val (.int p1), .val (.int p2), .val (.int p3), .val (.double d24), .second, .val (.double d25), .second, .val (.ref a9), .val (.double r12), .second, .val (.double d24), .second]) rfl rfl ?_
                    have Rq := Rr
                    obtain ⟨-, R1, R2, R3, R4, R5, R6⟩ := Rq
                    refine g_dload C X12 (pc' := 199) at_197 rfl rfl ?_
                    refine g_dload C X12 (pc' := 201) at_199 rfl rfl ?_
                    refine g_dcmpV C X12 (pc' := 202) at_201 (dcmp_dz Rr.1 (nn_of_int D_d24) _) rfl ?_
                    refine g_if C X12 at_202 (pc' := 218) (pc'' := 205) (by decide) (by decide) rfl (fun c202 => ?_) (fun c202 => ?_)
                    · have c202 : 0 < (cmpI (dz r12) (dz d24)).toInt := c202
                      have c202 : dz d24 < dz r12 := (cmpI_gt _ _).mp c202
                      refine g_iconst C X12 (pc' := 219) at_218 (v := (0 : Int32)) (by decide) rfl ?_
                      exfalso; omega
                    · have c202 : ¬ (0 < (cmpI (dz r12) (dz d24)).toInt) := c202
                      have c202 : ¬ (dz d24 < dz r12) := fun q => c202 ((cmpI_gt _ _).mpr q)
                      refine g_dload C X12 (pc' := 207) at_205 rfl rfl ?_
                      refine g_dneg C X12 (pc' := 208) at_207 rfl ?_
                      refine g_dload C X12 (pc' := 210) at_208 rfl rfl ?_
                      refine g_dcmpV C X12 (pc' := 211) at_210 (own_cn Rr.1 (nn_of_int D_d24) _) rfl ?_
                      refine g_if C X12 at_211 (pc' := 218) (pc'' := 214) (by decide) (by decide) rfl (fun c211 => ?_) (fun c211 => ?_)
                      · have c211 : 0 < (cmpI (-dz r12) (dz d24)).toInt := c211
                        have c211 : dz d24 < -dz r12 := (cmpI_gt _ _).mp c211
                        refine g_iconst C X12 (pc' := 219) at_218 (v := (0 : Int32)) (by decide) rfl ?_
                        exfalso; omega
                      · have c211 : ¬ (0 < (cmpI (-dz r12) (dz d24)).toInt) := c211
                        have c211 : ¬ (dz d24 < -dz r12) := fun q => c211 ((cmpI_gt _ _).mpr q)
                        refine g_iconst C X12 (pc' := 215) at_214 (v := (1 : Int32)) (by decide) rfl ?_
                        refine g_goto C X12 at_215 (pc' := 219) (by decide) (by decide) ?_
                        exact g_zreturnW C X12 S10 e12 Y10 at_219 (w := 1) (by decide) ⟨rfl, N11⟩ (by decide) (by decide)
                  · have c168 : (cmpI (-p0.toInt) 0).toInt = 0 := Decidable.not_not.mp c168
                    have c168 : -p0.toInt = 0 := (cmpI_eq _ _).mp c168
                    refine g_dload C X12 (pc' := 173) at_171 rfl rfl ?_
                    refine g_dconst0 C X12 (pc' := 174) at_173 rfl rfl ?_
                    rw [kk_5]
                    refine g_dcmpV C X12 (pc' := 175) at_174 (own_c0 Rr.1 _) rfl ?_
                    refine g_if C X12 at_175 (pc' := 180) (pc'' := 178) (by decide) (by decide) rfl (fun c175 => ?_) (fun c175 => ?_)
                    · have c175 : (cmpI (dz r12) 0).toInt = 0 := c175
                      have c175 : dz r12 = 0 := (cmpI_eq _ _).mp c175
                      refine g_dload C X12 (pc' := 182) at_180 rfl rfl ?_
                      refine g_dconst0 C X12 (pc' := 183) at_182 rfl rfl ?_
                      rw [kk_5]
                      refine g_dcmpV C X12 (pc' := 184) at_183 (dcmp_cmpI D_d24 dint_zero _) rfl ?_
                      refine g_ifY C X12 at_184 (pc' := 193) (by decide) (by decide) (fun q => c152 ((cmpI_lt _ _).mp q)) ?_
                      refine g_dload C X12 (pc' := 195) at_193 rfl rfl ?_
                      refine g_dstore C X12 (pc' := 197) at_195 (x := d24) rfl (l' := #[.val (.int p0), .val (.int p1), .val (.int p2), .val (.int p3), .val (.double d24), .second, .val (.double d25), .second, .val (.ref a9), .val (.double r12), .second, .val (.double d24), .second]) rfl rfl ?_
                      have Rq := Rr
                      obtain ⟨-, R1, R2, R3, R4, R5, R6⟩ := Rq
                      refine g_dload C X12 (pc' := 199) at_197 rfl rfl ?_
                      refine g_dload C X12 (pc' := 201) at_199 rfl rfl ?_
                      refine g_dcmpV C X12 (pc' := 202) at_201 (dcmp_dz Rr.1 (nn_of_int D_d24) _) rfl ?_
                      refine g_if C X12 at_202 (pc' := 218) (pc'' := 205) (by decide) (by decide) rfl (fun c202 => ?_) (fun c202 => ?_)
                      · have c202 : 0 < (cmpI (dz r12) (dz d24)).toInt := c202
                        have c202 : dz d24 < dz r12 := (cmpI_gt _ _).mp c202
                        refine g_iconst C X12 (pc' := 219) at_218 (v := (0 : Int32)) (by decide) rfl ?_
                        exfalso; omega
                      · have c202 : ¬ (0 < (cmpI (dz r12) (dz d24)).toInt) := c202
                        have c202 : ¬ (dz d24 < dz r12) := fun q => c202 ((cmpI_gt _ _).mpr q)
                        refine g_dload C X12 (pc' := 207) at_205 rfl rfl ?_
                        refine g_dneg C X12 (pc' := 208) at_207 rfl ?_
                        refine g_dload C X12 (pc' := 210) at_208 rfl rfl ?_
                        refine g_dcmpV C X12 (pc' := 211) at_210 (own_cn Rr.1 (nn_of_int D_d24) _) rfl ?_
                        refine g_if C X12 at_211 (pc' := 218) (pc'' := 214) (by decide) (by decide) rfl (fun c211 => ?_) (fun c211 => ?_)
                        · have c211 : 0 < (cmpI (-dz r12) (dz d24)).toInt := c211
                          have c211 : dz d24 < -dz r12 := (cmpI_gt _ _).mp c211
                          refine g_iconst C X12 (pc' := 219) at_218 (v := (0 : Int32)) (by decide) rfl ?_
                          exfalso; omega
                        · have c211 : ¬ (0 < (cmpI (-dz r12) (dz d24)).toInt) := c211
                          have c211 : ¬ (dz d24 < -dz r12) := fun q => c211 ((cmpI_gt _ _).mpr q)
                          refine g_iconst C X12 (pc' := 215) at_214 (v := (1 : Int32)) (by decide) rfl ?_
                          refine g_goto C X12 at_215 (pc' := 219) (by decide) (by decide) ?_
                          exact g_zreturnW C X12 S10 e12 Y10 at_219 (w := 1) (by decide) ⟨rfl, N11⟩ (by decide) (by decide)
                    · have c175 : ¬ ((cmpI (dz r12) 0).toInt = 0) := c175
                      have c175 : ¬ (dz r12 = 0) := fun q => c175 ((cmpI_eq _ _).mpr q)
                      refine g_iconst C X12 (pc' := 179) at_178 (v := (0 : Int32)) (by decide) rfl ?_
                      exfalso; omega
                · have c152 : (cmpI (-p0.toInt) 0).toInt < 0 := Decidable.not_not.mp c152
                  have c152 : -p0.toInt < 0 := (cmpI_lt _ _).mp c152
                  refine g_dload C X12 (pc' := 157) at_155 rfl rfl ?_
                  refine g_dconst0 C X12 (pc' := 158) at_157 rfl rfl ?_
                  rw [kk_5]
                  refine g_dcmpV C X12 (pc' := 159) at_158 (own_c0 Rr.1 _) rfl ?_
                  refine g_if C X12 at_159 (pc' := 164) (pc'' := 162) (by decide) (by decide) rfl (fun c159 => ?_) (fun c159 => ?_)
                  · have c159 : (cmpI (dz r12) 0).toInt < 0 := c159
                    have c159 : dz r12 < 0 := (cmpI_lt _ _).mp c159
                    refine g_dload C X12 (pc' := 166) at_164 rfl rfl ?_
                    refine g_dconst0 C X12 (pc' := 167) at_166 rfl rfl ?_
                    rw [kk_5]
                    refine g_dcmpV C X12 (pc' := 168) at_167 (dcmp_cmpI D_d24 dint_zero _) rfl ?_
                    refine g_if C X12 at_168 (pc' := 180) (pc'' := 171) (by decide) (by decide) rfl (fun c168 => ?_) (fun c168 => ?_)
                    · have c168 : ¬ ((cmpI (-p0.toInt) 0).toInt = 0) := c168
                      have c168 : ¬ (-p0.toInt = 0) := fun q => c168 ((cmpI_eq _ _).mpr q)
                      refine g_dload C X12 (pc' := 182) at_180 rfl rfl ?_
                      refine g_dconst0 C X12 (pc' := 183) at_182 rfl rfl ?_
                      rw [kk_5]
                      refine g_dcmpV C X12 (pc' := 184) at_183 (dcmp_cmpI D_d24 dint_zero _) rfl ?_
                      refine g_ifN C X12 at_184 (fun q => q ((cmpI_lt _ _).mpr c152)) rfl ?_
                      refine g_dload C X12 (pc' := 189) at_187 rfl rfl ?_
                      refine g_dneg C X12 (pc' := 190) at_189 rfl ?_
                      refine g_goto C X12 at_190 (pc' := 195) (by decide) (by decide) ?_
                      obtain ⟨d34, e_d34⟩ : ∃ z : UInt64, z = FP.dneg d24 := ⟨_, rfl⟩
                      have D_d34 : FP.Core.DInt (-(-p0.toInt)) d34 := e_d34 ▸ (dneg_int' D_d24)
                      refine g_dstore C X12 (pc' := 197) at_195 (x := d34) e_d34 (l' := #[.val (.int p0), .val (.int p1), .val (.int p2), .val (.int p3), .val (.double d24), .second, .val (.double d25), .second, .val (.ref a9), .val (.double r12), .second, .val (.double d34), .second]) rfl rfl ?_
                      have Rq := Rr
                      obtain ⟨-, R1, R2, R3, R4, R5, R6⟩ := Rq
                      have zac : dz d34 = -dz d24 := by rw [e_d34]; exact dz_dneg _
                      refine g_dload C X12 (pc' := 199) at_197 rfl rfl ?_
                      refine g_dload C X12 (pc' := 201) at_199 rfl rfl ?_
                      refine g_dcmpV C X12 (pc' := 202) at_201 (dcmp_dz Rr.1 (nn_of_int D_d34) _) rfl ?_
                      refine g_if C X12 at_202 (pc' := 218) (pc'' := 205) (by decide) (by decide) rfl (fun c202 => ?_) (fun c202 => ?_)
                      · have c202 : 0 < (cmpI (dz r12) (dz d34)).toInt := c202
                        have c202 : dz d34 < dz r12 := (cmpI_gt _ _).mp c202
                        refine g_iconst C X12 (pc' := 219) at_218 (v := (0 : Int32)) (by decide) rfl ?_
                        exfalso; omega
                      · have c202 : ¬ (0 < (cmpI (dz r12) (dz d34)).toInt) := c202
                        have c202 : ¬ (dz d34 < dz r12) := fun q => c202 ((cmpI_gt _ _).mpr q)
                        refine g_dload C X12 (pc' := 207) at_205 rfl rfl ?_
                        refine g_dneg C X12 (pc' := 208) at_207 rfl ?_
                        refine g_dload C X12 (pc' := 210) at_208 rfl rfl ?_
                        refine g_dcmpV C X12 (pc' := 211) at_210 (own_cn Rr.1 (nn_of_int D_d34) _) rfl ?_
                        refine g_if C X12 at_211 (pc' := 218) (pc'' := 214) (by decide) (by decide) rfl (fun c211 => ?_) (fun c211 => ?_)
                        · have c211 : 0 < (cmpI (-dz r12) (dz d34)).toInt := c211
                          have c211 : dz d34 < -dz r12 := (cmpI_gt _ _).mp c211
                          refine g_iconst C X12 (pc' := 219) at_218 (v := (0 : Int32)) (by decide) rfl ?_
                          exfalso; omega
                        · have c211 : ¬ (0 < (cmpI (-dz r12) (dz d34)).toInt) := c211
                          have c211 : ¬ (dz d34 < -dz r12) := fun q => c211 ((cmpI_gt _ _).mpr q)
                          refine g_iconst C X12 (pc' := 215) at_214 (v := (1 : Int32)) (by decide) rfl ?_
                          refine g_goto C X12 at_215 (pc' := 219) (by decide) (by decide) ?_
                          exact g_zreturnW C X12 S10 e12 Y10 at_219 (w := 1) (by decide) ⟨rfl, N11⟩ (by decide) (by decide)
                    · have c168 : (cmpI (-p0.toInt) 0).toInt = 0 := Decidable.not_not.mp c168
                      have c168 : -p0.toInt = 0 := (cmpI_eq _ _).mp c168
                      refine g_dload C X12 (pc' := 173) at_171 rfl rfl ?_
                      refine g_dconst0 C X12 (pc' := 174) at_173 rfl rfl ?_
                      rw [kk_5]
                      refine g_dcmpV C X12 (pc' := 175) at_174 (own_c0 Rr.1 _) rfl ?_
                      refine g_if C X12 at_175 (pc' := 180) (pc'' := 178) (by decide) (by decide) rfl (fun c175 => ?_) (fun c175 => ?_)
                      · have c175 : (cmpI (dz r12) 0).toInt = 0 := c175
                        have c175 : dz r12 = 0 := (cmpI_eq _ _).mp c175
                        refine g_dload C X12 (pc' := 182) at_180 rfl rfl ?_
                        refine g_dconst0 C X12 (pc' := 183) at_182 rfl rfl ?_
                        rw [kk_5]
                        refine g_dcmpV C X12 (pc' := 184) at_183 (dcmp_cmpI D_d24 dint_zero _) rfl ?_
                        refine g_ifN C X12 at_184 (fun q => q ((cmpI_lt _ _).mpr c152)) rfl ?_
                        refine g_dload C X12 (pc' := 189) at_187 rfl rfl ?_
                        refine g_dneg C X12 (pc' := 190) at_189 rfl ?_
                        refine g_goto C X12 at_190 (pc' := 195) (by decide) (by decide) ?_
                        obtain ⟨d35, e_d35⟩ : ∃ z : UInt64, z = FP.dneg d24 := ⟨_, rfl⟩
                        have D_d35 : FP.Core.DInt (-(-p0.toInt)) d35 := e_d35 ▸ (dneg_int' D_d24)
                        refine g_dstore C X12 (pc' := 197) at_195 (x := d35) e_d35 (l' := #[.val (.int p0), .val (.int p1), .val (.int p2), .val (.int p3), .val (.double d24), .second, .val (.double d25), .second, .val (.ref a9), .val (.double r12), .second, .val (.double d35), .second]) rfl rfl ?_
                        have Rq := Rr
                        obtain ⟨-, R1, R2, R3, R4, R5, R6⟩ := Rq
                        have zac : dz d35 = -dz d24 := by rw [e_d35]; exact dz_dneg _
                        refine g_dload C X12 (pc' := 199) at_197 rfl rfl ?_
                        refine g_dload C X12 (pc' := 201) at_199 rfl rfl ?_
                        refine g_dcmpV C X12 (pc' := 202) at_201 (dcmp_dz Rr.1 (nn_of_int D_d35) _) rfl ?_
                        refine g_if C X12 at_202 (pc' := 218) (pc'' := 205) (by decide) (by decide) rfl (fun c202 => ?_) (fun c202 => ?_)
                        · have c202 : 0 < (cmpI (dz r12) (dz d35)).toInt := c202
                          have c202 : dz d35 < dz r12 := (cmpI_gt _ _).mp c202
                          refine g_iconst C X12 (pc' := 219) at_218 (v := (0 : Int32)) (by decide) rfl ?_
                          exfalso; omega
                        · have c202 : ¬ (0 < (cmpI (dz r12) (dz d35)).toInt) := c202
                          have c202 : ¬ (dz d35 < dz r12) := fun q => c202 ((cmpI_gt _ _).mpr q)
                          refine g_dload C X12 (pc' := 207) at_205 rfl rfl ?_
                          refine g_dneg C X12 (pc' := 208) at_207 rfl ?_
                          refine g_dload C X12 (pc' := 210) at_208 rfl rfl ?_
                          refine g_dcmpV C X12 (pc' := 211) at_210 (own_cn Rr.1 (nn_of_int D_d35) _) rfl ?_
                          refine g_if C X12 at_211 (pc' := 218) (pc'' := 214) (by decide) (by decide) rfl (fun c211 => ?_) (fun c211 => ?_)
                          · have c211 : 0 < (cmpI (-dz r12) (dz d35)).toInt := c211
                            have c211 : dz d35 < -dz r12 := (cmpI_gt _ _).mp c211
                            refine g_iconst C X12 (pc' := 219) at_218 (v := (0 : Int32)) (by decide) rfl ?_
                            exfalso; omega
                          · have c211 : ¬ (0 < (cmpI (-dz r12) (dz d35)).toInt) := c211
                            have c211 : ¬ (dz d35 < -dz r12) := fun q => c211 ((cmpI_gt _ _).mpr q)
                            refine g_iconst C X12 (pc' := 215) at_214 (v := (1 : Int32)) (by decide) rfl ?_
                            refine g_goto C X12 at_215 (pc' := 219) (by decide) (by decide) ?_
                            exact g_zreturnW C X12 S10 e12 Y10 at_219 (w := 1) (by decide) ⟨rfl, N11⟩ (by decide) (by decide)
                      · have c175 : ¬ ((cmpI (dz r12) 0).toInt = 0) := c175
                        have c175 : ¬ (dz r12 = 0) := fun q => c175 ((cmpI_eq _ _).mpr q)
                        refine g_iconst C X12 (pc' := 179) at_178 (v := (0 : Int32)) (by decide) rfl ?_
                        exfalso; omega
                  · have c159 : ¬ ((cmpI (dz r12) 0).toInt < 0) := c159
                    have c159 : ¬ (dz r12 < 0) := fun q => c159 ((cmpI_lt _ _).mpr q)
                    refine g_iconst C X12 (pc' := 163) at_162 (v := (0 : Int32)) (by decide) rfl ?_
                    exfalso; omega
              · have c143 : ¬ (0 < (cmpI (dz r12) 0).toInt) := c143
                have c143 : ¬ (0 < dz r12) := fun q => c143 ((cmpI_gt _ _).mpr q)
                refine g_iconst C X12 (pc' := 147) at_146 (v := (0 : Int32)) (by decide) rfl ?_
                exfalso; omega
        · rw [show FP.dconst1 = (4607182418800017408 : UInt64) from by decide +kernel]
          show Go p.tables e below _ T12 (mkF m 113 #[.val (.int p0), .val (.int p1), .val (.int p2), .val (.int p3), .val (.double d24), .second, .val (.double d25), .second, .val (.ref a9), .unset, .unset, .unset, .unset] [(.double (4607182418800017408 : UInt64))])
          refine g_dstore C X12 (pc' := 115) at_113 (x := (4607182418800017408 : UInt64)) rfl (l' := #[.val (.int p0), .val (.int p1), .val (.int p2), .val (.int p3), .val (.double d24), .second, .val (.double d25), .second, .val (.ref a9), .val (.double (4607182418800017408 : UInt64)), .second, .unset, .unset]) rfl rfl ?_
          refine g_dload C X12 (pc' := 117) at_115 rfl rfl ?_
          refine g_dconst0 C X12 (pc' := 118) at_117 rfl rfl ?_
          rw [kk_5]
          refine g_dcmpV C X12 (pc' := 119) at_118 (dcmp_cmpI D_d25 dint_zero _) rfl ?_
          refine g_if C X12 at_119 (pc' := 220) (pc'' := 122) (by decide) (by decide) rfl (fun c119 => ?_) (fun c119 => ?_)
          · have c119 : ¬ (0 < (cmpI p1.toInt 0).toInt) := c119
            have c119 : ¬ (0 < p1.toInt) := fun q => c119 ((cmpI_gt _ _).mpr q)
            refine g_dload C X12 (pc' := 222) at_220 rfl rfl ?_
            refine g_dconst0 C X12 (pc' := 223) at_222 rfl rfl ?_
            rw [kk_5]
            refine g_dcmpV C X12 (pc' := 224) at_223 (dcmp_cmpI D_d25 dint_zero _) rfl ?_
            refine g_if C X12 at_224 (pc' := 247) (pc'' := 227) (by decide) (by decide) rfl (fun c224 => ?_) (fun c224 => ?_)
            · have c224 : ¬ ((cmpI p1.toInt 0).toInt = 0) := c224
              have c224 : ¬ (p1.toInt = 0) := fun q => c224 ((cmpI_eq _ _).mpr q)
              refine g_dload C X12 (pc' := 249) at_247 rfl rfl ?_
              refine g_dload C X12 (pc' := 251) at_249 rfl rfl ?_
              refine g_dcmpV C X12 (pc' := 252) at_251 (v := (0 : Int32)) kk_7 rfl ?_
              refine g_ifY C X12 at_252 (pc' := 259) (by decide) (by decide) (by decide) ?_
              refine g_iconst C X12 (pc' := 260) at_259 (v := (0 : Int32)) (by decide) rfl ?_
              exfalso; omega
            · have c224 : (cmpI p1.toInt 0).toInt = 0 := Decidable.not_not.mp c224
              have c224 : p1.toInt = 0 := (cmpI_eq _ _).mp c224
              refine g_dload C X12 (pc' := 229) at_227 rfl rfl ?_
              refine g_dconst0 C X12 (pc' := 230) at_229 rfl rfl ?_
              rw [kk_5]
              refine g_dcmpV C X12 (pc' := 231) at_230 (dcmp_cmpI D_d24 dint_zero _) rfl ?_
              refine g_if C X12 at_231 (pc' := 247) (pc'' := 234) (by decide) (by decide) rfl (fun c231 => ?_) (fun c231 => ?_)
              · have c231 : ¬ ((cmpI (-p0.toInt) 0).toInt = 0) := c231
                have c231 : ¬ (-p0.toInt = 0) := fun q => c231 ((cmpI_eq _ _).mpr q)
                refine g_dload C X12 (pc' := 249) at_247 rfl rfl ?_
                refine g_dload C X12 (pc' := 251) at_249 rfl rfl ?_
                refine g_dcmpV C X12 (pc' := 252) at_251 (v := (0 : Int32)) kk_7 rfl ?_
                refine g_ifY C X12 at_252 (pc' := 259) (by decide) (by decide) (by decide) ?_
                refine g_iconst C X12 (pc' := 260) at_259 (v := (0 : Int32)) (by decide) rfl ?_
                exfalso; omega
              · have c231 : (cmpI (-p0.toInt) 0).toInt = 0 := Decidable.not_not.mp c231
                have c231 : -p0.toInt = 0 := (cmpI_eq _ _).mp c231
                refine g_dload C X12 (pc' := 236) at_234 rfl rfl ?_
                refine g_dconst1 C X12 (pc' := 237) at_236 rfl rfl ?_
                rw [kk_6]
                refine g_dcmpV C X12 (pc' := 238) at_237 (v := (0 : Int32)) kk_7 rfl ?_
                refine g_ifN C X12 at_238 (by decide) rfl ?_
                refine g_iconst C X12 (pc' := 242) at_241 (v := (1 : Int32)) (by decide) rfl ?_
                refine g_goto C X12 at_242 (pc' := 246) (by decide) (by decide) ?_
                exact g_zreturnW C X12 S10 e12 Y10 at_246 (w := 1) (by decide) ⟨rfl, N11⟩ (by decide) (by decide)
          · have c119 : 0 < (cmpI p1.toInt 0).toInt := Decidable.not_not.mp c119
            have c119 : 0 < p1.toInt := (cmpI_gt _ _).mp c119
            refine g_dload C X12 (pc' := 124) at_122 rfl rfl ?_
            refine g_dload C X12 (pc' := 126) at_124 rfl rfl ?_
            refine g_dcmpV C X12 (pc' := 127) at_126 (v := (0 : Int32)) kk_7 rfl ?_
            refine g_ifY C X12 at_127 (pc' := 132) (by decide) (by decide) (by decide) ?_
            refine g_dload C X12 (pc' := 134) at_132 rfl rfl ?_
            refine g_dconst0 C X12 (pc' := 135) at_134 rfl rfl ?_
            rw [kk_5]
            refine g_dcmpV C X12 (pc' := 136) at_135 (dcmp_cmpI D_d24 dint_zero _) rfl ?_
            refine g_if C X12 at_136 (pc' := 148) (pc'' := 139) (by decide) (by decide) rfl (fun c136 => ?_) (fun c136 => ?_)
            · have c136 : ¬ (0 < (cmpI (-p0.toInt) 0).toInt) := c136
              have c136 : ¬ (0 < -p0.toInt) := fun q => c136 ((cmpI_gt _ _).mpr q)
              refine g_dload C X12 (pc' := 150) at_148 rfl rfl ?_
              refine g_dconst0 C X12 (pc' := 151) at_150 rfl rfl ?_
              rw [kk_5]
              refine g_dcmpV C X12 (pc' := 152) at_151 (dcmp_cmpI D_d24 dint_zero _) rfl ?_
              refine g_if C X12 at_152 (pc' := 164) (pc'' := 155) (by decide) (by decide) rfl (fun c152 => ?_) (fun c152 => ?_)
              · have c152 : ¬ ((cmpI (-p0.toInt) 0).toInt < 0) := c152
                have c152 : ¬ (-p0.toInt < 0) := fun q => c152 ((cmpI_lt _ _).mpr q)
                refine g_dload C X12 (pc' := 166) at_164 rfl rfl ?_
                refine g_dconst0 C X12 (pc' := 167) at_166 rfl rfl ?_
                rw [kk_5]
                refine g_dcmpV C X12 (pc' := 168) at_167 (dcmp_cmpI D_d24 dint_zero _) rfl ?_
                refine g_if C X12 at_168 (pc' := 180) (pc'' := 171) (by decide) (by decide) rfl (fun c168 => ?_) (fun c168 => ?_)
                · have c168 : ¬ ((cmpI (-p0.toInt) 0).toInt = 0) := c168
                  have c168 : ¬ (-p0.toInt = 0) := fun q => c168 ((cmpI_eq _ _).mpr q)
                  refine g_dload C X12 (pc' := 182) at_180 rfl rfl ?_
                  refine g_dconst0 C X12 (pc' := 183) at_182 rfl rfl ?_
                  rw [kk_5]
                  refine g_dcmpV C X12 (pc' := 184) at_183 (dcmp_cmpI D_d24 dint_zero _) rfl ?_
                  refine g_ifY C X12 at_184 (pc' := 193) (by decide) (by decide) (fun q => c152 ((cmpI_lt _ _).mp q)) ?_
                  refine g_dload C X12 (pc' := 195) at_193 rfl rfl ?_
                  refine g_dstore C X12 (pc' := 197) at_195 (x := d24) rfl (l' := #[.val (.int p0), .val (.int p1), .val (.int p2), .val (.int p3), .val (.double d24), .second, .val (.double d25), .second, .val (.ref a9), .val (.double (4607182418800017408 : UInt64)), .second, .val (.double d24), .second]) rfl rfl ?_
                  refine g_dload C X12 (pc' := 199) at_197 rfl rfl ?_
                  refine g_dload C X12 (pc' := 201) at_199 rfl rfl ?_
                  refine g_dcmpV C X12 (pc' := 202) at_201 (dcmp_cmpI dint_one' D_d24 _) rfl ?_
                  refine g_if C X12 at_202 (pc' := 218) (pc'' := 205) (by decide) (by decide) rfl (fun c202 => ?_) (fun c202 => ?_)
                  · have c202 : 0 < (cmpI 1 (-p0.toInt)).toInt := c202
                    have c202 : -p0.toInt < 1 := (cmpI_gt _ _).mp c202
                    refine g_iconst C X12 (pc' := 219) at_218 (v := (0 : Int32)) (by decide) rfl ?_
                    exfalso; omega
                  · have c202 : ¬ (0 < (cmpI 1 (-p0.toInt)).toInt) := c202
                    have c202 : ¬ (-p0.toInt < 1) := fun q => c202 ((cmpI_gt _ _).mpr q)
                    refine g_dload C X12 (pc' := 207) at_205 rfl rfl ?_
                    refine g_dneg C X12 (pc' := 208) at_207 rfl ?_
                    refine g_dload C X12 (pc' := 210) at_208 rfl rfl ?_
                    refine g_dcmpV C X12 (pc' := 211) at_210 (dcmp_cmpI (dneg_int' dint_one') D_d24 _) rfl ?_
                    refine g_if C X12 at_211 (pc' := 218) (pc'' := 214) (by decide) (by decide) rfl (fun c211 => ?_) (fun c211 => ?_)
                    · have c211 : 0 < (cmpI (-1) (-p0.toInt)).toInt := c211
                      have c211 : -p0.toInt < -1 := (cmpI_gt _ _).mp c211
                      refine g_iconst C X12 (pc' := 219) at_218 (v := (0 : Int32)) (by decide) rfl ?_
                      exfalso; omega
                    · have c211 : ¬ (0 < (cmpI (-1) (-p0.toInt)).toInt) := c211
                      have c211 : ¬ (-p0.toInt < -1) := fun q => c211 ((cmpI_gt _ _).mpr q)
                      refine g_iconst C X12 (pc' := 215) at_214 (v := (1 : Int32)) (by decide) rfl ?_
                      refine g_goto C X12 at_215 (pc' := 219) (by decide) (by decide) ?_
                      exact g_zreturnW C X12 S10 e12 Y10 at_219 (w := 1) (by decide) ⟨rfl, N11⟩ (by decide) (by decide)
                · have c168 : (cmpI (-p0.toInt) 0).toInt = 0 := Decidable.not_not.mp c168
                  have c168 : -p0.toInt = 0 := (cmpI_eq _ _).mp c168
                  refine g_dload C X12 (pc' := 173) at_171 rfl rfl ?_
                  refine g_dconst0 C X12 (pc' := 174) at_173 rfl rfl ?_
                  rw [kk_5]
                  refine g_dcmpV C X12 (pc' := 175) at_174 (v := (1 : Int32)) kk_8 rfl ?_
                  refine g_ifN C X12 at_175 (by decide) rfl ?_
                  refine g_iconst C X12 (pc' := 179) at_178 (v := (0 : Int32)) (by decide) rfl ?_
                  exfalso; omega
              · have c152 : (cmpI (-p0.toInt) 0).toInt < 0 := Decidable.not_not.mp c152
                have c152 : -p0.toInt < 0 := (cmpI_lt _ _).mp c152
                refine g_dload C X12 (pc' := 157) at_155 rfl rfl ?_
                refine g_dconst0 C X12 (pc' := 158) at_157 rfl rfl ?_
                rw [kk_5]
                refine g_dcmpV C X12 (pc' := 159) at_158 (v := (1 : Int32)) kk_9 rfl ?_
                refine g_ifN C X12 at_159 (by decide) rfl ?_
                refine g_iconst C X12 (pc' := 163) at_162 (v := (0 : Int32)) (by decide) rfl ?_
                exfalso; omega
            · have c136 : 0 < (cmpI (-p0.toInt) 0).toInt := Decidable.not_not.mp c136
              have c136 : 0 < -p0.toInt := (cmpI_gt _ _).mp c136
              refine g_dload C X12 (pc' := 141) at_139 rfl rfl ?_
              refine g_dconst0 C X12 (pc' := 142) at_141 rfl rfl ?_
              rw [kk_5]
              refine g_dcmpV C X12 (pc' := 143) at_142 (v := (1 : Int32)) kk_8 rfl ?_
              refine g_ifY C X12 at_143 (pc' := 148) (by decide) (by decide) (by decide) ?_
              refine g_dload C X12 (pc' := 150) at_148 rfl rfl ?_
              refine g_dconst0 C X12 (pc' := 151) at_150 rfl rfl ?_
              rw [kk_5]
              refine g_dcmpV C X12 (pc' := 152) at_151 (dcmp_cmpI D_d24 dint_zero _) rfl ?_
              refine g_if C X12 at_152 (pc' := 164) (pc'' := 155) (by decide) (by decide) rfl (fun c152 => ?_) (fun c152 => ?_)
              · have c152 : ¬ ((cmpI (-p0.toInt) 0).toInt < 0) := c152
                have c152 : ¬ (-p0.toInt < 0) := fun q => c152 ((cmpI_lt _ _).mpr q)
                refine g_dload C X12 (pc' := 166) at_164 rfl rfl ?_
                refine g_dconst0 C X12 (pc' := 167) at_166 rfl rfl ?_
                rw [kk_5]
                refine g_dcmpV C X12 (pc' := 168) at_167 (dcmp_cmpI D_d24 dint_zero _) rfl ?_
                refine g_if C X12 at_168 (pc' := 180) (pc'' := 171) (by decide) (by decide) rfl (fun c168 => ?_) (fun c168 => ?_)
                · have c168 : ¬ ((cmpI (-p0.toInt) 0).toInt = 0) := c168
                  have c168 : ¬ (-p0.toInt = 0) := fun q => c168 ((cmpI_eq _ _).mpr q)
                  refine g_dload C X12 (pc' := 182) at_180 rfl rfl ?_
                  refine g_dconst0 C X12 (pc' := 183) at_182 rfl rfl ?_
                  rw [kk_5]
                  refine g_dcmpV C X12 (pc' := 184) at_183 (dcmp_cmpI D_d24 dint_zero _) rfl ?_
                  refine g_ifY C X12 at_184 (pc' := 193) (by decide) (by decide) (fun q => c152 ((cmpI_lt _ _).mp q)) ?_
                  refine g_dload C X12 (pc' := 195) at_193 rfl rfl ?_
                  refine g_dstore C X12 (pc' := 197) at_195 (x := d24) rfl (l' := #[.val (.int p0), .val (.int p1), .val (.int p2), .val (.int p3), .val (.double d24), .second, .val (.double d25), .second, .val (.ref a9), .val (.double (4607182418800017408 : UInt64)), .second, .val (.double d24), .second]) rfl rfl ?_
                  refine g_dload C X12 (pc' := 199) at_197 rfl rfl ?_
                  refine g_dload C X12 (pc' := 201) at_199 rfl rfl ?_
                  refine g_dcmpV C X12 (pc' := 202) at_201 (dcmp_cmpI dint_one' D_d24 _) rfl ?_
                  refine g_if C X12 at_202 (pc' := 218) (pc'' := 205) (by decide) (by decide) rfl (fun c202 => ?_) (fun c202 => ?_)
                  · have c202 : 0 < (cmpI 1 (-p0.toInt)).toInt := c202
                    have c202 : -p0.toInt < 1 := (cmpI_gt _ _).mp c202
                    refine g_iconst C X12 (pc' := 219) at_218 (v := (0 : Int32)) (by decide) rfl ?_
                    exfalso; omega
                  · have c202 : ¬ (0 < (cmpI 1 (-p0.toInt)).toInt) := c202
                    have c202 : ¬ (-p0.toInt < 1) := fun q => c202 ((cmpI_gt _ _).mpr q)
                    refine g_dload C X12 (pc' := 207) at_205 rfl rfl ?_
                    refine g_dneg C X12 (pc' := 208) at_207 rfl ?_
                    refine g_dload C X12 (pc' := 210) at_208 rfl rfl ?_
                    refine g_dcmpV C X12 (pc' := 211) at_210 (dcmp_cmpI (dneg_int' dint_one') D_d24 _) rfl ?_
                    refine g_if C X12 at_211 (pc' := 218) (pc'' := 214) (by decide) (by decide) rfl (fun c211 => ?_) (fun c211 => ?_)
                    · have c211 : 0 < (cmpI (-1) (-p0.toInt)).toInt := c211
                      have c211 : -p0.toInt < -1 := (cmpI_gt _ _).mp c211
                      refine g_iconst C X12 (pc' := 219) at_218 (v := (0 : Int32)) (by decide) rfl ?_
                      exfalso; omega
                    · have c211 : ¬ (0 < (cmpI (-1) (-p0.toInt)).toInt) := c211
                      have c211 : ¬ (-p0.toInt < -1) := fun q => c211 ((cmpI_gt _ _).mpr q)
                      refine g_iconst C X12 (pc' := 215) at_214 (v := (1 : Int32)) (by decide) rfl ?_
                      refine g_goto C X12 at_215 (pc' := 219) (by decide) (by decide) ?_
                      exact g_zreturnW C X12 S10 e12 Y10 at_219 (w := 1) (by decide) ⟨rfl, N11⟩ (by decide) (by decide)
                · have c168 : (cmpI (-p0.toInt) 0).toInt = 0 := Decidable.not_not.mp c168
                  have c168 : -p0.toInt = 0 := (cmpI_eq _ _).mp c168
                  refine g_dload C X12 (pc' := 173) at_171 rfl rfl ?_
                  refine g_dconst0 C X12 (pc' := 174) at_173 rfl rfl ?_
                  rw [kk_5]
                  refine g_dcmpV C X12 (pc' := 175) at_174 (v := (1 : Int32)) kk_8 rfl ?_
                  refine g_ifN C X12 at_175 (by decide) rfl ?_
                  refine g_iconst C X12 (pc' := 179) at_178 (v := (0 : Int32)) (by decide) rfl ?_
                  exfalso; omega
              · have c152 : (cmpI (-p0.toInt) 0).toInt < 0 := Decidable.not_not.mp c152
                have c152 : -p0.toInt < 0 := (cmpI_lt _ _).mp c152
                refine g_dload C X12 (pc' := 157) at_155 rfl rfl ?_
                refine g_dconst0 C X12 (pc' := 158) at_157 rfl rfl ?_
                rw [kk_5]
                refine g_dcmpV C X12 (pc' := 159) at_158 (v := (1 : Int32)) kk_9 rfl ?_
                refine g_ifN C X12 at_159 (by decide) rfl ?_
                refine g_iconst C X12 (pc' := 163) at_162 (v := (0 : Int32)) (by decide) rfl ?_
                exfalso; omega
        · show Go p.tables e below _ T12 (mkF m 113 #[.val (.int p0), .val (.int p1), .val (.int p2), .val (.int p3), .val (.double d24), .second, .val (.double d25), .second, .val (.ref a9), .unset, .unset, .unset, .unset] [(.double (9221120237041090560 : UInt64))])
          refine g_dstore C X12 (pc' := 115) at_113 (x := (9221120237041090560 : UInt64)) rfl (l' := #[.val (.int p0), .val (.int p1), .val (.int p2), .val (.int p3), .val (.double d24), .second, .val (.double d25), .second, .val (.ref a9), .val (.double (9221120237041090560 : UInt64)), .second, .unset, .unset]) rfl rfl ?_
          refine g_dload C X12 (pc' := 117) at_115 rfl rfl ?_
          refine g_dconst0 C X12 (pc' := 118) at_117 rfl rfl ?_
          rw [kk_5]
          refine g_dcmpV C X12 (pc' := 119) at_118 (dcmp_cmpI D_d25 dint_zero _) rfl ?_
          refine g_if C X12 at_119 (pc' := 220) (pc'' := 122) (by decide) (by decide) rfl (fun c119 => ?_) (fun c119 => ?_)
          · have c119 : ¬ (0 < (cmpI p1.toInt 0).toInt) := c119
            have c119 : ¬ (0 < p1.toInt) := fun q => c119 ((cmpI_gt _ _).mpr q)
            refine g_dload C X12 (pc' := 222) at_220 rfl rfl ?_
            refine g_dconst0 C X12 (pc' := 223) at_222 rfl rfl ?_
            rw [kk_5]
            refine g_dcmpV C X12 (pc' := 224) at_223 (dcmp_cmpI D_d25 dint_zero _) rfl ?_
            refine g_if C X12 at_224 (pc' := 247) (pc'' := 227) (by decide) (by decide) rfl (fun c224 => ?_) (fun c224 => ?_)
            · have c224 : ¬ ((cmpI p1.toInt 0).toInt = 0) := c224
              have c224 : ¬ (p1.toInt = 0) := fun q => c224 ((cmpI_eq _ _).mpr q)
              refine g_dload C X12 (pc' := 249) at_247 rfl rfl ?_
              refine g_dload C X12 (pc' := 251) at_249 rfl rfl ?_
              refine g_dcmpV C X12 (pc' := 252) at_251 (v := (-1 : Int32)) kk_10 rfl ?_
              refine g_ifN C X12 at_252 (by decide) rfl ?_
              refine g_iconst C X12 (pc' := 256) at_255 (v := (1 : Int32)) (by decide) rfl ?_
              refine g_goto C X12 at_256 (pc' := 260) (by decide) (by decide) ?_
              exact g_zreturnW C X12 S10 e12 Y10 at_260 (w := 1) (by decide) ⟨rfl, N11⟩ (by decide) (by decide)
            · have c224 : (cmpI p1.toInt 0).toInt = 0 := Decidable.not_not.mp c224
              have c224 : p1.toInt = 0 := (cmpI_eq _ _).mp c224
              refine g_dload C X12 (pc' := 229) at_227 rfl rfl ?_
              refine g_dconst0 C X12 (pc' := 230) at_229 rfl rfl ?_
              rw [kk_5]
              refine g_dcmpV C X12 (pc' := 231) at_230 (dcmp_cmpI D_d24 dint_zero _) rfl ?_
              refine g_if C X12 at_231 (pc' := 247) (pc'' := 234) (by decide) (by decide) rfl (fun c231 => ?_) (fun c231 => ?_)
              · have c231 : ¬ ((cmpI (-p0.toInt) 0).toInt = 0) := c231
                have c231 : ¬ (-p0.toInt = 0) := fun q => c231 ((cmpI_eq _ _).mpr q)
                refine g_dload C X12 (pc' := 249) at_247 rfl rfl ?_
                refine g_dload C X12 (pc' := 251) at_249 rfl rfl ?_
                refine g_dcmpV C X12 (pc' := 252) at_251 (v := (-1 : Int32)) kk_10 rfl ?_
                refine g_ifN C X12 at_252 (by decide) rfl ?_
                refine g_iconst C X12 (pc' := 256) at_255 (v := (1 : Int32)) (by decide) rfl ?_
                refine g_goto C X12 at_256 (pc' := 260) (by decide) (by decide) ?_
                exact g_zreturnW C X12 S10 e12 Y10 at_260 (w := 1) (by decide) ⟨rfl, N11⟩ (by decide) (by decide)
              · have c231 : (cmpI (-p0.toInt) 0).toInt = 0 := Decidable.not_not.mp c231
                have c231 : -p0.toInt = 0 := (cmpI_eq _ _).mp c231
                refine g_dload C X12 (pc' := 236) at_234 rfl rfl ?_
                refine g_dconst1 C X12 (pc' := 237) at_236 rfl rfl ?_
                rw [kk_6]
                refine g_dcmpV C X12 (pc' := 238) at_237 (v := (-1 : Int32)) kk_11 rfl ?_
                refine g_ifY C X12 at_238 (pc' := 245) (by decide) (by decide) (by decide) ?_
                refine g_iconst C X12 (pc' := 246) at_245 (v := (0 : Int32)) (by decide) rfl ?_
                exfalso; omega
          · have c119 : 0 < (cmpI p1.toInt 0).toInt := Decidable.not_not.mp c119
            have c119 : 0 < p1.toInt := (cmpI_gt _ _).mp c119
            refine g_dload C X12 (pc' := 124) at_122 rfl rfl ?_
            refine g_dload C X12 (pc' := 126) at_124 rfl rfl ?_
            refine g_dcmpV C X12 (pc' := 127) at_126 (v := (-1 : Int32)) kk_10 rfl ?_
            refine g_ifN C X12 at_127 (by decide) rfl ?_
            refine g_iconst C X12 (pc' := 131) at_130 (v := (0 : Int32)) (by decide) rfl ?_
            exfalso; omega
      · have c84 : ¬ ((p3 &&& (8 : Int32)).toInt = 0) := c84
        refine g_dload C X0 (pc' := 89) at_87 rfl rfl ?_
        refine g_dneg C X0 (pc' := 90) at_89 rfl ?_
        obtain ⟨d36, e_d36⟩ : ∃ z : UInt64, z = FP.dneg d25 := ⟨_, rfl⟩
        have D_d36 : FP.Core.DInt (-p1.toInt) d36 := e_d36 ▸ (dneg_int' D_d25)
        refine g_dstore C X0 (pc' := 92) at_90 (x := d36) e_d36 (l' := #[.val (.int p0), .val (.int p1), .val (.int p2), .val (.int p3), .val (.double d24), .second, .val (.double d36), .second, .unset, .unset, .unset, .unset, .unset]) rfl rfl ?_
        have r0 := own_b32 p0
        have r1 := own_b32 p1
        have bi : -2147483648 ≤ -p0.toInt ∧ -p0.toInt ≤ 2147483648 := by omega
        have bj : -2147483648 ≤ -p1.toInt ∧ -p1.toInt ≤ 2147483648 := by omega
        refine g_new C X0 (hw _ (List.mem_of_getElem? (i := 0) rfl)) (hw _ (List.mem_of_getElem? (i := 1) rfl)) (hw _ (List.mem_of_getElem? (i := 2) rfl)) e0 at_92 (by decide) (by decide) rfl ?_
        intro T13 h13 a13 g13 X13 e13 E13 A13 D13
        have z_a13 : n0 ≤ a13 := by rw [g13]; exact Z0
        have Z13 : n0 ≤ h13.size := Nat.le_trans Z0 E13.1
        have F13_1 : Fld Z h13 a13 "com/example/sitewise/sitewise/Solution" "plan" "Lcom/example/sitewise/sitewise/Plan;" .null := D13 (Or.inr (hw _ (List.mem_of_getElem? (i := 21) rfl))) (ty := (.object "com/example/sitewise/sitewise/Plan")) (by decide)
        have F13_2 : Fld Z h13 a13 "com/example/sitewise/sitewise/Solution" "cost" "D" (.double (0 : UInt64)) := D13 (Or.inr (hw _ (List.mem_of_getElem? (i := 23) rfl))) (ty := .double) (by decide)
        have F13_3 : Fld Z h13 a13 "com/example/sitewise/sitewise/Solution" "lowerBound" "D" (.double (0 : UInt64)) := D13 (Or.inr (hw _ (List.mem_of_getElem? (i := 25) rfl))) (ty := .double) (by decide)
        have F13_4 : Fld Z h13 a13 "com/example/sitewise/sitewise/Solution" "guarantee" "Ljava/lang/String;" .null := D13 (Or.inr (hw _ (List.mem_of_getElem? (i := 27) rfl))) (ty := (.object "java/lang/String")) (by decide)
        have F13_5 : Fld Z h13 a13 "com/example/sitewise/sitewise/Solution" "alpha" "[D" .null := D13 (Or.inr (hw _ (List.mem_of_getElem? (i := 29) rfl))) (ty := (.array .double)) (by decide)
        refine g_dup C X13 (pc' := 96) at_95 rfl rfl ?_
        refine g_aconstNull C X13 (pc' := 97) at_96 rfl ?_
        refine g_dload C X13 (pc' := 99) at_97 rfl rfl ?_
        refine g_dload C X13 (pc' := 101) at_99 rfl rfl ?_
        refine g_ldcS1 C X13 (hw _ (List.mem_of_getElem? (i := 3) rfl)) wS e13 at_101 4 (by decide) (by decide) (by decide) (by decide) rfl ?_
        intro a14 T14 h14 k14 C X14 e14 E14 S14 Y14
        have A13 := A13.ext E14
        have F13_1 := F13_1.ext E14
        have F13_2 := F13_2.ext E14
        have F13_3 := F13_3.ext E14
        have F13_4 := F13_4.ext E14
        have F13_5 := F13_5.ext E14
        have Z14 : n0 ≤ h14.size := Nat.le_trans Z13 E14.1
        refine g_callI C X14 (k8_init l Z a0 hw h14 n0 Z14 a13 d24 (-p0.toInt) d36 (-p1.toInt) a14 z_a13  D_d24 D_d36 A13 F13_1 F13_2 F13_3 F13_4 F13_5) rfl (hw _ (List.mem_of_getElem? (i := 11) rfl)) (hw _ (List.mem_of_getElem? (i := 12) rfl)) (hw _ (List.mem_of_getElem? (i := 2) rfl)) (hw _ (List.mem_of_getElem? (i := 13) rfl)) (by decide) e14 at_103 rfl kk_4 a13 [.null, (.double d24), (.double d36), (.ref a14)] [(.ref a13)] rfl rfl rfl 1 rfl (by decide) (by decide) (by decide) (by decide) rfl ?_
        rintro _ T15 L15 X15 ⟨rfl, M15, K15, FF37, FF38, FF39, FF40, FF41, FF42⟩
        have Y14 := Y14.keep K15
        have Z15 : n0 ≤ T15.heap.size := Nat.le_trans Z14 K15.1
        have N15 := Fr.app (Fr.nil n0) M15
        obtain ⟨h15, e15⟩ : ∃ z, T15.heap = z := ⟨_, rfl⟩
        rw [e15] at Y14 FF37 FF38 FF39 FF40 FF41 FF42 Z15
        show Go p.tables e below _ T15 (mkF m 106 #[.val (.int p0), .val (.int p1), .val (.int p2), .val (.int p3), .val (.double d24), .second, .val (.double d36), .second, .unset, .unset, .unset, .unset, .unset] [(.ref a13)])
        refine g_astore C X15 (pc' := 108) at_106 rfl (l' := #[.val (.int p0), .val (.int p1), .val (.int p2), .val (.int p3), .val (.double d24), .second, .val (.double d36), .second, .val (.ref a13), .unset, .unset, .unset, .unset]) rfl rfl ?_
        refine g_aload C X15 (pc' := 110) at_108 rfl rfl rfl ?_
        refine g_callV C X15 (c_ratG l Z a0 hw h15 a13 d24 d36 _ _ D_d24 D_d36 FF39 FF40 bi bj) (hw _ (List.mem_of_getElem? (i := 30) rfl)) (hw _ (List.mem_of_getElem? (i := 31) rfl)) (hw _ (List.mem_of_getElem? (i := 33) rfl)) (hw _ (List.mem_of_getElem? (i := 32) rfl)) (hw _ (List.mem_of_getElem? (i := 2) rfl)) (hw _ (List.mem_of_getElem? (i := 34) rfl)) (by decide) e15 FF37 at_110 rfl pdR [] [] rfl rfl rfl 0 rfl (by decide) (by decide) (by decide) (by decide) rfl ?_
        rintro w16 T16 L16 X16 ⟨r16, w_, Q16, l_, e16⟩
        subst w_ l_
        rw [List.append_nil] at X16
        rcases Q16 with ⟨pj, Rr⟩ | ⟨pj, pi, rfl⟩ | ⟨pj, pi, rfl⟩
        · show Go p.tables e below _ T16 (mkF m 113 #[.val (.int p0), .val (.int p1), .val (.int p2), .val (.int p3), .val (.double d24), .second, .val (.double d36), .second, .val (.ref a13), .unset, .unset, .unset, .unset] [(.double r16)])
          refine g_dstore C X16 (pc' := 115) at_113 (x := r16) rfl (l' := #[.val (.int p0), .val (.int p1), .val (.int p2), .val (.int p3), .val (.double d24), .second, .val (.double d36), .second, .val (.ref a13), .val (.double r16), .second, .unset, .unset]) rfl rfl ?_
          refine g_dload C X16 (pc' := 117) at_115 rfl rfl ?_
          refine g_dconst0 C X16 (pc' := 118) at_117 rfl rfl ?_
          rw [kk_5]
          refine g_dcmpV C X16 (pc' := 119) at_118 (dcmp_cmpI D_d36 dint_zero _) rfl ?_
          refine g_if C X16 at_119 (pc' := 220) (pc'' := 122) (by decide) (by decide) rfl (fun c119 => ?_) (fun c119 => ?_)
          · have c119 : ¬ (0 < (cmpI (-p1.toInt) 0).toInt) := c119
            have c119 : ¬ (0 < -p1.toInt) := fun q => c119 ((cmpI_gt _ _).mpr q)
            refine g_dload C X16 (pc' := 222) at_220 rfl rfl ?_
            refine g_dconst0 C X16 (pc' := 223) at_222 rfl rfl ?_
            rw [kk_5]
            refine g_dcmpV C X16 (pc' := 224) at_223 (dcmp_cmpI D_d36 dint_zero _) rfl ?_
            refine g_if C X16 at_224 (pc' := 247) (pc'' := 227) (by decide) (by decide) rfl (fun c224 => ?_) (fun c224 => ?_)
            · have c224 : ¬ ((cmpI (-p1.toInt) 0).toInt = 0) := c224
              have c224 : ¬ (-p1.toInt = 0) := fun q => c224 ((cmpI_eq _ _).mpr q)
              refine g_dload C X16 (pc' := 249) at_247 rfl rfl ?_
              refine g_dload C X16 (pc' := 251) at_249 rfl rfl ?_
              refine g_dcmp C X16 (pc' := 252) at_251 rfl ?_
              refine g_if C X16 at_252 (pc' := 259) (pc'' := 255) (by decide) (by decide) rfl (fun c252 => ?_) (fun c252 => ?_)
              · have c252 : (cmpValue (FP.dcmp r16 r16) .l).toInt = 0 := c252
                refine g_iconst C X16 (pc' := 260) at_259 (v := (0 : Int32)) (by decide) rfl ?_
                exfalso; omega
              · have c252 : ¬ ((cmpValue (FP.dcmp r16 r16) .l).toInt = 0) := c252
                refine g_iconst C X16 (pc' := 256) at_255 (v := (1 : Int32)) (by decide) rfl ?_
                refine g_goto C X16 at_256 (pc' := 260) (by decide) (by decide) ?_
                exact g_zreturnW C X16 S14 e16 Y14 at_260 (w := 1) (by decide) ⟨rfl, N15⟩ (by decide) (by decide)
            · have c224 : (cmpI (-p1.toInt) 0).toInt = 0 := Decidable.not_not.mp c224
              have c224 : -p1.toInt = 0 := (cmpI_eq _ _).mp c224
              refine g_dload C X16 (pc' := 229) at_227 rfl rfl ?_
              refine g_dconst0 C X16 (pc' := 230) at_229 rfl rfl ?_
              rw [kk_5]
              refine g_dcmpV C X16 (pc' := 231) at_230 (dcmp_cmpI D_d24 dint_zero _) rfl ?_
              refine g_if C X16 at_231 (pc' := 247) (pc'' := 234) (by decide) (by decide) rfl (fun c231 => ?_) (fun c231 => ?_)
              · have c231 : ¬ ((cmpI (-p0.toInt) 0).toInt = 0) := c231
                have c231 : ¬ (-p0.toInt = 0) := fun q => c231 ((cmpI_eq _ _).mpr q)
                refine g_dload C X16 (pc' := 249) at_247 rfl rfl ?_
                refine g_dload C X16 (pc' := 251) at_249 rfl rfl ?_
                refine g_dcmp C X16 (pc' := 252) at_251 rfl ?_
                refine g_if C X16 at_252 (pc' := 259) (pc'' := 255) (by decide) (by decide) rfl (fun c252 => ?_) (fun c252 => ?_)
                · have c252 : (cmpValue (FP.dcmp r16 r16) .l).toInt = 0 := c252
                  refine g_iconst C X16 (pc' := 260) at_259 (v := (0 : Int32)) (by decide) rfl ?_
                  exfalso; omega
                · have c252 : ¬ ((cmpValue (FP.dcmp r16 r16) .l).toInt = 0) := c252
                  refine g_iconst C X16 (pc' := 256) at_255 (v := (1 : Int32)) (by decide) rfl ?_
                  refine g_goto C X16 at_256 (pc' := 260) (by decide) (by decide) ?_
                  exact g_zreturnW C X16 S14 e16 Y14 at_260 (w := 1) (by decide) ⟨rfl, N15⟩ (by decide) (by decide)
              · have c231 : (cmpI (-p0.toInt) 0).toInt = 0 := Decidable.not_not.mp c231
                have c231 : -p0.toInt = 0 := (cmpI_eq _ _).mp c231
                refine g_dload C X16 (pc' := 236) at_234 rfl rfl ?_
                refine g_dconst1 C X16 (pc' := 237) at_236 rfl rfl ?_
                rw [kk_6]
                refine g_dcmp C X16 (pc' := 238) at_237 rfl ?_
                refine g_if C X16 at_238 (pc' := 245) (pc'' := 241) (by decide) (by decide) rfl (fun c238 => ?_) (fun c238 => ?_)
                · have c238 : ¬ ((cmpValue (FP.dcmp r16 (4607182418800017408 : UInt64)) .l).toInt = 0) := c238
                  refine g_iconst C X16 (pc' := 246) at_245 (v := (0 : Int32)) (by decide) rfl ?_
                  exfalso; omega
                · have c238 : (cmpValue (FP.dcmp r16 (4607182418800017408 : UInt64)) .l).toInt = 0 := Decidable.not_not.mp c238
                  refine g_iconst C X16 (pc' := 242) at_241 (v := (1 : Int32)) (by decide) rfl ?_
                  refine g_goto C X16 at_242 (pc' := 246) (by decide) (by decide) ?_
                  exact g_zreturnW C X16 S14 e16 Y14 at_246 (w := 1) (by decide) ⟨rfl, N15⟩ (by decide) (by decide)
          · have c119 : 0 < (cmpI (-p1.toInt) 0).toInt := Decidable.not_not.mp c119
            have c119 : 0 < -p1.toInt := (cmpI_gt _ _).mp c119
            refine g_dload C X16 (pc' := 124) at_122 rfl rfl ?_
            refine g_dload C X16 (pc' := 126) at_124 rfl rfl ?_
            refine g_dcmpV C X16 (pc' := 127) at_126 (v := (0 : Int32)) (own_self Rr.1 _) rfl ?_
            refine g_ifY C X16 at_127 (pc' := 132) (by decide) (by decide) (by decide) ?_
            have Rq := Rr
            obtain ⟨-, R1, R2, R3, -, -, -⟩ := Rq
            refine g_dload C X16 (pc' := 134) at_132 rfl rfl ?_
            refine g_dconst0 C X16 (pc' := 135) at_134 rfl rfl ?_
            rw [kk_5]
            refine g_dcmpV C X16 (pc' := 136) at_135 (dcmp_cmpI D_d24 dint_zero _) rfl ?_
            refine g_if C X16 at_136 (pc' := 148) (pc'' := 139) (by decide) (by decide) rfl (fun c136 => ?_) (fun c136 => ?_)
            · have c136 : ¬ (0 < (cmpI (-p0.toInt) 0).toInt) := c136
              have c136 : ¬ (0 < -p0.toInt) := fun q => c136 ((cmpI_gt _ _).mpr q)
              refine g_dload C X16 (pc' := 150) at_148 rfl rfl ?_
              refine g_dconst0 C X16 (pc' := 151) at_150 rfl rfl ?_
              rw [kk_5]
              refine g_dcmpV C X16 (pc' := 152) at_151 (dcmp_cmpI D_d24 dint_zero _) rfl ?_
              refine g_if C X16 at_152 (pc' := 164) (pc'' := 155) (by decide) (by decide) rfl (fun c152 => ?_) (fun c152 => ?_)
              · have c152 : ¬ ((cmpI (-p0.toInt) 0).toInt < 0) := c152
                have c152 : ¬ (-p0.toInt < 0) := fun q => c152 ((cmpI_lt _ _).mpr q)
                refine g_dload C X16 (pc' := 166) at_164 rfl rfl ?_
                refine g_dconst0 C X16 (pc' := 167) at_166 rfl rfl ?_
                rw [kk_5]
                refine g_dcmpV C X16 (pc' := 168) at_167 (dcmp_cmpI D_d24 dint_zero _) rfl ?_
                refine g_if C X16 at_168 (pc' := 180) (pc'' := 171) (by decide) (by decide) rfl (fun c168 => ?_) (fun c168 => ?_)
                · have c168 : ¬ ((cmpI (-p0.toInt) 0).toInt = 0) := c168
                  have c168 : ¬ (-p0.toInt = 0) := fun q => c168 ((cmpI_eq _ _).mpr q)
                  refine g_dload C X16 (pc' := 182) at_180 rfl rfl ?_
                  refine g_dconst0 C X16 (pc' := 183) at_182 rfl rfl ?_
                  rw [kk_5]
                  refine g_dcmpV C X16 (pc' := 184) at_183 (dcmp_cmpI D_d24 dint_zero _) rfl ?_
                  refine g_ifY C X16 at_184 (pc' := 193) (by decide) (by decide) (fun q => c152 ((cmpI_lt _ _).mp q)) ?_
                  refine g_dload C X16 (pc' := 195) at_193 rfl rfl ?_
                  refine g_dstore C X16 (pc' := 197) at_195 (x := d24) rfl (l' := #[.val (.int p0), .val (.int p1), .val (.int p2), .val (.int p3), .val (.double d24), .second, .val (.double d36), .second, .val (.ref a13), .val (.double r16), .second, .val (.double d24), .second]) rfl rfl ?_
                  have Rq := Rr
                  obtain ⟨-, R1, R2, R3, R4, R5, R6⟩ := Rq
                  refine g_dload C X16 (pc' := 199) at_197 rfl rfl ?_
                  refine g_dload C X16 (pc' := 201) at_199 rfl rfl ?_
                  refine g_dcmpV C X16 (pc' := 202) at_201 (dcmp_dz Rr.1 (nn_of_int D_d24) _) rfl ?_
                  refine g_if C X16 at_202 (pc' := 218) (pc'' := 205) (by decide) (by decide) rfl (fun c202 => ?_) (fun c202 => ?_)
                  · have c202 : 0 < (cmpI (dz r16) (dz d24)).toInt := c202
                    have c202 : dz d24 < dz r16 := (cmpI_gt _ _).mp c202
                    refine g_iconst C X16 (pc' := 219) at_218 (v := (0 : Int32)) (by decide) rfl ?_
                    exfalso; omega
                  · have c202 : ¬ (0 < (cmpI (dz r16) (dz d24)).toInt) := c202
                    have c202 : ¬ (dz d24 < dz r16) := fun q => c202 ((cmpI_gt _ _).mpr q)
                    refine g_dload C X16 (pc' := 207) at_205 rfl rfl ?_
                    refine g_dneg C X16 (pc' := 208) at_207 rfl ?_
                    refine g_dload C X16 (pc' := 210) at_208 rfl rfl ?_
                    refine g_dcmpV C X16 (pc' := 211) at_210 (own_cn Rr.1 (nn_of_int D_d24) _) rfl ?_
                    refine g_if C X16 at_211 (pc' := 218) (pc'' := 214) (by decide) (by decide) rfl (fun c211 => ?_) (fun c211 => ?_)
                    · have c211 : 0 < (cmpI (-dz r16) (dz d24)).toInt := c211
                      have c211 : dz d24 < -dz r16 := (cmpI_gt _ _).mp c211
                      refine g_iconst C X16 (pc' := 219) at_218 (v := (0 : Int32)) (by decide) rfl ?_
                      exfalso; omega
                    · have c211 : ¬ (0 < (cmpI (-dz r16) (dz d24)).toInt) := c211
                      have c211 : ¬ (dz d24 < -dz r16) := fun q => c211 ((cmpI_gt _ _).mpr q)
                      refine g_iconst C X16 (pc' := 215) at_214 (v := (1 : Int32)) (by decide) rfl ?_
                      refine g_goto C X16 at_215 (pc' := 219) (by decide) (by decide) ?_
                      exact g_zreturnW C X16 S14 e16 Y14 at_219 (w := 1) (by decide) ⟨rfl, N15⟩ (by decide) (by decide)
                · have c168 : (cmpI (-p0.toInt) 0).toInt = 0 := Decidable.not_not.mp c168
                  have c168 : -p0.toInt = 0 := (cmpI_eq _ _).mp c168
                  refine g_dload C X16 (pc' := 173) at_171 rfl rfl ?_
                  refine g_dconst0 C X16 (pc' := 174) at_173 rfl rfl ?_
                  rw [kk_5]
                  refine g_dcmpV C X16 (pc' := 175) at_174 (own_c0 Rr.1 _) rfl ?_
                  refine g_if C X16 at_175 (pc' := 180) (pc'' := 178) (by decide) (by decide) rfl (fun c175 => ?_) (fun c175 => ?_)
                  · have c175 : (cmpI (dz r16) 0).toInt = 0 := c175
                    have c175 : dz r16 = 0 := (cmpI_eq _ _).mp c175
                    refine g_dload C X16 (pc' := 182) at_180 rfl rfl ?_
                    refine g_dconst0 C X16 (pc' := 183) at_182 rfl rfl ?_
                    rw [kk_5]
                    refine g_dcmpV C X16 (pc' := 184) at_183 (dcmp_cmpI D_d24 dint_zero _) rfl ?_
                    refine g_ifY C X16 at_184 (pc' := 193) (by decide) (by decide) (fun q => c152 ((cmpI_lt _ _).mp q)) ?_
                    refine g_dload C X16 (pc' := 195) at_193 rfl rfl ?_
                    refine g_dstore C X16 (pc' := 197) at_195 (x := d24) rfl (l' := #[.val (.int p0), .val (.int p1), .val (.int p2), .val (.int p3), .val (.double d24), .second, .val (.double d36), .second, .val (.ref a13), .val (.double r16), .second, .val (.double d24), .second]) rfl rfl ?_
                    have Rq := Rr
                    obtain ⟨-, R1, R2, R3, R4, R5, R6⟩ := Rq
                    refine g_dload C X16 (pc' := 199) at_197 rfl rfl ?_
                    refine g_dload C X16 (pc' := 201) at_199 rfl rfl ?_
                    refine g_dcmpV C X16 (pc' := 202) at_201 (dcmp_dz Rr.1 (nn_of_int D_d24) _) rfl ?_
                    refine g_if C X16 at_202 (pc' := 218) (pc'' := 205) (by decide) (by decide) rfl (fun c202 => ?_) (fun c202 => ?_)
                    · have c202 : 0 < (cmpI (dz r16) (dz d24)).toInt := c202
                      have c202 : dz d24 < dz r16 := (cmpI_gt _ _).mp c202
                      refine g_iconst C X16 (pc' := 219) at_218 (v := (0 : Int32)) (by decide) rfl ?_
                      exfalso; omega
                    · have c202 : ¬ (0 < (cmpI (dz r16) (dz d24)).toInt) := c202
                      have c202 : ¬ (dz d24 < dz r16) := fun q => c202 ((cmpI_gt _ _).mpr q)
                      refine g_dload C X16 (pc' := 207) at_205 rfl rfl ?_
                      refine g_dneg C X16 (pc' := 208) at_207 rfl ?_
                      refine g_dload C X16 (pc' := 210) at_208 rfl rfl ?_
                      refine g_dcmpV C X16 (pc' := 211) at_210 (own_cn Rr.1 (nn_of_int D_d24) _) rfl ?_
                      refine g_if C X16 at_211 (pc' := 218) (pc'' := 214) (by decide) (by decide) rfl (fun c211 => ?_) (fun c211 => ?_)
                      · have c211 : 0 < (cmpI (-dz r16) (dz d24)).toInt := c211
                        have c211 : dz d24 < -dz r16 := (cmpI_gt _ _).mp c211
                        refine g_iconst C X16 (pc' := 219) at_218 (v := (0 : Int32)) (by decide) rfl ?_
                        exfalso; omega
                      · have c211 : ¬ (0 < (cmpI (-dz r16) (dz d24)).toInt) := c211
                        have c211 : ¬ (dz d24 < -dz r16) := fun q => c211 ((cmpI_gt _ _).mpr q)
                        refine g_iconst C X16 (pc' := 215) at_214 (v := (1 : Int32)) (by decide) rfl ?_
                        refine g_goto C X16 at_215 (pc' := 219) (by decide) (by decide) ?_
                        exact g_zreturnW C X16 S14 e16 Y14 at_219 (w := 1) (by decide) ⟨rfl, N15⟩ (by decide) (by decide)
                  · have c175 : ¬ ((cmpI (dz r16) 0).toInt = 0) := c175
                    have c175 : ¬ (dz r16 = 0) := fun q => c175 ((cmpI_eq _ _).mpr q)
                    refine g_iconst C X16 (pc' := 179) at_178 (v := (0 : Int32)) (by decide) rfl ?_
                    exfalso; omega
              · have c152 : (cmpI (-p0.toInt) 0).toInt < 0 := Decidable.not_not.mp c152
                have c152 : -p0.toInt < 0 := (cmpI_lt _ _).mp c152
                refine g_dload C X16 (pc' := 157) at_155 rfl rfl ?_
                refine g_dconst0 C X16 (pc' := 158) at_157 rfl rfl ?_
                rw [kk_5]
                refine g_dcmpV C X16 (pc' := 159) at_158 (own_c0 Rr.1 _) rfl ?_
                refine g_if C X16 at_159 (pc' := 164) (pc'' := 162) (by decide) (by decide) rfl (fun c159 => ?_) (fun c159 => ?_)
                · have c159 : (cmpI (dz r16) 0).toInt < 0 := c159
                  have c159 : dz r16 < 0 := (cmpI_lt _ _).mp c159
                  refine g_dload C X16 (pc' := 166) at_164 rfl rfl ?_
                  refine g_dconst0 C X16 (pc' := 167) at_166 rfl rfl ?_
                  rw [kk_5]
                  refine g_dcmpV C X16 (pc' := 168) at_167 (dcmp_cmpI D_d24 dint_zero _) rfl ?_
                  refine g_if C X16 at_168 (pc' := 180) (pc'' := 171) (by decide) (by decide) rfl (fun c168 => ?_) (fun c168 => ?_)
                  · have c168 : ¬ ((cmpI (-p0.toInt) 0).toInt = 0) := c168
                    have c168 : ¬ (-p0.toInt = 0) := fun q => c168 ((cmpI_eq _ _).mpr q)
                    refine g_dload C X16 (pc' := 182) at_180 rfl rfl ?_
                    refine g_dconst0 C X16 (pc' := 183) at_182 rfl rfl ?_
                    rw [kk_5]
                    refine g_dcmpV C X16 (pc' := 184) at_183 (dcmp_cmpI D_d24 dint_zero _) rfl ?_
                    refine g_ifN C X16 at_184 (fun q => q ((cmpI_lt _ _).mpr c152)) rfl ?_
                    refine g_dload C X16 (pc' := 189) at_187 rfl rfl ?_
                    refine g_dneg C X16 (pc' := 190) at_189 rfl ?_
                    refine g_goto C X16 at_190 (pc' := 195) (by decide) (by decide) ?_
                    obtain ⟨d43, e_d43⟩ : ∃ z : UInt64, z = FP.dneg d24 := ⟨_, rfl⟩
                    have D_d43 : FP.Core.DInt (-(-p0.toInt)) d43 := e_d43 ▸ (dneg_int' D_d24)
                    refine g_dstore C X16 (pc' := 197) at_195 (x := d43) e_d43 (l' := #[.val (.int p0), .val (.int p1), .val (.int p2), .val (.int p3), .val (.double d24), .second, .val (.double d36), .second, .val (.ref a13), .val (.double r16), .second, .val (.double d43), .second]) rfl rfl ?_
                    have Rq := Rr
                    obtain ⟨-, R1, R2, R3, R4, R5, R6⟩ := Rq
                    have zac : dz d43 = -dz d24 := by rw [e_d43]; exact dz_dneg _
                    refine g_dload C X16 (pc' := 199) at_197 rfl rfl ?_
                    refine g_dload C X16 (pc' := 201) at_199 rfl rfl ?_
                    refine g_dcmpV C X16 (pc' := 202) at_201 (dcmp_dz Rr.1 (nn_of_int D_d43) _) rfl ?_
                    refine g_if C X16 at_202 (pc' := 218) (pc'' := 205) (by decide) (by decide) rfl (fun c202 => ?_) (fun c202 => ?_)
                    · have c202 : 0 < (cmpI (dz r16) (dz d43)).toInt := c202
                      have c202 : dz d43 < dz r16 := (cmpI_gt _ _).mp c202
                      refine g_iconst C X16 (pc' := 219) at_218 (v := (0 : Int32)) (by decide) rfl ?_
                      exfalso; omega
                    · have c202 : ¬ (0 < (cmpI (dz r16) (dz d43)).toInt) := c202
                      have c202 : ¬ (dz d43 < dz r16) := fun q => c202 ((cmpI_gt _ _).mpr q)
                      refine g_dload C X16 (pc' := 207) at_205 rfl rfl ?_
                      refine g_dneg C X16 (pc' := 208) at_207 rfl ?_
                      refine g_dload C X16 (pc' := 210) at_208 rfl rfl ?_
                      refine g_dcmpV C X16 (pc' := 211) at_210 (own_cn Rr.1 (nn_of_int D_d43) _) rfl ?_
                      refine g_if C X16 at_211 (pc' := 218) (pc'' := 214) (by decide) (by decide) rfl (fun c211 => ?_) (fun c211 => ?_)
                      · have c211 : 0 < (cmpI (-dz r16) (dz d43)).toInt := c211
                        have c211 : dz d43 < -dz r16 := (cmpI_gt _ _).mp c211
                        refine g_iconst C X16 (pc' := 219) at_218 (v := (0 : Int32)) (by decide) rfl ?_
                        exfalso; omega
                      · have c211 : ¬ (0 < (cmpI (-dz r16) (dz d43)).toInt) := c211
                        have c211 : ¬ (dz d43 < -dz r16) := fun q => c211 ((cmpI_gt _ _).mpr q)
                        refine g_iconst C X16 (pc' := 215) at_214 (v := (1 : Int32)) (by decide) rfl ?_
                        refine g_goto C X16 at_215 (pc' := 219) (by decide) (by decide) ?_
                        exact g_zreturnW C X16 S14 e16 Y14 at_219 (w := 1) (by decide) ⟨rfl, N15⟩ (by decide) (by decide)
                  · have c168 : (cmpI (-p0.toInt) 0).toInt = 0 := Decidable.not_not.mp c168
                    have c168 : -p0.toInt = 0 := (cmpI_eq _ _).mp c168
                    refine g_dload C X16 (pc' := 173) at_171 rfl rfl ?_
                    refine g_dconst0 C X16 (pc' := 174) at_173 rfl rfl ?_
                    rw [kk_5]
                    refine g_dcmpV C X16 (pc' := 175) at_174 (own_c0 Rr.1 _) rfl ?_
                    refine g_if C X16 at_175 (pc' := 180) (pc'' := 178) (by decide) (by decide) rfl (fun c175 => ?_) (fun c175 => ?_)
                    · have c175 : (cmpI (dz r16) 0).toInt = 0 := c175
                      have c175 : dz r16 = 0 := (cmpI_eq _ _).mp c175
                      refine g_dload C X16 (pc' := 182) at_180 rfl rfl ?_
                      refine g_dconst0 C X16 (pc' := 183) at_182 rfl rfl ?_
                      rw [kk_5]
                      refine g_dcmpV C X16 (pc' := 184) at_183 (dcmp_cmpI D_d24 dint_zero _) rfl ?_
                      refine g_ifN C X16 at_184 (fun q => q ((cmpI_lt _ _).mpr c152)) rfl ?_
                      refine g_dload C X16 (pc' := 189) at_187 rfl rfl ?_
                      refine g_dneg C X16 (pc' := 190) at_189 rfl ?_
                      refine g_goto C X16 at_190 (pc' := 195) (by decide) (by decide) ?_
                      obtain ⟨d44, e_d44⟩ : ∃ z : UInt64, z = FP.dneg d24 := ⟨_, rfl⟩
                      have D_d44 : FP.Core.DInt (-(-p0.toInt)) d44 := e_d44 ▸ (dneg_int' D_d24)
                      refine g_dstore C X16 (pc' := 197) at_195 (x := d44) e_d44 (l' := #[.val (.int p0), .val (.int p1), .val (.int p2), .val (.int p3), .val (.double d24), .second, .val (.double d36), .second, .val (.ref a13), .val (.double r16), .second, .val (.double d44), .second]) rfl rfl ?_
                      have Rq := Rr
                      obtain ⟨-, R1, R2, R3, R4, R5, R6⟩ := Rq
                      have zac : dz d44 = -dz d24 := by rw [e_d44]; exact dz_dneg _
                      refine g_dload C X16 (pc' := 199) at_197 rfl rfl ?_
                      refine g_dload C X16 (pc' := 201) at_199 rfl rfl ?_
                      refine g_dcmpV C X16 (pc' := 202) at_201 (dcmp_dz Rr.1 (nn_of_int D_d44) _) rfl ?_
                      refine g_if C X16 at_202 (pc' := 218) (pc'' := 205) (by decide) (by decide) rfl (fun c202 => ?_) (fun c202 => ?_)
                      · have c202 : 0 < (cmpI (dz r16) (dz d44)).toInt := c202
                        have c202 : dz d44 < dz r16 := (cmpI_gt _ _).mp c202
                        refine g_iconst C X16 (pc' := 219) at_218 (v := (0 : Int32)) (by decide) rfl ?_
                        exfalso; omega
                      · have c202 : ¬ (0 < (cmpI (dz r16) (dz d44)).toInt) := c202
                        have c202 : ¬ (dz d44 < dz r16) := fun q => c202 ((cmpI_gt _ _).mpr q)
                        refine g_dload C X16 (pc' := 207) at_205 rfl rfl ?_
                        refine g_dneg C X16 (pc' := 208) at_207 rfl ?_
                        refine g_dload C X16 (pc' := 210) at_208 rfl rfl ?_
                        refine g_dcmpV C X16 (pc' := 211) at_210 (own_cn Rr.1 (nn_of_int D_d44) _) rfl ?_
                        refine g_if C X16 at_211 (pc' := 218) (pc'' := 214) (by decide) (by decide) rfl (fun c211 => ?_) (fun c211 => ?_)
                        · have c211 : 0 < (cmpI (-dz r16) (dz d44)).toInt := c211
                          have c211 : dz d44 < -dz r16 := (cmpI_gt _ _).mp c211
                          refine g_iconst C X16 (pc' := 219) at_218 (v := (0 : Int32)) (by decide) rfl ?_
                          exfalso; omega
                        · have c211 : ¬ (0 < (cmpI (-dz r16) (dz d44)).toInt) := c211
                          have c211 : ¬ (dz d44 < -dz r16) := fun q => c211 ((cmpI_gt _ _).mpr q)
                          refine g_iconst C X16 (pc' := 215) at_214 (v := (1 : Int32)) (by decide) rfl ?_
                          refine g_goto C X16 at_215 (pc' := 219) (by decide) (by decide) ?_
                          exact g_zreturnW C X16 S14 e16 Y14 at_219 (w := 1) (by decide) ⟨rfl, N15⟩ (by decide) (by decide)
                    · have c175 : ¬ ((cmpI (dz r16) 0).toInt = 0) := c175
                      have c175 : ¬ (dz r16 = 0) := fun q => c175 ((cmpI_eq _ _).mpr q)
                      refine g_iconst C X16 (pc' := 179) at_178 (v := (0 : Int32)) (by decide) rfl ?_
                      exfalso; omega
                · have c159 : ¬ ((cmpI (dz r16) 0).toInt < 0) := c159
                  have c159 : ¬ (dz r16 < 0) := fun q => c159 ((cmpI_lt _ _).mpr q)
                  refine g_iconst C X16 (pc' := 163) at_162 (v := (0 : Int32)) (by decide) rfl ?_
                  exfalso; omega
            · have c136 : 0 < (cmpI (-p0.toInt) 0).toInt := Decidable.not_not.mp c136
              have c136 : 0 < -p0.toInt := (cmpI_gt _ _).mp c136
              refine g_dload C X16 (pc' := 141) at_139 rfl rfl ?_
              refine g_dconst0 C X16 (pc' := 142) at_141 rfl rfl ?_
              rw [kk_5]
              refine g_dcmpV C X16 (pc' := 143) at_142 (own_c0 Rr.1 _) rfl ?_
              refine g_if C X16 at_143 (pc' := 148) (pc'' := 146) (by decide) (by decide) rfl (fun c143 => ?_) (fun c143 => ?_)
              · have c143 : 0 < (cmpI (dz r16) 0).toInt := c143
                have c143 : 0 < dz r16 := (cmpI_gt _ _).mp c143
                refine g_dload C X16 (pc' := 150) at_148 rfl rfl ?_
                refine g_dconst0 C X16 (pc' := 151) at_150 rfl rfl ?_
                rw [kk_5]
                refine g_dcmpV C X16 (pc' := 152) at_151 (dcmp_cmpI D_d24 dint_zero _) rfl ?_
                refine g_if C X16 at_152 (pc' := 164) (pc'' := 155) (by decide) (by decide) rfl (fun c152 => ?_) (fun c152 => ?_)
                · have c152 : ¬ ((cmpI (-p0.toInt) 0).toInt < 0) := c152
                  have c152 : ¬ (-p0.toInt < 0) := fun q => c152 ((cmpI_lt _ _).mpr q)
                  refine g_dload C X16 (pc' := 166) at_164 rfl rfl ?_
                  refine g_dconst0 C X16 (pc' := 167) at_166 rfl rfl ?_
                  rw [kk_5]
                  refine g_dcmpV C X16 (pc' := 168) at_167 (dcmp_cmpI D_d24 dint_zero _) rfl ?_
                  refine g_if C X16 at_168 (pc' := 180) (pc'' := 171) (by decide) (by decide) rfl (fun c168 => ?_) (fun c168 => ?_)
                  · have c168 : ¬ ((cmpI (-p0.toInt) 0).toInt = 0) := c168
                    have c168 : ¬ (-p0.toInt = 0) := fun q => c168 ((cmpI_eq _ _).mpr q)
                    refine g_dload C X16 (pc' := 182) at_180 rfl rfl ?_
                    refine g_dconst0 C X16 (pc' := 183) at_182 rfl rfl ?_
                    rw [kk_5]
                    refine g_dcmpV C X16 (pc' := 184) at_183 (dcmp_cmpI D_d24 dint_zero _) rfl ?_
                    refine g_ifY C X16 at_184 (pc' := 193) (by decide) (by decide) (fun q => c152 ((cmpI_lt _ _).mp q)) ?_
                    refine g_dload C X16 (pc' := 195) at_193 rfl rfl ?_
                    refine g_dstore C X16 (pc' := 197) at_195 (x := d24) rfl (l' := #[.val (.int p0), .val (.int p1), .val (.int p2), .val (.int p3), .val (.double d24), .second, .val (.double d36), .second, .val (.ref a13), .val (.double r16), .second, .val (.double d24), .second]) rfl rfl ?_
                    have Rq := Rr
                    obtain ⟨-, R1, R2, R3, R4, R5, R6⟩ := Rq
                    refine g_dload C X16 (pc' := 199) at_197 rfl rfl ?_
                    refine g_dload C X16 (pc' := 201) at_199 rfl rfl ?_
                    refine g_dcmpV C X16 (pc' := 202) at_201 (dcmp_dz Rr.1 (nn_of_int D_d24) _) rfl ?_
                    refine g_if C X16 at_202 (pc' := 218) (pc'' := 205) (by decide) (by decide) rfl (fun c202 => ?_) (fun c202 => ?_)
                    · have c202 : 0 < (cmpI (dz r16) (dz d24)).toInt := c202
                      have c202 : dz d24 < dz r16 := (cmpI_gt _ _).mp c202
                      refine g_iconst C X16 (pc' := 219) at_218 (v := (0 : Int32)) (by decide) rfl ?_
                      exfalso; omega
                    · have c202 : ¬ (0 < (cmpI (dz r16) (dz d24)).toInt) := c202
                      have c202 : ¬ (dz d24 < dz r16) := fun q => c202 ((cmpI_gt _ _).mpr q)
                      refine g_dload C X16 (pc' := 207) at_205 rfl rfl ?_
                      refine g_dneg C X16 (pc' := 208) at_207 rfl ?_
                      refine g_dload C X16 (pc' := 210) at_208 rfl rfl ?_
                      refine g_dcmpV C X16 (pc' := 211) at_210 (own_cn Rr.1 (nn_of_int D_d24) _) rfl ?_
                      refine g_if C X16 at_211 (pc' := 218) (pc'' := 214) (by decide) (by decide) rfl (fun c211 => ?_) (fun c211 => ?_)
                      · have c211 : 0 < (cmpI (-dz r16) (dz d24)).toInt := c211
                        have c211 : dz d24 < -dz r16 := (cmpI_gt _ _).mp c211
                        refine g_iconst C X16 (pc' := 219) at_218 (v := (0 : Int32)) (by decide) rfl ?_
                        exfalso; omega
                      · have c211 : ¬ (0 < (cmpI (-dz r16) (dz d24)).toInt) := c211
                        have c211 : ¬ (dz d24 < -dz r16) := fun q => c211 ((cmpI_gt _ _).mpr q)
                        refine g_iconst C X16 (pc' := 215) at_214 (v := (1 : Int32)) (by decide) rfl ?_
                        refine g_goto C X16 at_215 (pc' := 219) (by decide) (by decide) ?_
                        exact g_zreturnW C X16 S14 e16 Y14 at_219 (w := 1) (by decide) ⟨rfl, N15⟩ (by decide) (by decide)
                  · have c168 : (cmpI (-p0.toInt) 0).toInt = 0 := Decidable.not_not.mp c168
                    have c168 : -p0.toInt = 0 := (cmpI_eq _ _).mp c168
                    refine g_dload C X16 (pc' := 173) at_171 rfl rfl ?_
                    refine g_dconst0 C X16 (pc' := 174) at_173 rfl rfl ?_
                    rw [kk_5]
                    refine g_dcmpV C X16 (pc' := 175) at_174 (own_c0 Rr.1 _) rfl ?_
                    refine g_if C X16 at_175 (pc' := 180) (pc'' := 178) (by decide) (by decide) rfl (fun c175 => ?_) (fun c175 => ?_)
                    · have c175 : (cmpI (dz r16) 0).toInt = 0 := c175
                      have c175 : dz r16 = 0 := (cmpI_eq _ _).mp c175
                      refine g_dload C X16 (pc' := 182) at_180 rfl rfl ?_
                      refine g_dconst0 C X16 (pc' := 183) at_182 rfl rfl ?_
                      rw [kk_5]
                      refine g_dcmpV C X16 (pc' := 184) at_183 (dcmp_cmpI D_d24 dint_zero _) rfl ?_
                      refine g_ifY C X16 at_184 (pc' := 193) (by decide) (by decide) (fun q => c152 ((cmpI_lt _ _).mp q)) ?_
                      refine g_dload C X16 (pc' := 195) at_193 rfl rfl ?_
                      refine g_dstore C X16 (pc' := 197) at_195 (x := d24) rfl (l' := #[.val (.int p0), .val (.int p1), .val (.int p2), .val (.int p3), .val (.double d24), .second, .val (.double d36), .second, .val (.ref a13), .val (.double r16), .second, .val (.double d24), .second]) rfl rfl ?_
                      have Rq := Rr
                      obtain ⟨-, R1, R2, R3, R4, R5, R6⟩ := Rq
                      refine g_dload C X16 (pc' := 199) at_197 rfl rfl ?_
                      refine g_dload C X16 (pc' := 201) at_199 rfl rfl ?_
                      refine g_dcmpV C X16 (pc' := 202) at_201 (dcmp_dz Rr.1 (nn_of_int D_d24) _) rfl ?_
                      refine g_if C X16 at_202 (pc' := 218) (pc'' := 205) (by decide) (by decide) rfl (fun c202 => ?_) (fun c202 => ?_)
                      · have c202 : 0 < (cmpI (dz r16) (dz d24)).toInt := c202
                        have c202 : dz d24 < dz r16 := (cmpI_gt _ _).mp c202
                        refine g_iconst C X16 (pc' := 219) at_218 (v := (0 : Int32)) (by decide) rfl ?_
                        exfalso; omega
                      · have c202 : ¬ (0 < (cmpI (dz r16) (dz d24)).toInt) := c202
                        have c202 : ¬ (dz d24 < dz r16) := fun q => c202 ((cmpI_gt _ _).mpr q)
                        refine g_dload C X16 (pc' := 207) at_205 rfl rfl ?_
                        refine g_dneg C X16 (pc' := 208) at_207 rfl ?_
                        refine g_dload C X16 (pc' := 210) at_208 rfl rfl ?_
                        refine g_dcmpV C X16 (pc' := 211) at_210 (own_cn Rr.1 (nn_of_int D_d24) _) rfl ?_
                        refine g_if C X16 at_211 (pc' := 218) (pc'' := 214) (by decide) (by decide) rfl (fun c211 => ?_) (fun c211 => ?_)
                        · have c211 : 0 < (cmpI (-dz r16) (dz d24)).toInt := c211
                          have c211 : dz d24 < -dz r16 := (cmpI_gt _ _).mp c211
                          refine g_iconst C X16 (pc' := 219) at_218 (v := (0 : Int32)) (by decide) rfl ?_
                          exfalso; omega
                        · have c211 : ¬ (0 < (cmpI (-dz r16) (dz d24)).toInt) := c211
                          have c211 : ¬ (dz d24 < -dz r16) := fun q => c211 ((cmpI_gt _ _).mpr q)
                          refine g_iconst C X16 (pc' := 215) at_214 (v := (1 : Int32)) (by decide) rfl ?_
                          refine g_goto C X16 at_215 (pc' := 219) (by decide) (by decide) ?_
                          exact g_zreturnW C X16 S14 e16 Y14 at_219 (w := 1) (by decide) ⟨rfl, N15⟩ (by decide) (by decide)
                    · have c175 : ¬ ((cmpI (dz r16) 0).toInt = 0) := c175
                      have c175 : ¬ (dz r16 = 0) := fun q => c175 ((cmpI_eq _ _).mpr q)
                      refine g_iconst C X16 (pc' := 179) at_178 (v := (0 : Int32)) (by decide) rfl ?_
                      exfalso; omega
                · have c152 : (cmpI (-p0.toInt) 0).toInt < 0 := Decidable.not_not.mp c152
                  have c152 : -p0.toInt < 0 := (cmpI_lt _ _).mp c152
                  refine g_dload C X16 (pc' := 157) at_155 rfl rfl ?_
                  refine g_dconst0 C X16 (pc' := 158) at_157 rfl rfl ?_
                  rw [kk_5]
                  refine g_dcmpV C X16 (pc' := 159) at_158 (own_c0 Rr.1 _) rfl ?_
                  refine g_if C X16 at_159 (pc' := 164) (pc'' := 162) (by decide) (by decide) rfl (fun c159 => ?_) (fun c159 => ?_)
                  · have c159 : (cmpI (dz r16) 0).toInt < 0 := c159
                    have c159 : dz r16 < 0 := (cmpI_lt _ _).mp c159
                    refine g_dload C X16 (pc' := 166) at_164 rfl rfl ?_
                    refine g_dconst0 C X16 (pc' := 167) at_166 rfl rfl ?_
                    rw [kk_5]
                    refine g_dcmpV C X16 (pc' := 168) at_167 (dcmp_cmpI D_d24 dint_zero _) rfl ?_
                    refine g_if C X16 at_168 (pc' := 180) (pc'' := 171) (by decide) (by decide) rfl (fun c168 => ?_) (fun c168 => ?_)
                    · have c168 : ¬ ((cmpI (-p0.toInt) 0).toInt = 0) := c168
                      have c168 : ¬ (-p0.toInt = 0) := fun q => c168 ((cmpI_eq _ _).mpr q)
                      refine g_dload C X16 (pc' := 182) at_180 rfl rfl ?_
                      refine g_dconst0 C X16 (pc' := 183) at_182 rfl rfl ?_
                      rw [kk_5]
                      refine g_dcmpV C X16 (pc' := 184) at_183 (dcmp_cmpI D_d24 dint_zero _) rfl ?_
                      refine g_ifN C X16 at_184 (fun q => q ((cmpI_lt _ _).mpr c152)) rfl ?_
                      refine g_dload C X16 (pc' := 189) at_187 rfl rfl ?_
                      refine g_dneg C X16 (pc' := 190) at_189 rfl ?_
                      refine g_goto C X16 at_190 (pc' := 195) (by decide) (by decide) ?_
                      obtain ⟨d45, e_d45⟩ : ∃ z : UInt64, z = FP.dneg d24 := ⟨_, rfl⟩
                      have D_d45 : FP.Core.DInt (-(-p0.toInt)) d45 := e_d45 ▸ (dneg_int' D_d24)
                      refine g_dstore C X16 (pc' := 197) at_195 (x := d45) e_d45 (l' := #[.val (.int p0), .val (.int p1), .val (.int p2), .val (.int p3), .val (.double d24), .second, .val (.double d36), .second, .val (.ref a13), .val (.double r16), .second, .val (.double d45), .second]) rfl rfl ?_
                      have Rq := Rr
                      obtain ⟨-, R1, R2, R3, R4, R5, R6⟩ := Rq
                      have zac : dz d45 = -dz d24 := by rw [e_d45]; exact dz_dneg _
                      refine g_dload C X16 (pc' := 199) at_197 rfl rfl ?_
                      refine g_dload C X16 (pc' := 201) at_199 rfl rfl ?_
                      refine g_dcmpV C X16 (pc' := 202) at_201 (dcmp_dz Rr.1 (nn_of_int D_d45) _) rfl ?_
                      refine g_if C X16 at_202 (pc' := 218) (pc'' := 205) (by decide) (by decide) rfl (fun c202 => ?_) (fun c202 => ?_)
                      · have c202 : 0 < (cmpI (dz r16) (dz d45)).toInt := c202
                        have c202 : dz d45 < dz r16 := (cmpI_gt _ _).mp c202
                        refine g_iconst C X16 (pc' := 219) at_218 (v := (0 : Int32)) (by decide) rfl ?_
                        exfalso; omega
                      · have c202 : ¬ (0 < (cmpI (dz r16) (dz d45)).toInt) := c202
                        have c202 : ¬ (dz d45 < dz r16) := fun q => c202 ((cmpI_gt _ _).mpr q)
                        refine g_dload C X16 (pc' := 207) at_205 rfl rfl ?_
                        refine g_dneg C X16 (pc' := 208) at_207 rfl ?_
                        refine g_dload C X16 (pc' := 210) at_208 rfl rfl ?_
                        refine g_dcmpV C X16 (pc' := 211) at_210 (own_cn Rr.1 (nn_of_int D_d45) _) rfl ?_
                        refine g_if C X16 at_211 (pc' := 218) (pc'' := 214) (by decide) (by decide) rfl (fun c211 => ?_) (fun c211 => ?_)
                        · have c211 : 0 < (cmpI (-dz r16) (dz d45)).toInt := c211
                          have c211 : dz d45 < -dz r16 := (cmpI_gt _ _).mp c211
                          refine g_iconst C X16 (pc' := 219) at_218 (v := (0 : Int32)) (by decide) rfl ?_
                          exfalso; omega
                        · have c211 : ¬ (0 < (cmpI (-dz r16) (dz d45)).toInt) := c211
                          have c211 : ¬ (dz d45 < -dz r16) := fun q => c211 ((cmpI_gt _ _).mpr q)
                          refine g_iconst C X16 (pc' := 215) at_214 (v := (1 : Int32)) (by decide) rfl ?_
                          refine g_goto C X16 at_215 (pc' := 219) (by decide) (by decide) ?_
                          exact g_zreturnW C X16 S14 e16 Y14 at_219 (w := 1) (by decide) ⟨rfl, N15⟩ (by decide) (by decide)
                    · have c168 : (cmpI (-p0.toInt) 0).toInt = 0 := Decidable.not_not.mp c168
                      have c168 : -p0.toInt = 0 := (cmpI_eq _ _).mp c168
                      refine g_dload C X16 (pc' := 173) at_171 rfl rfl ?_
                      refine g_dconst0 C X16 (pc' := 174) at_173 rfl rfl ?_
                      rw [kk_5]
                      refine g_dcmpV C X16 (pc' := 175) at_174 (own_c0 Rr.1 _) rfl ?_
                      refine g_if C X16 at_175 (pc' := 180) (pc'' := 178) (by decide) (by decide) rfl (fun c175 => ?_) (fun c175 => ?_)
                      · have c175 : (cmpI (dz r16) 0).toInt = 0 := c175
                        have c175 : dz r16 = 0 := (cmpI_eq _ _).mp c175
                        refine g_dload C X16 (pc' := 182) at_180 rfl rfl ?_
                        refine g_dconst0 C X16 (pc' := 183) at_182 rfl rfl ?_
                        rw [kk_5]
                        refine g_dcmpV C X16 (pc' := 184) at_183 (dcmp_cmpI D_d24 dint_zero _) rfl ?_
                        refine g_ifN C X16 at_184 (fun q => q ((cmpI_lt _ _).mpr c152)) rfl ?_
                        refine g_dload C X16 (pc' := 189) at_187 rfl rfl ?_
                        refine g_dneg C X16 (pc' := 190) at_189 rfl ?_
                        refine g_goto C X16 at_190 (pc' := 195) (by decide) (by decide) ?_
                        obtain ⟨d46, e_d46⟩ : ∃ z : UInt64, z = FP.dneg d24 := ⟨_, rfl⟩
                        have D_d46 : FP.Core.DInt (-(-p0.toInt)) d46 := e_d46 ▸ (dneg_int' D_d24)
                        refine g_dstore C X16 (pc' := 197) at_195 (x := d46) e_d46 (l' := #[.val (.int p0), .val (.int p1), .val (.int p2), .val (.int p3), .val (.double d24), .second, .val (.double d36), .second, .val (.ref a13), .val (.double r16), .second, .val (.double d46), .second]) rfl rfl ?_
                        have Rq := Rr
                        obtain ⟨-, R1, R2, R3, R4, R5, R6⟩ := Rq
                        have zac : dz d46 = -dz d24 := by rw [e_d46]; exact dz_dneg _
                        refine g_dload C X16 (pc' := 199) at_197 rfl rfl ?_
                        refine g_dload C X16 (pc' := 201) at_199 rfl rfl ?_
                        refine g_dcmpV C X16 (pc' := 202) at_201 (dcmp_dz Rr.1 (nn_of_int D_d46) _) rfl ?_
                        refine g_if C X16 at_202 (pc' := 218) (pc'' := 205) (by decide) (by decide) rfl (fun c202 => ?_) (fun c202 => ?_)
                        · have c202 : 0 < (cmpI (dz r16) (dz d46)).toInt := c202
                          have c202 : dz d46 < dz r16 := (cmpI_gt _ _).mp c202
                          refine g_iconst C X16 (pc' := 219) at_218 (v := (0 : Int32)) (by decide) rfl ?_
                          exfalso; omega
                        · have c202 : ¬ (0 < (cmpI (dz r16) (dz d46)).toInt) := c202
                          have c202 : ¬ (dz d46 < dz r16) := fun q => c202 ((cmpI_gt _ _).mpr q)
                          refine g_dload C X16 (pc' := 207) at_205 rfl rfl ?_
                          refine g_dneg C X16 (pc' := 208) at_207 rfl ?_
                          refine g_dload C X16 (pc' := 210) at_208 rfl rfl ?_
                          refine g_dcmpV C X16 (pc' := 211) at_210 (own_cn Rr.1 (nn_of_int D_d46) _) rfl ?_
                          refine g_if C X16 at_211 (pc' := 218) (pc'' := 214) (by decide) (by decide) rfl (fun c211 => ?_) (fun c211 => ?_)
                          · have c211 : 0 < (cmpI (-dz r16) (dz d46)).toInt := c211
                            have c211 : dz d46 < -dz r16 := (cmpI_gt _ _).mp c211
                            refine g_iconst C X16 (pc' := 219) at_218 (v := (0 : Int32)) (by decide) rfl ?_
                            exfalso; omega
                          · have c211 : ¬ (0 < (cmpI (-dz r16) (dz d46)).toInt) := c211
                            have c211 : ¬ (dz d46 < -dz r16) := fun q => c211 ((cmpI_gt _ _).mpr q)
                            refine g_iconst C X16 (pc' := 215) at_214 (v := (1 : Int32)) (by decide) rfl ?_
                            refine g_goto C X16 at_215 (pc' := 219) (by decide) (by decide) ?_
                            exact g_zreturnW C X16 S14 e16 Y14 at_219 (w := 1) (by decide) ⟨rfl, N15⟩ (by decide) (by decide)
                      · have c175 : ¬ ((cmpI (dz r16) 0).toInt = 0) := c175
                        have c175 : ¬ (dz r16 = 0) := fun q => c175 ((cmpI_eq _ _).mpr q)
                        refine g_iconst C X16 (pc' := 179) at_178 (v := (0 : Int32)) (by decide) rfl ?_
                        exfalso; omega
                  · have c159 : ¬ ((cmpI (dz r16) 0).toInt < 0) := c159
                    have c159 : ¬ (dz r16 < 0) := fun q => c159 ((cmpI_lt _ _).mpr q)
                    refine g_iconst C X16 (pc' := 163) at_162 (v := (0 : Int32)) (by decide) rfl ?_
                    exfalso; omega
              · have c143 : ¬ (0 < (cmpI (dz r16) 0).toInt) := c143
                have c143 : ¬ (0 < dz r16) := fun q => c143 ((cmpI_gt _ _).mpr q)
                refine g_iconst C X16 (pc' := 147) at_146 (v := (0 : Int32)) (by decide) rfl ?_
                exfalso; omega
        · rw [show FP.dconst1 = (4607182418800017408 : UInt64) from by decide +kernel]
          show Go p.tables e below _ T16 (mkF m 113 #[.val (.int p0), .val (.int p1), .val (.int p2), .val (.int p3), .val (.double d24), .second, .val (.double d36), .second, .val (.ref a13), .unset, .unset, .unset, .unset] [(.double (4607182418800017408 : UInt64))])
          refine g_dstore C X16 (pc' := 115) at_113 (x := (4607182418800017408 : UInt64)) rfl (l' := #[.val (.int p0), .val (.int p1), .val (.int p2), .val (.int p3), .val (.double d24), .second, .val (.double d36), .second, .val (.ref a13), .val (.double (4607182418800017408 : UInt64)), .second, .unset, .unset]) rfl rfl ?_
          refine g_dload C X16 (pc' := 117) at_115 rfl rfl ?_
          refine g_dconst0 C X16 (pc' := 118) at_117 rfl rfl ?_
          rw [kk_5]
          refine g_dcmpV C X16 (pc' := 119) at_118 (dcmp_cmpI D_d36 dint_zero _) rfl ?_
          refine g_if C X16 at_119 (pc' := 220) (pc'' := 122) (by decide) (by decide) rfl (fun c119 => ?_) (fun c119 => ?_)
          · have c119 : ¬ (0 < (cmpI (-p1.toInt) 0).toInt) := c119
            have c119 : ¬ (0 < -p1.toInt) := fun q => c119 ((cmpI_gt _ _).mpr q)
            refine g_dload C X16 (pc' := 222) at_220 rfl rfl ?_
            refine g_dconst0 C X16 (pc' := 223) at_222 rfl rfl ?_
            rw [kk_5]
            refine g_dcmpV C X16 (pc' := 224) at_223 (dcmp_cmpI D_d36 dint_zero _) rfl ?_
            refine g_if C X16 at_224 (pc' := 247) (pc'' := 227) (by decide) (by decide) rfl (fun c224 => ?_) (fun c224 => ?_)
            · have c224 : ¬ ((cmpI (-p1.toInt) 0).toInt = 0) := c224
              have c224 : ¬ (-p1.toInt = 0) := fun q => c224 ((cmpI_eq _ _).mpr q)
              refine g_dload C X16 (pc' := 249) at_247 rfl rfl ?_
              refine g_dload C X16 (pc' := 251) at_249 rfl rfl ?_
              refine g_dcmpV C X16 (pc' := 252) at_251 (v := (0 : Int32)) kk_7 rfl ?_
              refine g_ifY C X16 at_252 (pc' := 259) (by decide) (by decide) (by decide) ?_
              refine g_iconst C X16 (pc' := 260) at_259 (v := (0 : Int32)) (by decide) rfl ?_
              exfalso; omega
            · have c224 : (cmpI (-p1.toInt) 0).toInt = 0 := Decidable.not_not.mp c224
              have c224 : -p1.toInt = 0 := (cmpI_eq _ _).mp c224
              refine g_dload C X16 (pc' := 229) at_227 rfl rfl ?_
              refine g_dconst0 C X16 (pc' := 230) at_229 rfl rfl ?_
              rw [kk_5]
              refine g_dcmpV C X16 (pc' := 231) at_230 (dcmp_cmpI D_d24 dint_zero _) rfl ?_
              refine g_if C X16 at_231 (pc' := 247) (pc'' := 234) (by decide) (by decide) rfl (fun c231 => ?_) (fun c231 => ?_)
              · have c231 : ¬ ((cmpI (-p0.toInt) 0).toInt = 0) := c231
                have c231 : ¬ (-p0.toInt = 0) := fun q => c231 ((cmpI_eq _ _).mpr q)
                refine g_dload C X16 (pc' := 249) at_247 rfl rfl ?_
                refine g_dload C X16 (pc' := 251) at_249 rfl rfl ?_
                refine g_dcmpV C X16 (pc' := 252) at_251 (v := (0 : Int32)) kk_7 rfl ?_
                refine g_ifY C X16 at_252 (pc' := 259) (by decide) (by decide) (by decide) ?_
                refine g_iconst C X16 (pc' := 260) at_259 (v := (0 : Int32)) (by decide) rfl ?_
                exfalso; omega
              · have c231 : (cmpI (-p0.toInt) 0).toInt = 0 := Decidable.not_not.mp c231
                have c231 : -p0.toInt = 0 := (cmpI_eq _ _).mp c231
                refine g_dload C X16 (pc' := 236) at_234 rfl rfl ?_
                refine g_dconst1 C X16 (pc' := 237) at_236 rfl rfl ?_
                rw [kk_6]
                refine g_dcmpV C X16 (pc' := 238) at_237 (v := (0 : Int32)) kk_7 rfl ?_
                refine g_ifN C X16 at_238 (by decide) rfl ?_
                refine g_iconst C X16 (pc' := 242) at_241 (v := (1 : Int32)) (by decide) rfl ?_
                refine g_goto C X16 at_242 (pc' := 246) (by decide) (by decide) ?_
                exact g_zreturnW C X16 S14 e16 Y14 at_246 (w := 1) (by decide) ⟨rfl, N15⟩ (by decide) (by decide)
          · have c119 : 0 < (cmpI (-p1.toInt) 0).toInt := Decidable.not_not.mp c119
            have c119 : 0 < -p1.toInt := (cmpI_gt _ _).mp c119
            refine g_dload C X16 (pc' := 124) at_122 rfl rfl ?_
            refine g_dload C X16 (pc' := 126) at_124 rfl rfl ?_
            refine g_dcmpV C X16 (pc' := 127) at_126 (v := (0 : Int32)) kk_7 rfl ?_
            refine g_ifY C X16 at_127 (pc' := 132) (by decide) (by decide) (by decide) ?_
            refine g_dload C X16 (pc' := 134) at_132 rfl rfl ?_
            refine g_dconst0 C X16 (pc' := 135) at_134 rfl rfl ?_
            rw [kk_5]
            refine g_dcmpV C X16 (pc' := 136) at_135 (dcmp_cmpI D_d24 dint_zero _) rfl ?_
            refine g_if C X16 at_136 (pc' := 148) (pc'' := 139) (by decide) (by decide) rfl (fun c136 => ?_) (fun c136 => ?_)
            · have c136 : ¬ (0 < (cmpI (-p0.toInt) 0).toInt) := c136
              have c136 : ¬ (0 < -p0.toInt) := fun q => c136 ((cmpI_gt _ _).mpr q)
              refine g_dload C X16 (pc' := 150) at_148 rfl rfl ?_
              refine g_dconst0 C X16 (pc' := 151) at_150 rfl rfl ?_
              rw [kk_5]
              refine g_dcmpV C X16 (pc' := 152) at_151 (dcmp_cmpI D_d24 dint_zero _) rfl ?_
              refine g_if C X16 at_152 (pc' := 164) (pc'' := 155) (by decide) (by decide) rfl (fun c152 => ?_) (fun c152 => ?_)
              · have c152 : ¬ ((cmpI (-p0.toInt) 0).toInt < 0) := c152
                have c152 : ¬ (-p0.toInt < 0) := fun q => c152 ((cmpI_lt _ _).mpr q)
                refine g_dload C X16 (pc' := 166) at_164 rfl rfl ?_
                refine g_dconst0 C X16 (pc' := 167) at_166 rfl rfl ?_
                rw [kk_5]
                refine g_dcmpV C X16 (pc' := 168) at_167 (dcmp_cmpI D_d24 dint_zero _) rfl ?_
                refine g_if C X16 at_168 (pc' := 180) (pc'' := 171) (by decide) (by decide) rfl (fun c168 => ?_) (fun c168 => ?_)
                · have c168 : ¬ ((cmpI (-p0.toInt) 0).toInt = 0) := c168
                  have c168 : ¬ (-p0.toInt = 0) := fun q => c168 ((cmpI_eq _ _).mpr q)
                  refine g_dload C X16 (pc' := 182) at_180 rfl rfl ?_
                  refine g_dconst0 C X16 (pc' := 183) at_182 rfl rfl ?_
                  rw [kk_5]
                  refine g_dcmpV C X16 (pc' := 184) at_183 (dcmp_cmpI D_d24 dint_zero _) rfl ?_
                  refine g_ifY C X16 at_184 (pc' := 193) (by decide) (by decide) (fun q => c152 ((cmpI_lt _ _).mp q)) ?_
                  refine g_dload C X16 (pc' := 195) at_193 rfl rfl ?_
                  refine g_dstore C X16 (pc' := 197) at_195 (x := d24) rfl (l' := #[.val (.int p0), .val (.int p1), .val (.int p2), .val (.int p3), .val (.double d24), .second, .val (.double d36), .second, .val (.ref a13), .val (.double (4607182418800017408 : UInt64)), .second, .val (.double d24), .second]) rfl rfl ?_
                  refine g_dload C X16 (pc' := 199) at_197 rfl rfl ?_
                  refine g_dload C X16 (pc' := 201) at_199 rfl rfl ?_
                  refine g_dcmpV C X16 (pc' := 202) at_201 (dcmp_cmpI dint_one' D_d24 _) rfl ?_
                  refine g_if C X16 at_202 (pc' := 218) (pc'' := 205) (by decide) (by decide) rfl (fun c202 => ?_) (fun c202 => ?_)
                  · have c202 : 0 < (cmpI 1 (-p0.toInt)).toInt := c202
                    have c202 : -p0.toInt < 1 := (cmpI_gt _ _).mp c202
                    refine g_iconst C X16 (pc' := 219) at_218 (v := (0 : Int32)) (by decide) rfl ?_
                    exfalso; omega
                  · have c202 : ¬ (0 < (cmpI 1 (-p0.toInt)).toInt) := c202
                    have c202 : ¬ (-p0.toInt < 1) := fun q => c202 ((cmpI_gt _ _).mpr q)
                    refine g_dload C X16 (pc' := 207) at_205 rfl rfl ?_
                    refine g_dneg C X16 (pc' := 208) at_207 rfl ?_
                    refine g_dload C X16 (pc' := 210) at_208 rfl rfl ?_
                    refine g_dcmpV C X16 (pc' := 211) at_210 (dcmp_cmpI (dneg_int' dint_one') D_d24 _) rfl ?_
                    refine g_if C X16 at_211 (pc' := 218) (pc'' := 214) (by decide) (by decide) rfl (fun c211 => ?_) (fun c211 => ?_)
                    · have c211 : 0 < (cmpI (-1) (-p0.toInt)).toInt := c211
                      have c211 : -p0.toInt < -1 := (cmpI_gt _ _).mp c211
                      refine g_iconst C X16 (pc' := 219) at_218 (v := (0 : Int32)) (by decide) rfl ?_
                      exfalso; omega
                    · have c211 : ¬ (0 < (cmpI (-1) (-p0.toInt)).toInt) := c211
                      have c211 : ¬ (-p0.toInt < -1) := fun q => c211 ((cmpI_gt _ _).mpr q)
                      refine g_iconst C X16 (pc' := 215) at_214 (v := (1 : Int32)) (by decide) rfl ?_
                      refine g_goto C X16 at_215 (pc' := 219) (by decide) (by decide) ?_
                      exact g_zreturnW C X16 S14 e16 Y14 at_219 (w := 1) (by decide) ⟨rfl, N15⟩ (by decide) (by decide)
                · have c168 : (cmpI (-p0.toInt) 0).toInt = 0 := Decidable.not_not.mp c168
                  have c168 : -p0.toInt = 0 := (cmpI_eq _ _).mp c168
                  refine g_dload C X16 (pc' := 173) at_171 rfl rfl ?_
                  refine g_dconst0 C X16 (pc' := 174) at_173 rfl rfl ?_
                  rw [kk_5]
                  refine g_dcmpV C X16 (pc' := 175) at_174 (v := (1 : Int32)) kk_8 rfl ?_
                  refine g_ifN C X16 at_175 (by decide) rfl ?_
                  refine g_iconst C X16 (pc' := 179) at_178 (v := (0 : Int32)) (by decide) rfl ?_
                  exfalso; omega
              · have c152 : (cmpI (-p0.toInt) 0).toInt < 0 := Decidable.not_not.mp c152
                have c152 : -p0.toInt < 0 := (cmpI_lt _ _).mp c152
                refine g_dload C X16 (pc' := 157) at_155 rfl rfl ?_
                refine g_dconst0 C X16 (pc' := 158) at_157 rfl rfl ?_
                rw [kk_5]
                refine g_dcmpV C X16 (pc' := 159) at_158 (v := (1 : Int32)) kk_9 rfl ?_
                refine g_ifN C X16 at_159 (by decide) rfl ?_
                refine g_iconst C X16 (pc' := 163) at_162 (v := (0 : Int32)) (by decide) rfl ?_
                exfalso; omega
            · have c136 : 0 < (cmpI (-p0.toInt) 0).toInt := Decidable.not_not.mp c136
              have c136 : 0 < -p0.toInt := (cmpI_gt _ _).mp c136
              refine g_dload C X16 (pc' := 141) at_139 rfl rfl ?_
              refine g_dconst0 C X16 (pc' := 142) at_141 rfl rfl ?_
              rw [kk_5]
              refine g_dcmpV C X16 (pc' := 143) at_142 (v := (1 : Int32)) kk_8 rfl ?_
              refine g_ifY C X16 at_143 (pc' := 148) (by decide) (by decide) (by decide) ?_
              refine g_dload C X16 (pc' := 150) at_148 rfl rfl ?_
              refine g_dconst0 C X16 (pc' := 151) at_150 rfl rfl ?_
              rw [kk_5]
              refine g_dcmpV C X16 (pc' := 152) at_151 (dcmp_cmpI D_d24 dint_zero _) rfl ?_
              refine g_if C X16 at_152 (pc' := 164) (pc'' := 155) (by decide) (by decide) rfl (fun c152 => ?_) (fun c152 => ?_)
              · have c152 : ¬ ((cmpI (-p0.toInt) 0).toInt < 0) := c152
                have c152 : ¬ (-p0.toInt < 0) := fun q => c152 ((cmpI_lt _ _).mpr q)
                refine g_dload C X16 (pc' := 166) at_164 rfl rfl ?_
                refine g_dconst0 C X16 (pc' := 167) at_166 rfl rfl ?_
                rw [kk_5]
                refine g_dcmpV C X16 (pc' := 168) at_167 (dcmp_cmpI D_d24 dint_zero _) rfl ?_
                refine g_if C X16 at_168 (pc' := 180) (pc'' := 171) (by decide) (by decide) rfl (fun c168 => ?_) (fun c168 => ?_)
                · have c168 : ¬ ((cmpI (-p0.toInt) 0).toInt = 0) := c168
                  have c168 : ¬ (-p0.toInt = 0) := fun q => c168 ((cmpI_eq _ _).mpr q)
                  refine g_dload C X16 (pc' := 182) at_180 rfl rfl ?_
                  refine g_dconst0 C X16 (pc' := 183) at_182 rfl rfl ?_
                  rw [kk_5]
                  refine g_dcmpV C X16 (pc' := 184) at_183 (dcmp_cmpI D_d24 dint_zero _) rfl ?_
                  refine g_ifY C X16 at_184 (pc' := 193) (by decide) (by decide) (fun q => c152 ((cmpI_lt _ _).mp q)) ?_
                  refine g_dload C X16 (pc' := 195) at_193 rfl rfl ?_
                  refine g_dstore C X16 (pc' := 197) at_195 (x := d24) rfl (l' := #[.val (.int p0), .val (.int p1), .val (.int p2), .val (.int p3), .val (.double d24), .second, .val (.double d36), .second, .val (.ref a13), .val (.double (4607182418800017408 : UInt64)), .second, .val (.double d24), .second]) rfl rfl ?_
                  refine g_dload C X16 (pc' := 199) at_197 rfl rfl ?_
                  refine g_dload C X16 (pc' := 201) at_199 rfl rfl ?_
                  refine g_dcmpV C X16 (pc' := 202) at_201 (dcmp_cmpI dint_one' D_d24 _) rfl ?_
                  refine g_if C X16 at_202 (pc' := 218) (pc'' := 205) (by decide) (by decide) rfl (fun c202 => ?_) (fun c202 => ?_)
                  · have c202 : 0 < (cmpI 1 (-p0.toInt)).toInt := c202
                    have c202 : -p0.toInt < 1 := (cmpI_gt _ _).mp c202
                    refine g_iconst C X16 (pc' := 219) at_218 (v := (0 : Int32)) (by decide) rfl ?_
                    exfalso; omega
                  · have c202 : ¬ (0 < (cmpI 1 (-p0.toInt)).toInt) := c202
                    have c202 : ¬ (-p0.toInt < 1) := fun q => c202 ((cmpI_gt _ _).mpr q)
                    refine g_dload C X16 (pc' := 207) at_205 rfl rfl ?_
                    refine g_dneg C X16 (pc' := 208) at_207 rfl ?_
                    refine g_dload C X16 (pc' := 210) at_208 rfl rfl ?_
                    refine g_dcmpV C X16 (pc' := 211) at_210 (dcmp_cmpI (dneg_int' dint_one') D_d24 _) rfl ?_
                    refine g_if C X16 at_211 (pc' := 218) (pc'' := 214) (by decide) (by decide) rfl (fun c211 => ?_) (fun c211 => ?_)
                    · have c211 : 0 < (cmpI (-1) (-p0.toInt)).toInt := c211
                      have c211 : -p0.toInt < -1 := (cmpI_gt _ _).mp c211
                      refine g_iconst C X16 (pc' := 219) at_218 (v := (0 : Int32)) (by decide) rfl ?_
                      exfalso; omega
                    · have c211 : ¬ (0 < (cmpI (-1) (-p0.toInt)).toInt) := c211
                      have c211 : ¬ (-p0.toInt < -1) := fun q => c211 ((cmpI_gt _ _).mpr q)
                      refine g_iconst C X16 (pc' := 215) at_214 (v := (1 : Int32)) (by decide) rfl ?_
                      refine g_goto C X16 at_215 (pc' := 219) (by decide) (by decide) ?_
                      exact g_zreturnW C X16 S14 e16 Y14 at_219 (w := 1) (by decide) ⟨rfl, N15⟩ (by decide) (by decide)
                · have c168 : (cmpI (-p0.toInt) 0).toInt = 0 := Decidable.not_not.mp c168
                  have c168 : -p0.toInt = 0 := (cmpI_eq _ _).mp c168
                  refine g_dload C X16 (pc' := 173) at_171 rfl rfl ?_
                  refine g_dconst0 C X16 (pc' := 174) at_173 rfl rfl ?_
                  rw [kk_5]
                  refine g_dcmpV C X16 (pc' := 175) at_174 (v := (1 : Int32)) kk_8 rfl ?_
                  refine g_ifN C X16 at_175 (by decide) rfl ?_
                  refine g_iconst C X16 (pc' := 179) at_178 (v := (0 : Int32)) (by decide) rfl ?_
                  exfalso; omega
              · have c152 : (cmpI (-p0.toInt) 0).toInt < 0 := Decidable.not_not.mp c152
                have c152 : -p0.toInt < 0 := (cmpI_lt _ _).mp c152
                refine g_dload C X16 (pc' := 157) at_155 rfl rfl ?_
                refine g_dconst0 C X16 (pc' := 158) at_157 rfl rfl ?_
                rw [kk_5]
                refine g_dcmpV C X16 (pc' := 159) at_158 (v := (1 : Int32)) kk_9 rfl ?_
                refine g_ifN C X16 at_159 (by decide) rfl ?_
                refine g_iconst C X16 (pc' := 163) at_162 (v := (0 : Int32)) (by decide) rfl ?_
                exfalso; omega
        · show Go p.tables e below _ T16 (mkF m 113 #[.val (.int p0), .val (.int p1), .val (.int p2), .val (.int p3), .val (.double d24), .second, .val (.double d36), .second, .val (.ref a13), .unset, .unset, .unset, .unset] [(.double (9221120237041090560 : UInt64))])
          refine g_dstore C X16 (pc' := 115) at_113 (x := (9221120237041090560 : UInt64)) rfl (l' := #[.val (.int p0), .val (.int p1), .val (.int p2), .val (.int p3), .val (.double d24), .second, .val (.double d36), .second, .val (.ref a13), .val (.double (9221120237041090560 : UInt64)), .second, .unset, .unset]) rfl rfl ?_
          refine g_dload C X16 (pc' := 117) at_115 rfl rfl ?_
          refine g_dconst0 C X16 (pc' := 118) at_117 rfl rfl ?_
          rw [kk_5]
          refine g_dcmpV C X16 (pc' := 119) at_118 (dcmp_cmpI D_d36 dint_zero _) rfl ?_
          refine g_if C X16 at_119 (pc' := 220) (pc'' := 122) (by decide) (by decide) rfl (fun c119 => ?_) (fun c119 => ?_)
          · have c119 : ¬ (0 < (cmpI (-p1.toInt) 0).toInt) := c119
            have c119 : ¬ (0 < -p1.toInt) := fun q => c119 ((cmpI_gt _ _).mpr q)
            refine g_dload C X16 (pc' := 222) at_220 rfl rfl ?_
            refine g_dconst0 C X16 (pc' := 223) at_222 rfl rfl ?_
            rw [kk_5]
            refine g_dcmpV C X16 (pc' := 224) at_223 (dcmp_cmpI D_d36 dint_zero _) rfl ?_
            refine g_if C X16 at_224 (pc' := 247) (pc'' := 227) (by decide) (by decide) rfl (fun c224 => ?_) (fun c224 => ?_)
            · have c224 : ¬ ((cmpI (-p1.toInt) 0).toInt = 0) := c224
              have c224 : ¬ (-p1.toInt = 0) := fun q => c224 ((cmpI_eq _ _).mpr q)
              refine g_dload C X16 (pc' := 249) at_247 rfl rfl ?_
              refine g_dload C X16 (pc' := 251) at_249 rfl rfl ?_
              refine g_dcmpV C X16 (pc' := 252) at_251 (v := (-1 : Int32)) kk_10 rfl ?_
              refine g_ifN C X16 at_252 (by decide) rfl ?_
              refine g_iconst C X16 (pc' := 256) at_255 (v := (1 : Int32)) (by decide) rfl ?_
              refine g_goto C X16 at_256 (pc' := 260) (by decide) (by decide) ?_
              exact g_zreturnW C X16 S14 e16 Y14 at_260 (w := 1) (by decide) ⟨rfl, N15⟩ (by decide) (by decide)
            · have c224 : (cmpI (-p1.toInt) 0).toInt = 0 := Decidable.not_not.mp c224
              have c224 : -p1.toInt = 0 := (cmpI_eq _ _).mp c224
              refine g_dload C X16 (pc' := 229) at_227 rfl rfl ?_
              refine g_dconst0 C X16 (pc' := 230) at_229 rfl rfl ?_
              rw [kk_5]
              refine g_dcmpV C X16 (pc' := 231) at_230 (dcmp_cmpI D_d24 dint_zero _) rfl ?_
              refine g_if C X16 at_231 (pc' := 247) (pc'' := 234) (by decide) (by decide) rfl (fun c231 => ?_) (fun c231 => ?_)
              · have c231 : ¬ ((cmpI (-p0.toInt) 0).toInt = 0) := c231
                have c231 : ¬ (-p0.toInt = 0) := fun q => c231 ((cmpI_eq _ _).mpr q)
                refine g_dload C X16 (pc' := 249) at_247 rfl rfl ?_
                refine g_dload C X16 (pc' := 251) at_249 rfl rfl ?_
                refine g_dcmpV C X16 (pc' := 252) at_251 (v := (-1 : Int32)) kk_10 rfl ?_
                refine g_ifN C X16 at_252 (by decide) rfl ?_
                refine g_iconst C X16 (pc' := 256) at_255 (v := (1 : Int32)) (by decide) rfl ?_
                refine g_goto C X16 at_256 (pc' := 260) (by decide) (by decide) ?_
                exact g_zreturnW C X16 S14 e16 Y14 at_260 (w := 1) (by decide) ⟨rfl, N15⟩ (by decide) (by decide)
              · have c231 : (cmpI (-p0.toInt) 0).toInt = 0 := Decidable.not_not.mp c231
                have c231 : -p0.toInt = 0 := (cmpI_eq _ _).mp c231
                refine g_dload C X16 (pc' := 236) at_234 rfl rfl ?_
                refine g_dconst1 C X16 (pc' := 237) at_236 rfl rfl ?_
                rw [kk_6]
                refine g_dcmpV C X16 (pc' := 238) at_237 (v := (-1 : Int32)) kk_11 rfl ?_
                refine g_ifY C X16 at_238 (pc' := 245) (by decide) (by decide) (by decide) ?_
                refine g_iconst C X16 (pc' := 246) at_245 (v := (0 : Int32)) (by decide) rfl ?_
                exfalso; omega
          · have c119 : 0 < (cmpI (-p1.toInt) 0).toInt := Decidable.not_not.mp c119
            have c119 : 0 < -p1.toInt := (cmpI_gt _ _).mp c119
            refine g_dload C X16 (pc' := 124) at_122 rfl rfl ?_
            refine g_dload C X16 (pc' := 126) at_124 rfl rfl ?_
            refine g_dcmpV C X16 (pc' := 127) at_126 (v := (-1 : Int32)) kk_10 rfl ?_
            refine g_ifN C X16 at_127 (by decide) rfl ?_
            refine g_iconst C X16 (pc' := 131) at_130 (v := (0 : Int32)) (by decide) rfl ?_
            exfalso; omega
  · have c3 : (p3 &&& (3 : Int32)).toInt = 0 := Decidable.not_not.mp c3
    refine g_iloadN C X0 (pc' := 7) at_6 rfl rfl ?_
    refine g_ldcI C X0 (pc' := 9) (hw _ (List.mem_of_getElem? (i := 36) rfl)) at_7 rfl ?_
    refine g_iand C X0 (pc' := 10) at_9 rfl ?_
    refine g_i2l C X0 (pc' := 11) at_10 rfl ?_
    refine g_lconst C X0 (pc' := 12) at_11 (v := (1 : Int64)) (by decide) rfl ?_
    refine g_ladd C X0 (pc' := 13) at_12 rfl ?_
    obtain ⟨j47, e_j47⟩ : ∃ z : Int64, z = ((p1 &&& (1048575 : Int32)).toInt64) + (1 : Int64) := ⟨_, rfl⟩
    refine g_lstore C X0 (pc' := 15) at_13 (x := j47) e_j47 (l' := #[.val (.int p0), .val (.int p1), .val (.int p2), .val (.int p3), .val (.long j47), .second, .unset, .unset, .unset, .unset, .unset, .unset, .unset]) rfl rfl ?_
    have bb : 1 ≤ j47.toInt ∧ j47.toInt ≤ 1048576 := by
      rw [e_j47]
      have q := c_and p1 1048575 (by decide)
      have q2 : (1048575 : Int32).toInt = 1048575 := by decide
      have q3 := c_ladd (p1 &&& 1048575).toInt64 1
      have q4 := rng64 ((p1 &&& 1048575).toInt64 + 1)
      rw [c_i2l] at q3
      have q5 : (1 : Int64).toInt = 1 := by decide
      omega
    refine g_iloadN C X0 (pc' := 16) at_15 rfl rfl ?_
    refine g_i2l C X0 (pc' := 17) at_16 rfl ?_
    refine g_lload C X0 (pc' := 19) at_17 rfl rfl ?_
    refine g_lmul C X0 (pc' := 20) at_19 rfl ?_
    have rk := own_b32 p2
    have mk : -2251799813685248 ≤ p2.toInt * j47.toInt ∧ p2.toInt * j47.toInt ≤ 2251799813685248 := own_m (X := 2147483648) (Y := 1048576) (by omega) (by omega) (by omega) (by omega)
    have em : (p2.toInt64 * j47).toInt = p2.toInt * j47.toInt := by rw [own_mul (by rw [c_i2l]; omega) (by rw [c_i2l]; omega), c_i2l]
    refine g_l2d C X0 (pc' := 21) at_20 rfl ?_
    obtain ⟨d48, e_d48⟩ : ∃ z : UInt64, z = FP.l2d (p2.toInt64 * j47) := ⟨_, rfl⟩
    have D_d48 : FP.Core.DInt ((p2.toInt64 * j47).toInt) d48 := e_d48 ▸ (l2d_D (by rw [em]; show _ ≤ 9007199254740992; omega))
    refine g_dstore C X0 (pc' := 23) at_21 (x := d48) e_d48 (l' := #[.val (.int p0), .val (.int p1), .val (.int p2), .val (.int p3), .val (.long j47), .second, .val (.double d48), .second, .unset, .unset, .unset, .unset, .unset]) rfl rfl ?_
    refine g_lload C X0 (pc' := 25) at_23 rfl rfl ?_
    refine g_l2d C X0 (pc' := 26) at_25 rfl ?_
    obtain ⟨d49, e_d49⟩ : ∃ z : UInt64, z = FP.l2d j47 := ⟨_, rfl⟩
    have D_d49 : FP.Core.DInt j47.toInt d49 := e_d49 ▸ (l2d_D (by show _ ≤ 9007199254740992; omega))
    refine g_dstore C X0 (pc' := 28) at_26 (x := d49) e_d49 (l' := #[.val (.int p0), .val (.int p1), .val (.int p2), .val (.int p3), .val (.long j47), .second, .val (.double d48), .second, .val (.double d49), .second, .unset, .unset, .unset]) rfl rfl ?_
    refine g_new C X0 (hw _ (List.mem_of_getElem? (i := 0) rfl)) (hw _ (List.mem_of_getElem? (i := 1) rfl)) (hw _ (List.mem_of_getElem? (i := 2) rfl)) e0 at_28 (by decide) (by decide) rfl ?_
    intro T17 h17 a17 g17 X17 e17 E17 A17 D17
    have z_a17 : n0 ≤ a17 := by rw [g17]; exact Z0
    have Z17 : n0 ≤ h17.size := Nat.le_trans Z0 E17.1
    have F17_1 : Fld Z h17 a17 "com/example/sitewise/sitewise/Solution" "plan" "Lcom/example/sitewise/sitewise/Plan;" .null := D17 (Or.inr (hw _ (List.mem_of_getElem? (i := 21) rfl))) (ty := (.object "com/example/sitewise/sitewise/Plan")) (by decide)
    have F17_2 : Fld Z h17 a17 "com/example/sitewise/sitewise/Solution" "cost" "D" (.double (0 : UInt64)) := D17 (Or.inr (hw _ (List.mem_of_getElem? (i := 23) rfl))) (ty := .double) (by decide)
    have F17_3 : Fld Z h17 a17 "com/example/sitewise/sitewise/Solution" "lowerBound" "D" (.double (0 : UInt64)) := D17 (Or.inr (hw _ (List.mem_of_getElem? (i := 25) rfl))) (ty := .double) (by decide)
    have F17_4 : Fld Z h17 a17 "com/example/sitewise/sitewise/Solution" "guarantee" "Ljava/lang/String;" .null := D17 (Or.inr (hw _ (List.mem_of_getElem? (i := 27) rfl))) (ty := (.object "java/lang/String")) (by decide)
    have F17_5 : Fld Z h17 a17 "com/example/sitewise/sitewise/Solution" "alpha" "[D" .null := D17 (Or.inr (hw _ (List.mem_of_getElem? (i := 29) rfl))) (ty := (.array .double)) (by decide)
    refine g_dup C X17 (pc' := 32) at_31 rfl rfl ?_
    refine g_aconstNull C X17 (pc' := 33) at_32 rfl ?_
    refine g_dload C X17 (pc' := 35) at_33 rfl rfl ?_
    refine g_dload C X17 (pc' := 37) at_35 rfl rfl ?_
    refine g_ldcS1 C X17 (hw _ (List.mem_of_getElem? (i := 3) rfl)) wS e17 at_37 4 (by decide) (by decide) (by decide) (by decide) rfl ?_
    intro a18 T18 h18 k18 C X18 e18 E18 S18 Y18
    have A17 := A17.ext E18
    have F17_1 := F17_1.ext E18
    have F17_2 := F17_2.ext E18
    have F17_3 := F17_3.ext E18
    have F17_4 := F17_4.ext E18
    have F17_5 := F17_5.ext E18
    have Z18 : n0 ≤ h18.size := Nat.le_trans Z17 E18.1
    refine g_callI C X18 (k8_init l Z a0 hw h18 n0 Z18 a17 d48 ((p2.toInt64 * j47).toInt) d49 j47.toInt a18 z_a17  D_d48 D_d49 A17 F17_1 F17_2 F17_3 F17_4 F17_5) rfl (hw _ (List.mem_of_getElem? (i := 11) rfl)) (hw _ (List.mem_of_getElem? (i := 12) rfl)) (hw _ (List.mem_of_getElem? (i := 2) rfl)) (hw _ (List.mem_of_getElem? (i := 13) rfl)) (by decide) e18 at_39 rfl kk_4 a17 [.null, (.double d48), (.double d49), (.ref a18)] [(.ref a17)] rfl rfl rfl 1 rfl (by decide) (by decide) (by decide) (by decide) rfl ?_
    rintro _ T19 L19 X19 ⟨rfl, M19, K19, FF50, FF51, FF52, FF53, FF54, FF55⟩
    have Y18 := Y18.keep K19
    have Z19 : n0 ≤ T19.heap.size := Nat.le_trans Z18 K19.1
    have N19 := Fr.app (Fr.nil n0) M19
    obtain ⟨h19, e19⟩ : ∃ z, T19.heap = z := ⟨_, rfl⟩
    rw [e19] at Y18 FF50 FF51 FF52 FF53 FF54 FF55 Z19
    show Go p.tables e below _ T19 (mkF m 42 #[.val (.int p0), .val (.int p1), .val (.int p2), .val (.int p3), .val (.long j47), .second, .val (.double d48), .second, .val (.double d49), .second, .unset, .unset, .unset] [(.ref a17)])
    refine g_astore C X19 (pc' := 44) at_42 rfl (l' := #[.val (.int p0), .val (.int p1), .val (.int p2), .val (.int p3), .val (.long j47), .second, .val (.double d48), .second, .val (.double d49), .second, .val (.ref a17), .unset, .unset]) rfl rfl ?_
    refine g_aload C X19 (pc' := 46) at_44 rfl rfl rfl ?_
    have hk := em
    have hj := bb.1
    have bk : -2147483648 ≤ p2.toInt ∧ p2.toInt ≤ 2147483648 := by omega
    have hj : 0 < j47.toInt := by omega
    refine g_callV C X19 (c_ratE l Z a0 hw h19 a17 d48 d49 _ _ D_d48 D_d49 FF52 FF53 _ hk hj bk) (hw _ (List.mem_of_getElem? (i := 30) rfl)) (hw _ (List.mem_of_getElem? (i := 31) rfl)) (hw _ (List.mem_of_getElem? (i := 33) rfl)) (hw _ (List.mem_of_getElem? (i := 32) rfl)) (hw _ (List.mem_of_getElem? (i := 2) rfl)) (hw _ (List.mem_of_getElem? (i := 34) rfl)) (by decide) e19 FF50 at_46 rfl pdR [] [] rfl rfl rfl 0 rfl (by decide) (by decide) (by decide) (by decide) rfl ?_
    rintro _ T20 _ X20 ⟨r20, rfl, Dr, rfl, e20⟩
    rw [List.append_nil] at X20
    show Go p.tables e below _ T20 (mkF m 49 #[.val (.int p0), .val (.int p1), .val (.int p2), .val (.int p3), .val (.long j47), .second, .val (.double d48), .second, .val (.double d49), .second, .val (.ref a17), .unset, .unset] [(.double r20)])
    refine g_iloadN C X20 (pc' := 50) at_49 rfl rfl ?_
    refine g_i2d C X20 (pc' := 51) at_50 rfl ?_
    refine g_dcmpV C X20 at_51 (v := (0 : Int32)) ((dcmp_cmpI Dr (i2d_D p2) _).trans (cmpI_self _)) rfl ?_
    refine g_ifN C X20 at_52 (by decide) rfl ?_
    refine g_iconst C X20 (pc' := 56) at_55 (v := (1 : Int32)) (by decide) rfl ?_
    refine g_goto C X20 at_56 (pc' := 60) (by decide) (by decide) ?_
    exact g_zreturnW C X20 S18 e20 Y18 at_60 (w := 1) (by decide) ⟨rfl, N19⟩ (by decide) (by decide)
set_option maxRecDepth 65536 in
set_option maxHeartbeats 40000000 in
theorem comes_1 {Post : Tables → Env → Array Value → State → Outcome → State → Prop} (hpost : ∀ tb e args s v u, (limb_1_1.after args s (.returned v) u = true ∧ limb_1_2.after args s (.returned v) u = true ∧ True) → ReturnedEndW s (.returned v) u (Jvm.fieldLocs frame_1_writes args s ++ Jvm.arrayLocs frame_1_arrays args s ++ Jvm.staticLocs frame_1_statics s) 16 1152 → Post tb e args s (.returned v) u) :
    ArmFor flags0 classFile x code maxLocals ret World_1 tables_1 room_1 Calls_1 rest_1 Pre_1 Post := by
  intro l hfl _ _ p e ha hc hk s m args below hf hA hF happ hP
  obtain ⟨hcalls, hrest, hpre⟩ := hP
  obtain ⟨-, -, -, hnamed, -, -, -, hat⟩ := (Spec.applies_iff hf).mp happ
  obtain ⟨hg, hn⟩ := and_e (Cond.before_iff.mp (show (Jvm.Cond.and given_1 narrow_1).before args s = true from hpre))
  obtain ⟨g_c, g_0⟩ := and_e hg
  obtain ⟨k_0, g_1⟩ := and_e g_0
  obtain ⟨k_1, g_2⟩ := and_e g_1
  obtain ⟨k_2, g_3⟩ := and_e g_2
  have k_3 := g_3
  obtain ⟨w0, w1, w2, w3, rfl⟩ : ∃ w0 w1 w2 w3 : Value, args = #[w0, w1, w2, w3] := by
    have hs : args.size = 4 := by simpa [Cond.value, given_1] using g_c
    obtain ⟨L⟩ := args
    match L, hs with
    | [w0, w1, w2, w3], _ => exact ⟨w0, w1, w2, w3, rfl⟩
  have hw := fun d (hd : d ∈ tables_1) => atoms_spec (ws := Jvm.Cond.code x code maxLocals ret :: tables_1) hat d (List.mem_cons_of_mem _ hd)
  have hfit : Fit s := fun {y c} hc i hi => by
    obtain ⟨ha, rfl⟩ := Array.getElem?_eq_some_iff.mp hc
    have q := List.all_eq_true.mp ((Array.all_eq_true_iff_forall_mem.mp hF) _ (Array.getElem_mem ha)) i (List.mem_range.mpr hi)
    simpa [Array.getElem?_eq_getElem hi] using q
  obtain ⟨p0, q_0⟩ := is_v k_0
  obtain rfl : w0 = (.int p0) := Option.some.inj q_0
  obtain ⟨p1, q_1⟩ := is_v k_1
  obtain rfl : w1 = (.int p1) := Option.some.inj q_1
  obtain ⟨p2, q_2⟩ := is_v k_2
  obtain rfl : w2 = (.int p2) := Option.some.inj q_2
  obtain ⟨p3, q_3⟩ := is_v k_3
  obtain rfl : w3 = (.int p3) := Option.some.inj q_3
  obtain ⟨n, o, h1, h2, h3, _, L, rfl, ⟨rfl, N⟩, hq⟩ := law l s _ hw p0 p1 p2 p3 s.heap s.heap.size (Nat.le_refl _)  tables_1 p e ha hc hk s m _ below hf ((Spec.applies_iff_loose hf).mp happ).1 ⟨rfl, State.Warmed39.refl s, rfl⟩ trivial
  refine ⟨n, _, h1, h2, h3, hpost _ _ _ _ _ _ ⟨Cond.after_iff.mpr rfl, Cond.after_iff.mpr (eq_i res_at (Term.int_eval (1)) rfl), trivial⟩ ⟨hq.1, hq.2.1, hq.2.2.1, (hq.2.2.2.sift fun y hy => Or.inr (N y hy)).mono (by decide) (by decide)⟩⟩
theorem main_1_1 : Claimed_1_1 := comes_1 fun _ _ _ _ _ _ h hF => ⟨h.1, hF⟩
theorem main_1_2 : Claimed_1_2 := comes_1 fun _ _ _ _ _ _ h hF => ⟨h.2.1, hF⟩
end Jvm.Pilot.@@N@@
namespace Jvm.Pilot.@@N@@
open Jvm Jvm.ClassFile Sem Op Lib Jvm.Free Jvm.Stand Jvm.Pilot.@@N@@.Jvm.D
/-! MADE BY PROGRAM (witnessworld.py) out of the Statement's table words and the real class files: 14 classes; the members and pool entries that the words name. The judged class is class 1, her method 1. -/
namespace start1
open Jvm.ClassFile
def u (s : String) : CpInfo := .utf8 (stringToUtf16 s)
/-- a pool by its gaps: so many unusable entries, then the entry; so many at the end -/
def gap : Nat → List CpInfo → List CpInfo
  | 0, r => r
  | n + 1, r => .unusable :: gap n r
def poolList (es : List (Nat × CpInfo)) (last : Nat) : List CpInfo := es.foldr (fun e r => gap e.1 (e.2 :: r)) (gap last [])
def pool (es : List (Nat × CpInfo)) (last : Nat) : Array CpInfo := ⟨poolList es last⟩
def fileOf (pool : Array CpInfo) (this : Nat) (attrs : Array Attribute := #[]) (ms : Array MethodInfo := #[]) (fl : Nat := 33) (sup : Nat := 0) (ifs : Array Nat := #[]) (fds : Array FieldInfo := #[]) : ClassFile where
  minorVersion := 0
  majorVersion := 65
  constantPool := pool
  accessFlags := fl
  thisClass := this
  superClass := sup
  interfaces := ifs
  fields := fds
  methods := ms
  attributes := attrs
def plain (name : String) (sup : Option ClassId) : Class where
  name := name
  kind := .ordinary
  loader := none
  accessFlags := 33
  super := sup
  interfaces := #[]
  cf := none
  fields := #[]
  methods := #[]
  instanceTypes := #[]
  staticTypes := #[]
  resolved := #[]
  callSites := []
  init := .initialized
  statics := none
  mirror := none

def pool0 : Array CpInfo := pool [(5, u "<init>"), (0, u "()V"), (1, .class_ 10), (1, u "java/lang/Object")] 113

def k0c0 : Code := { maxStack := 0, maxLocals := 1, code := object_method_1_code, exceptionTable := #[], attributes := #[] }
def k0m0 : Method := { name := "<init>", desc := "()V", sig := { parameters := [], returnType := none }, accessFlags := 1, code := some k0c0 }
/-- java/lang/Object -/
def k0 : Class := { plain "java/lang/Object" none with
  accessFlags := 33
  interfaces := #[]
  cf := some (fileOf pool0 8 #[] #[{ accessFlags := 1, nameIndex := 5, descriptorIndex := 6, attributes := #[] }] 33 0 #[] #[])
  fields := #[]
  methods := #[k0m0]
  instanceTypes := #[]
  staticTypes := #[]
  resolved := Array.replicate 124 none
  statics := none }

def pool1 : Array CpInfo := pool [(2, .class_ 4), (1, u "java/lang/Object"), (0, u "<init>"), (0, u "()V"), (0, .integer 1048575), (0, .class_ 9), (0, u "com/example/sitewise/sitewise/Solution"), (0, .string 11), (0, u "1"), (0, .methodref 8 13), (0, .nameAndType 5 14), (0, u "(Lcom/example/sitewise/sitewise/Plan;DDLjava/lang/String;)V"), (0, .methodref 8 16), (0, .nameAndType 17 18), (0, u "ratio"), (0, u "()D"), (0, .class_ 20), (0, u "com/example/sitewise/sitewise/SolutionRatioPinLaw"), (2, u "law"), (0, u "(IIII)Z")] 3

def k1m0 : Method := { name := "<init>", desc := "()V", sig := { parameters := [], returnType := none }, accessFlags := 1, code := none }
def k1c1 : Code := { maxStack := 8, maxLocals := 13, code := code, exceptionTable := #[], attributes := #[] }
def k1m1 : Method := { name := "law", desc := "(IIII)Z", sig := { parameters := [.int, .int, .int, .int], returnType := some .boolean }, accessFlags := 9, code := some k1c1 }
/-- com/example/sitewise/sitewise/SolutionRatioPinLaw -/
def k1 : Class := { plain "com/example/sitewise/sitewise/SolutionRatioPinLaw" (some 0) with
  accessFlags := 49
  interfaces := #[]
  cf := some (fileOf pool1 19 #[] #[{ accessFlags := 1, nameIndex := 5, descriptorIndex := 6, attributes := #[] }, { accessFlags := 9, nameIndex := 23, descriptorIndex := 24, attributes := #[] }] 49 2 #[] #[])
  fields := #[]
  methods := #[k1m0, k1m1]
  instanceTypes := #[]
  staticTypes := #[]
  resolved := Array.replicate 28 none
  statics := none }

def pool2 : Array CpInfo := pool [(1, .methodref 2 3), (0, .class_ 4), (0, .nameAndType 5 6), (0, u "com/example/sitewise/sitewise/Solution"), (0, u "<init>"), (0, u "(Lcom/example/sitewise/sitewise/Plan;DDLjava/lang/String;[D)V"), (0, .methodref 8 9), (0, .class_ 10), (0, .nameAndType 5 11), (0, u "java/lang/Object"), (0, u "()V"), (0, .fieldref 2 13), (0, .nameAndType 14 15), (0, u "plan"), (0, u "Lcom/example/sitewise/sitewise/Plan;"), (0, .fieldref 2 17), (0, .nameAndType 18 19), (0, u "cost"), (0, u "D"), (0, .fieldref 2 21), (0, .nameAndType 22 19), (0, u "lowerBound"), (0, .fieldref 2 24), (0, .nameAndType 25 26), (0, u "guarantee"), (0, u "Ljava/lang/String;"), (0, .fieldref 2 28), (0, .nameAndType 29 30), (0, u "alpha"), (0, u "[D"), (8, u "()D"), (23, .double 9221120237041090560), (6, u "(Lcom/example/sitewise/sitewise/Plan;DDLjava/lang/String;)V"), (11, u "ratio")] 25

def k2c0 : Code := { maxStack := 8, maxLocals := 7, code := prog_34_method_1_code, exceptionTable := #[], attributes := #[] }
def k2m0 : Method := { name := "<init>", desc := "(Lcom/example/sitewise/sitewise/Plan;DDLjava/lang/String;)V", sig := { parameters := [(.object "com/example/sitewise/sitewise/Plan"), .double, .double, (.object "java/lang/String")], returnType := none }, accessFlags := 0, code := some k2c0 }
def k2c1 : Code := { maxStack := 3, maxLocals := 8, code := prog_34_method_2_code, exceptionTable := #[], attributes := #[] }
def k2m1 : Method := { name := "<init>", desc := "(Lcom/example/sitewise/sitewise/Plan;DDLjava/lang/String;[D)V", sig := { parameters := [(.object "com/example/sitewise/sitewise/Plan"), .double, .double, (.object "java/lang/String"), (.array .double)], returnType := none }, accessFlags := 2, code := some k2c1 }
def k2c2 : Code := { maxStack := 4, maxLocals := 3, code := prog_34_method_12_code, exceptionTable := #[], attributes := #[] }
def k2m2 : Method := { name := "ratio", desc := "()D", sig := { parameters := [], returnType := some .double }, accessFlags := 1, code := some k2c2 }
/-- com/example/sitewise/sitewise/Solution -/
def k2 : Class := { plain "com/example/sitewise/sitewise/Solution" (some 0) with
  accessFlags := 49
  interfaces := #[]
  cf := some (fileOf pool2 2 #[] #[{ accessFlags := 0, nameIndex := 5, descriptorIndex := 70, attributes := #[] }, { accessFlags := 2, nameIndex := 5, descriptorIndex := 6, attributes := #[] }, { accessFlags := 1, nameIndex := 82, descriptorIndex := 39, attributes := #[] }] 49 8 #[] #[{ accessFlags := 18, nameIndex := 14, descriptorIndex := 15, attributes := #[] }, { accessFlags := 18, nameIndex := 18, descriptorIndex := 19, attributes := #[] }, { accessFlags := 18, nameIndex := 22, descriptorIndex := 19, attributes := #[] }, { accessFlags := 18, nameIndex := 25, descriptorIndex := 26, attributes := #[] }, { accessFlags := 18, nameIndex := 29, descriptorIndex := 30, attributes := #[] }])
  fields := #[{ name := "plan", type := (.object "com/example/sitewise/sitewise/Plan"), accessFlags := 18, slot := 0, constantValue := 0 }, { name := "cost", type := .double, accessFlags := 18, slot := 1, constantValue := 0 }, { name := "lowerBound", type := .double, accessFlags := 18, slot := 2, constantValue := 0 }, { name := "guarantee", type := (.object "java/lang/String"), accessFlags := 18, slot := 3, constantValue := 0 }, { name := "alpha", type := (.array .double), accessFlags := 18, slot := 4, constantValue := 0 }]
  methods := #[k2m0, k2m1, k2m2]
  instanceTypes := #[(.object "com/example/sitewise/sitewise/Plan"), .double, .double, (.object "java/lang/String"), (.array .double)]
  staticTypes := #[]
  resolved := Array.replicate 108 none
  statics := none }

def pool3 : Array CpInfo := pool [(1, .class_ 2), (0, u "java/io/Serializable"), (0, .class_ 4), (0, u "java/lang/Object")] 2

/-- java/io/Serializable -/
def k3 : Class := { plain "java/io/Serializable" (some 0) with
  accessFlags := 1537
  interfaces := #[]
  cf := some (fileOf pool3 1 #[] #[] 1537 3 #[] #[])
  fields := #[]
  methods := #[]
  instanceTypes := #[]
  staticTypes := #[]
  resolved := Array.replicate 7 none
  statics := none }

def pool4 : Array CpInfo := pool [(1, .class_ 2), (0, u "java/lang/Comparable"), (0, .class_ 4), (0, u "java/lang/Object")] 7

/-- java/lang/Comparable -/
def k4 : Class := { plain "java/lang/Comparable" (some 0) with
  accessFlags := 1537
  interfaces := #[]
  cf := some (fileOf pool4 1 #[] #[] 1537 3 #[] #[])
  fields := #[]
  methods := #[]
  instanceTypes := #[]
  staticTypes := #[]
  resolved := Array.replicate 12 none
  statics := none }

def pool5 : Array CpInfo := pool [(2, .class_ 4), (1, u "java/lang/CharSequence"), (42, .class_ 48), (0, u "java/lang/CharSequence$1CodePointIterator"), (10, .class_ 60), (0, u "java/lang/CharSequence$1CharIterator"), (5, .class_ 67), (0, u "java/lang/Object")] 63

/-- java/lang/CharSequence -/
def k5 : Class := { plain "java/lang/CharSequence" (some 0) with
  accessFlags := 1537
  interfaces := #[]
  cf := some (fileOf pool5 2 #[.nestMembers #[47, 59]] #[] 1537 66 #[] #[])
  fields := #[]
  methods := #[]
  instanceTypes := #[]
  staticTypes := #[]
  resolved := Array.replicate 131 none
  statics := none }

def pool6 : Array CpInfo := pool [(1, .class_ 2), (0, u "java/lang/constant/Constable"), (0, .class_ 4), (0, u "java/lang/Object")] 6

/-- java/lang/constant/Constable -/
def k6 : Class := { plain "java/lang/constant/Constable" (some 0) with
  accessFlags := 1537
  interfaces := #[]
  cf := some (fileOf pool6 1 #[] #[] 1537 3 #[] #[])
  fields := #[]
  methods := #[]
  instanceTypes := #[]
  staticTypes := #[]
  resolved := Array.replicate 11 none
  statics := none }

def pool7 : Array CpInfo := pool [(1, .class_ 2), (0, u "java/lang/constant/ConstantDesc"), (0, .class_ 4), (0, u "java/lang/Object")] 32

/-- java/lang/constant/ConstantDesc -/
def k7 : Class := { plain "java/lang/constant/ConstantDesc" (some 0) with
  accessFlags := 1537
  interfaces := #[]
  cf := some (fileOf pool7 1 #[] #[] 1537 3 #[] #[])
  fields := #[]
  methods := #[]
  instanceTypes := #[]
  staticTypes := #[]
  resolved := Array.replicate 37 none
  statics := none }

def pool8 : Array CpInfo := pool [(2, .class_ 4), (1, u "java/lang/Object"), (0, u "<init>"), (0, u "()V"), (3, .class_ 12), (1, u "java/lang/String"), (0, u "value"), (0, u "[B"), (2, u "coder"), (0, u "B"), (2, u "hash"), (0, u "I"), (2, u "hashIsZero"), (0, u "Z"), (13, u "COMPACT_STRINGS"), (534, .class_ 576), (0, u "java/lang/CharSequence"), (22, u "CASE_INSENSITIVE_ORDER"), (0, u "Ljava/util/Comparator;"), (500, u "serialPersistentFields"), (0, u "[Ljava/io/ObjectStreamField;"), (0, .class_ 1104), (0, u "java/lang/String$CaseInsensitiveComparator"), (1, .class_ 1107), (0, u "java/io/Serializable"), (0, .class_ 1109), (0, u "java/lang/Comparable"), (0, .class_ 1111), (0, u "java/lang/constant/Constable"), (0, .class_ 1113), (0, u "java/lang/constant/ConstantDesc"), (2, u "serialVersionUID"), (0, u "J"), (3, u "REPL"), (0, u "C"), (2, u "LATIN1"), (1, u "UTF16")] 323

def k8m0 : Method := { name := "<init>", desc := "()V", sig := { parameters := [], returnType := none }, accessFlags := 1, code := none }
/-- java/lang/String -/
def k8 : Class := { plain "java/lang/String" (some 0) with
  accessFlags := 49
  interfaces := #[3, 4, 5, 6, 7]
  cf := some (fileOf pool8 10 #[.nestMembers #[1103]] #[{ accessFlags := 1, nameIndex := 5, descriptorIndex := 6, attributes := #[] }] 49 2 #[1106, 1108, 575, 1110, 1112] #[{ accessFlags := 18, nameIndex := 13, descriptorIndex := 14, attributes := #[] }, { accessFlags := 18, nameIndex := 17, descriptorIndex := 18, attributes := #[] }, { accessFlags := 2, nameIndex := 21, descriptorIndex := 22, attributes := #[] }, { accessFlags := 2, nameIndex := 25, descriptorIndex := 26, attributes := #[] }, { accessFlags := 26, nameIndex := 1116, descriptorIndex := 1117, attributes := #[] }, { accessFlags := 24, nameIndex := 40, descriptorIndex := 26, attributes := #[] }, { accessFlags := 26, nameIndex := 1101, descriptorIndex := 1102, attributes := #[] }, { accessFlags := 26, nameIndex := 1121, descriptorIndex := 1122, attributes := #[] }, { accessFlags := 25, nameIndex := 599, descriptorIndex := 600, attributes := #[] }, { accessFlags := 24, nameIndex := 1125, descriptorIndex := 18, attributes := #[] }, { accessFlags := 24, nameIndex := 1127, descriptorIndex := 18, attributes := #[] }])
  fields := #[{ name := "value", type := (.array .byte), accessFlags := 18, slot := 0, constantValue := 0 }, { name := "coder", type := .byte, accessFlags := 18, slot := 1, constantValue := 0 }, { name := "hash", type := .int, accessFlags := 2, slot := 2, constantValue := 0 }, { name := "hashIsZero", type := .boolean, accessFlags := 2, slot := 3, constantValue := 0 }, { name := "serialVersionUID", type := .long, accessFlags := 26, slot := 0, constantValue := 0 }, { name := "COMPACT_STRINGS", type := .boolean, accessFlags := 24, slot := 1, constantValue := 0 }, { name := "serialPersistentFields", type := (.array (.object "java/io/ObjectStreamField")), accessFlags := 26, slot := 2, constantValue := 0 }, { name := "REPL", type := .char, accessFlags := 26, slot := 3, constantValue := 0 }, { name := "CASE_INSENSITIVE_ORDER", type := (.object "java/util/Comparator"), accessFlags := 25, slot := 4, constantValue := 0 }, { name := "LATIN1", type := .byte, accessFlags := 24, slot := 5, constantValue := 0 }, { name := "UTF16", type := .byte, accessFlags := 24, slot := 6, constantValue := 0 }]
  methods := #[k8m0]
  instanceTypes := #[(.array .byte), .byte, .int, .boolean]
  staticTypes := #[.long, .boolean, (.array (.object "java/io/ObjectStreamField")), .char, (.object "java/util/Comparator"), .byte, .byte]
  resolved := Array.replicate 1451 none
  statics := none }

def pool9 : Array CpInfo := pool [(1, u "java/lang/Cloneable"), (0, .class_ 1), (0, u "java/lang/Object"), (0, .class_ 3)] 3

/-- java/lang/Cloneable -/
def k9 : Class := { plain "java/lang/Cloneable" (some 0) with
  accessFlags := 1537
  interfaces := #[]
  cf := some (fileOf pool9 2 #[] #[] 1537 4 #[] #[])
  fields := #[]
  methods := #[]
  instanceTypes := #[]
  staticTypes := #[]
  resolved := Array.replicate 8 none
  statics := none }

/-- the primitive byte -/
def k10 : Class := { plain "byte" none with kind := .primitive 'B', accessFlags := 0x411 }
/-- [B -/
def k11 : Class := { plain "[B" (some 0) with kind := .array 10 .byte, interfaces := #[9, 3], accessFlags := 1041 }

/-- the primitive int -/
def k12 : Class := { plain "int" none with kind := .primitive 'I', accessFlags := 0x411 }
/-- [I -/
def k13 : Class := { plain "[I" (some 0) with kind := .array 12 .int, interfaces := #[9, 3], accessFlags := 1041 }

def heap : Heap := #[]
def classes : Array Class := #[k0, k1, k2, k3, k4, k5, k6, k7, k8, k9, k10, k11, k12, k13]
def interned : List (Array UInt16 × Addr) := []
def slotsUsed : Nat := 0
def theMethod : MethodId := ⟨1, 1⟩
def args0 : Array Value := #[.int 3, .int 7, .int 2, .int 4]
def aboutOver (below : List Frame) : State where
  vm := { classes := classes, interned := interned.toArray }
  heap := heap
  slotsUsed := slotsUsed
  threads := #[{ frames := .invoking theMethod args0 :: below }]
def below0 : List Frame := [.native { method := ⟨0, 0⟩, args := #[] }]
def about1 : State := aboutOver below0
def p0 : Program := .bare "" "" ""
def e0 : Env := launch0.env 0 0 0
theorem w_frames : about1.frames = Frame.invoking theMethod args0 :: below0 := rfl
set_option maxRecDepth 65536 in
theorem w_args : argsFit about1.vm theMethod args0 = true := by decide +kernel
set_option maxRecDepth 65536 in
theorem w_heap : heapFits about1 = true := by decide +kernel
set_option maxRecDepth 65536 in
theorem w_runnable : about1.curStatus? = some .runnable := by decide +kernel
set_option maxRecDepth 65536 in
theorem w_alone : about1.alone = true := by decide +kernel
set_option maxRecDepth 65536 in
theorem w_named : about1.methodNamed? x = some theMethod := by decide +kernel
set_option maxRecDepth 65536 in
theorem w_hears : about1.hears theMethod below0 = true := by decide +kernel
set_option maxRecDepth 65536 in
theorem w_ripe : about1.ripe theMethod args0 below0 = true := by decide +kernel
theorem w_running : about1.status = .running := rfl
set_option maxRecDepth 65536 in
theorem w_room : about1.hasRoom e0.platform room_1 = true :=
  launch0.hasRoom_least _ room_1 (by decide +kernel) (by decide +kernel) (by decide +kernel) (by decide +kernel) (by decide +kernel) (by decide +kernel)
theorem allAtoms_all (ts : List Jvm.Cond) (a : Array Jvm.Value) (st : Jvm.State) : (allAtoms ts).before a st = ts.all (fun c => c.before a st) := by
  induction ts with
  | nil => rfl
  | cons c t ih =>
    show (Jvm.Cond.and c (allAtoms t)).before a st = _
    rw [Jvm.Cond.before_and, ih, List.all_cons]
def words1 : List Jvm.Cond := Jvm.Cond.code x code maxLocals ret :: tables_1
/-- a 'code' word, met by the world's own term for the bytes: nothing is compared byte by byte -/
theorem code_word {y : MethodName} {bytes : ByteArray} {mx : Nat} {rt : Option FieldType} {a : Array Value} {s : State} {m : MethodId} {meth : Method} {c : Code} (h1 : s.methodNamed? y = some m) (h2 : s.vm.method? m = some meth) (h3 : meth.code = some c) (h4 : c.code = bytes)
    (h5 : (c.maxLocals == mx && c.exceptionTable.isEmpty && decide (c.maxStack ≤ mostOperands) && decide (meth.sig.returnType = rt) && !meth.locks && decide (parseMethodDescriptor y.desc = some meth.sig)) = true) : (Jvm.Cond.code y bytes mx rt).before a s = true := by
  simp only [Bool.and_eq_true, beq_iff_eq, Bool.not_eq_true', decide_eq_true_eq] at h5
  obtain ⟨⟨⟨⟨⟨g1, g2⟩, g3⟩, g4⟩, g5⟩, g6⟩ := h5
  simp [Cond.before, Cond.holds, Cond.value, h1, h2, h3, h4, g1, g2, g3, g4, g5, g6]
def isCode : Jvm.Cond → Bool
  | .code _ _ _ _ => true
  | _ => false
theorem all_split {L : List Jvm.Cond} {P : Jvm.Cond → Bool} (h1 : L.all (fun c => isCode c || P c) = true) (h2 : ∀ c ∈ L.filter isCode, P c = true) : L.all P = true := by
  refine List.all_eq_true.mpr fun c hc => ?_
  have h := List.all_eq_true.mp h1 c hc
  rcases Bool.eq_false_or_eq_true (isCode c) with hi | hi
  · exact h2 c (List.mem_filter.mpr ⟨hc, hi⟩)
  · simpa [hi] using h
set_option maxRecDepth 65536 in
theorem w_c0 : (Jvm.Cond.code x code maxLocals ret).before args0 about1 = true := code_word (m := ⟨1, 1⟩) (meth := k1m1) (c := k1c1) (by decide +kernel) rfl rfl rfl (by decide +kernel)
set_option maxRecDepth 65536 in
theorem w_c1 : (Jvm.Cond.code ({ cls := "com/example/sitewise/sitewise/Solution", name := "<init>", desc := "(Lcom/example/sitewise/sitewise/Plan;DDLjava/lang/String;)V" } : Jvm.MethodName) prog_34_method_1_code (7 : Nat) (Option.none : Option Jvm.ClassFile.FieldType)).before args0 about1 = true := code_word (m := ⟨2, 0⟩) (meth := k2m0) (c := k2c0) (by decide +kernel) rfl rfl rfl (by decide +kernel)
set_option maxRecDepth 65536 in
theorem w_c2 : (Jvm.Cond.code ({ cls := "com/example/sitewise/sitewise/Solution", name := "<init>", desc := "(Lcom/example/sitewise/sitewise/Plan;DDLjava/lang/String;[D)V" } : Jvm.MethodName) prog_34_method_2_code (8 : Nat) (Option.none : Option Jvm.ClassFile.FieldType)).before args0 about1 = true := code_word (m := ⟨2, 1⟩) (meth := k2m1) (c := k2c1) (by decide +kernel) rfl rfl rfl (by decide +kernel)
set_option maxRecDepth 65536 in
theorem w_c3 : (Jvm.Cond.code ({ cls := "java/lang/Object", name := "<init>", desc := "()V" } : Jvm.MethodName) object_method_1_code (1 : Nat) (Option.none : Option Jvm.ClassFile.FieldType)).before args0 about1 = true := code_word (m := ⟨0, 0⟩) (meth := k0m0) (c := k0c0) (by decide +kernel) rfl rfl rfl (by decide +kernel)
set_option maxRecDepth 65536 in
theorem w_c4 : (Jvm.Cond.code ({ cls := "com/example/sitewise/sitewise/Solution", name := "ratio", desc := "()D" } : Jvm.MethodName) prog_34_method_12_code (3 : Nat) (Option.some Jvm.ClassFile.FieldType.double)).before args0 about1 = true := code_word (m := ⟨2, 2⟩) (meth := k2m2) (c := k2c2) (by decide +kernel) rfl rfl rfl (by decide +kernel)
def codes1 : List Jvm.Cond := [Jvm.Cond.code x code maxLocals ret, Jvm.Cond.code ({ cls := "com/example/sitewise/sitewise/Solution", name := "<init>", desc := "(Lcom/example/sitewise/sitewise/Plan;DDLjava/lang/String;)V" } : Jvm.MethodName) prog_34_method_1_code (7 : Nat) (Option.none : Option Jvm.ClassFile.FieldType), Jvm.Cond.code ({ cls := "com/example/sitewise/sitewise/Solution", name := "<init>", desc := "(Lcom/example/sitewise/sitewise/Plan;DDLjava/lang/String;[D)V" } : Jvm.MethodName) prog_34_method_2_code (8 : Nat) (Option.none : Option Jvm.ClassFile.FieldType), Jvm.Cond.code ({ cls := "java/lang/Object", name := "<init>", desc := "()V" } : Jvm.MethodName) object_method_1_code (1 : Nat) (Option.none : Option Jvm.ClassFile.FieldType), Jvm.Cond.code ({ cls := "com/example/sitewise/sitewise/Solution", name := "ratio", desc := "()D" } : Jvm.MethodName) prog_34_method_12_code (3 : Nat) (Option.some Jvm.ClassFile.FieldType.double)]
set_option maxRecDepth 65536 in
theorem codes_eq : words1.filter isCode = codes1 := rfl
theorem w_codes : ∀ c ∈ words1.filter isCode, c.before args0 about1 = true := by
  rw [codes_eq]
  intro c hc
  simp only [codes1, List.mem_cons, List.not_mem_nil, or_false] at hc
  rcases hc with rfl | rfl | rfl | rfl | rfl
  · exact w_c0
  · exact w_c1
  · exact w_c2
  · exact w_c3
  · exact w_c4
set_option maxRecDepth 65536 in
theorem w_t1 : (words1.take 24).all (fun c => isCode c || c.before args0 about1) = true := by decide +kernel
set_option maxRecDepth 65536 in
theorem w_t2 : (words1.drop 24).all (fun c => isCode c || c.before args0 about1) = true := by decide +kernel
theorem w_tables : (allAtoms (Jvm.Cond.code x code maxLocals ret :: tables_1)).before args0 about1 = true := by
  rw [allAtoms_all]
  show words1.all (fun c => c.before args0 about1) = true
  refine all_split ?_ w_codes
  rw [← List.take_append_drop 24 words1, List.all_append, w_t1, w_t2]
  rfl
set_option maxRecDepth 65536 in
theorem w_case : (Jvm.Cond.and given_1 narrow_1).before args0 about1 = true := by decide +kernel
theorem w_applies : (headSpec (Jvm.Cond.code x code maxLocals ret :: tables_1) room_1).applies x e0.platform about1 = true :=
  (Spec.applies_iff w_frames).mpr ⟨w_running, w_runnable, w_alone, w_named, w_hears, w_ripe, w_room, w_tables⟩
theorem atStart : AtStart classFile x code maxLocals ret World_1 tables_1 room_1 Calls_1 rest_1 Pre_1 launch0 p0 e0 about1 theMethod args0 below0 :=
  ⟨lists_1, trivial, launch0.admits_env _ _ _, launch0.least_env, fairChoices_fair.cas, fairChoices_fair.clock, w_frames, w_args, w_heap, w_applies, trivial, trivial, w_case⟩
end start1
theorem witness_1 : WitnessClaimed_1 := ⟨start1.p0, start1.e0, start1.about1, start1.theMethod, start1.args0, start1.below0, start1.atStart⟩
end Jvm.Pilot.@@N@@
