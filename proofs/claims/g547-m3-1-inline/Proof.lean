import JvmDerived
import JvmDerived.Pilot.@@N@@Statement
import JvmDerived.Pilot.@@N@@Code
set_option linter.unusedVariables false
set_option linter.unusedSimpArgs false
namespace Jvm.OwnKit
open Sem ClassFile Op Lib Jvm.Stand Jvm.Free Jvm.LawKit Jvm.RoadKit
section Walk
variable {p : Program} {l : Launch} {e : Env} {R : Room} {s : State} {m : MethodId} {args : Array Value} {below : List Frame} {meth : Method} {c : Code} {T : State} {locs : List Loc} {cells slots : Nat} {Z : State} {a0 : Array Value} {h : Heap} {G : Outcome → State → Prop}
variable {x0 : MethodName} {code : ByteArray} {maxL : Nat} {ret : Option FieldType}
/-- what is still owed from the frame g on: the run ends, and G holds of the end -/
def Go (tb : Tables) (e : Env) (below : List Frame) (G : Outcome → State → Prop) (T : State) (g : JFrame) : Prop :=
  ∃ s₂ o, Steps tb e below (T.setTop g) s₂ ∧ s₂.status = .running ∧ Ended s₂ below o ∧ G o s₂
theorem Go.step {tb : Tables} {T T' : State} {g g' : JFrame} (q : ∀ t, Steps tb e below (T'.setTop g') t → Steps tb e below (T.setTop g) t) (k : Go tb e below G T' g') : Go tb e below G T g := by
  obtain ⟨s2, o, h1, h2⟩ := k
  exact ⟨s2, o, q _ h1, h2⟩
/-- what stands still while one body is walked -/
def Cx (p : Program) (l : Launch) (s : State) (m : MethodId) (meth : Method) (c : Code) (Z : State) (x0 : MethodName) (code : ByteArray) (maxL : Nat) (ret : Option FieldType) : Prop :=
  p.tables.exec = Jvm.exec ∧ Z.Warmed39 s.vm ∧ c.code = code ∧ c.maxLocals = maxL ∧ s.vm.findClass x0.cls = some m.cls ∧ meth.sig.returnType = ret ∧ meth.locks = false ∧ meth.name = x0.name
theorem Cx.exec (C : Cx p l s m meth c Z x0 code maxL ret) : p.tables.exec = Jvm.exec := C.1
theorem Cx.warm (C : Cx p l s m meth c Z x0 code maxL ret) : Z.Warmed39 s.vm := C.2.1
theorem Cx.bytes (C : Cx p l s m meth c Z x0 code maxL ret) : c.code = code := C.2.2.1
theorem Cx.maxl (C : Cx p l s m meth c Z x0 code maxL ret) : c.maxLocals = maxL := C.2.2.2.1
theorem Cx.own (C : Cx p l s m meth c Z x0 code maxL ret) : s.vm.findClass x0.cls = some m.cls := C.2.2.2.2.1
theorem Cx.rets (C : Cx p l s m meth c Z x0 code maxL ret) : meth.sig.returnType = ret := C.2.2.2.2.2.1
theorem Cx.unlocked (C : Cx p l s m meth c Z x0 code maxL ret) : meth.locks = false := C.2.2.2.2.2.2.1
theorem Cx.nm (C : Cx p l s m meth c Z x0 code maxL ret) : meth.name = x0.name := C.2.2.2.2.2.2.2
theorem Cx.at (C : Cx p l s m meth c Z x0 code maxL ret) {pc : Nat} {r : Except ClassFile.DecodeError (ClassFile.Instr × Nat)} (h2 : decode code pc = r) : decode c.code pc = r := hb C.bytes h2
/-- the end of a walk: what is returned, the heap and the places written answer Q -/
def End (s : State) (Q : Option Value → Heap → List Loc → Prop) (k n : Nat) (o : Outcome) (U : State) : Prop := ∃ v L, o = .returned v ∧ Q v U.heap L ∧ FrameEnd s o U L k n
/-- a body's contract at one call: the arguments as, the heap h -/
def Con (l : Launch) (Z : State) (y : MethodName) (bytes : ByteArray) (maxL : Nat) (ret : Option FieldType) (rm : Room) (as : Array Value) (h : Heap) (Q : Option Value → Heap → List Loc → Prop) : Prop :=
  ∀ ws, MetFree l y (head1 (Cond.code y bytes maxL ret :: ws) rm) (fun a U => a = as ∧ Z.Warmed39 U.vm ∧ U.heap = h) (fun _ _ _ _ _ => True) (fun _ U o U' => End U Q rm.cells rm.slots o U')
theorem con_of_goF {rm : Room} {as : Array Value} {Q : Option Value → Heap → List Loc → Prop} {Ls : Array Slot} (hn : plainFor x0 = true) (hef : ∀ m, entryFrame m as maxL = mkF m 0 Ls [])
    (H : ∀ (p : Program) (e : Env) (s : State) (m : MethodId) (below : List Frame) (meth : Method) (c : Code) (T : State), Cx p l s m meth c Z x0 code maxL ret → Stand p l e rm s m as below meth c T [] 0 0 → T.heap = h → Go p.tables e below (End s Q rm.cells rm.slots) T (mkF m 0 Ls [])) :
    Con l Z x0 code maxL ret rm as h Q := by
  intro ws
  refine MetFree.of_bodySF hn hisR ?_
  intro p e s m args below meth c s₁ Bd hml hP hK
  obtain ⟨rfl, hZ, hh⟩ := hP
  have X0 : Stand p l e rm s m args below meth c s₁ [] 0 0 := Stand.of_body Bd
  have e0 : s₁.heap = h := by rw [← hh, Bd.state]; rfl
  have q := H p e s m below meth c s₁ ⟨Bd.exec, hZ, Bd.bytes, hml, findClass_of_methodNamed Bd.named, Bd.returns, Bd.notSynchronized, (name_of_methodNamed Bd.named Bd.method).1⟩ X0 e0
  rw [hef]
  exact q
theorem con_of_go {rm : Room} {as : Array Value} {Q : Option Value → Heap → List Loc → Prop} {Ls : Array Slot} (hn : plainName x0.cls = true) (hef : ∀ m, entryFrame m as maxL = mkF m 0 Ls [])
    (H : ∀ (p : Program) (e : Env) (s : State) (m : MethodId) (below : List Frame) (meth : Method) (c : Code) (T : State), Cx p l s m meth c Z x0 code maxL ret → Stand p l e rm s m as below meth c T [] 0 0 → T.heap = h → Go p.tables e below (End s Q rm.cells rm.slots) T (mkF m 0 Ls [])) :
    Con l Z x0 code maxL ret rm as h Q := con_of_goF (plainFor_of_name hn) hef H
theorem g_aloadN (C : Cx p l s m meth c Z x0 code maxL ret) (X : Stand p l e R s m args below meth c T locs cells slots) {pc pc' : Nat} {Ls : Array Slot} {st : List Value} {k : Fin 4} {v : Value} (hd : decode code pc = .ok (.aload_n k, 1)) (hl : Ls[k.val]? = some (.val v)) (hv : v.isRef = true) (hp : pc + 1 = pc')
    (K : Go p.tables e below G T (mkF m pc' Ls (v :: st))) : Go p.tables e below G T (mkF m pc Ls (st)) := by
  subst hp; exact Go.step (fun _ k => XS.aloadN X.here C.exec rfl (C.at hd) hl hv k) K
theorem g_aload (C : Cx p l s m meth c Z x0 code maxL ret) (X : Stand p l e R s m args below meth c T locs cells slots) {pc pc' : Nat} {Ls : Array Slot} {st : List Value} {k : Nat} {v : Value} (hd : decode code pc = .ok (.aload k, 2)) (hl : Ls[k]? = some (.val v)) (hv : v.isRef = true) (hp : pc + 2 = pc')
    (K : Go p.tables e below G T (mkF m pc' Ls (v :: st))) : Go p.tables e below G T (mkF m pc Ls (st)) := by
  subst hp; exact Go.step (fun _ k => XS.aload X.here C.exec rfl (C.at hd) hl hv k) K
theorem g_iloadN (C : Cx p l s m meth c Z x0 code maxL ret) (X : Stand p l e R s m args below meth c T locs cells slots) {pc pc' : Nat} {Ls : Array Slot} {st : List Value} {k : Fin 4} {v : Int32} (hd : decode code pc = .ok (.iload_n k, 1)) (hl : Ls[k.val]? = some (.val (.int v))) (hp : pc + 1 = pc')
    (K : Go p.tables e below G T (mkF m pc' Ls (.int v :: st))) : Go p.tables e below G T (mkF m pc Ls (st)) := by
  subst hp; exact Go.step (fun _ k => XS.iloadN X.here C.exec rfl (C.at hd) hl k) K
theorem g_iload (C : Cx p l s m meth c Z x0 code maxL ret) (X : Stand p l e R s m args below meth c T locs cells slots) {pc pc' : Nat} {Ls : Array Slot} {st : List Value} {k : Nat} {v : Int32} (hd : decode code pc = .ok (.iload k, 2)) (hl : Ls[k]? = some (.val (.int v))) (hp : pc + 2 = pc')
    (K : Go p.tables e below G T (mkF m pc' Ls (.int v :: st))) : Go p.tables e below G T (mkF m pc Ls (st)) := by
  subst hp; exact Go.step (fun _ k => XS.iload X.here C.exec rfl (C.at hd) hl k) K
theorem g_istoreN (C : Cx p l s m meth c Z x0 code maxL ret) (X : Stand p l e R s m args below meth c T locs cells slots) {pc pc' : Nat} {Ls : Array Slot} {st : List Value} {k : Fin 4} {x y : Int32} {l' : Array Slot} (hd : decode code pc = .ok (.istore_n k, 1)) (hv : x = y) (hl : storeLocals Ls k.val (.int x) = some l') (hp : pc + 1 = pc')
    (K : Go p.tables e below G T (mkF m pc' l' (st))) : Go p.tables e below G T (mkF m pc Ls (.int y :: st)) := by
  subst hp; subst hv; exact Go.step (fun _ k => XS.istoreN X.here C.exec rfl (C.at hd) rfl hl k) K
theorem g_istore (C : Cx p l s m meth c Z x0 code maxL ret) (X : Stand p l e R s m args below meth c T locs cells slots) {pc pc' : Nat} {Ls : Array Slot} {st : List Value} {k : Nat} {x y : Int32} {l' : Array Slot} (hd : decode code pc = .ok (.istore k, 2)) (hv : x = y) (hl : storeLocals Ls k (.int x) = some l') (hp : pc + 2 = pc')
    (K : Go p.tables e below G T (mkF m pc' l' (st))) : Go p.tables e below G T (mkF m pc Ls (.int y :: st)) := by
  subst hp; subst hv; exact Go.step (fun _ k => XS.istore X.here C.exec rfl (C.at hd) rfl hl k) K
theorem g_lloadN (C : Cx p l s m meth c Z x0 code maxL ret) (X : Stand p l e R s m args below meth c T locs cells slots) {pc pc' : Nat} {Ls : Array Slot} {st : List Value} {k : Fin 4} {v : Int64} (hd : decode code pc = .ok (.lload_n k, 1)) (hl : Ls[k.val]? = some (.val (.long v))) (hp : pc + 1 = pc')
    (K : Go p.tables e below G T (mkF m pc' Ls (.long v :: st))) : Go p.tables e below G T (mkF m pc Ls (st)) := by
  subst hp; exact Go.step (fun _ k => XT.lloadN X.here C.exec rfl (C.at hd) hl k) K
theorem g_lload (C : Cx p l s m meth c Z x0 code maxL ret) (X : Stand p l e R s m args below meth c T locs cells slots) {pc pc' : Nat} {Ls : Array Slot} {st : List Value} {k : Nat} {v : Int64} (hd : decode code pc = .ok (.lload k, 2)) (hl : Ls[k]? = some (.val (.long v))) (hp : pc + 2 = pc')
    (K : Go p.tables e below G T (mkF m pc' Ls (.long v :: st))) : Go p.tables e below G T (mkF m pc Ls (st)) := by
  subst hp; exact Go.step (fun _ k => XT.lload X.here C.exec rfl (C.at hd) hl k) K
theorem g_lstoreN (C : Cx p l s m meth c Z x0 code maxL ret) (X : Stand p l e R s m args below meth c T locs cells slots) {pc pc' : Nat} {Ls : Array Slot} {st : List Value} {k : Fin 4} {x y : Int64} {l' : Array Slot} (hd : decode code pc = .ok (.lstore_n k, 1)) (hv : x = y) (hl : storeLocals Ls k.val (.long x) = some l') (hp : pc + 1 = pc')
    (K : Go p.tables e below G T (mkF m pc' l' (st))) : Go p.tables e below G T (mkF m pc Ls (.long y :: st)) := by
  subst hp; subst hv; exact Go.step (fun _ k => XT.lstoreN X.here C.exec rfl (C.at hd) rfl hl k) K
theorem g_lstore (C : Cx p l s m meth c Z x0 code maxL ret) (X : Stand p l e R s m args below meth c T locs cells slots) {pc pc' : Nat} {Ls : Array Slot} {st : List Value} {k : Nat} {x y : Int64} {l' : Array Slot} (hd : decode code pc = .ok (.lstore k, 2)) (hv : x = y) (hl : storeLocals Ls k (.long x) = some l') (hp : pc + 2 = pc')
    (K : Go p.tables e below G T (mkF m pc' l' (st))) : Go p.tables e below G T (mkF m pc Ls (.long y :: st)) := by
  subst hp; subst hv; exact Go.step (fun _ k => XT.lstore X.here C.exec rfl (C.at hd) rfl hl k) K
theorem g_dloadN (C : Cx p l s m meth c Z x0 code maxL ret) (X : Stand p l e R s m args below meth c T locs cells slots) {pc pc' : Nat} {Ls : Array Slot} {st : List Value} {k : Fin 4} {v : UInt64} (hd : decode code pc = .ok (.dload_n k, 1)) (hl : Ls[k.val]? = some (.val (.double v))) (hp : pc + 1 = pc')
    (K : Go p.tables e below G T (mkF m pc' Ls (.double v :: st))) : Go p.tables e below G T (mkF m pc Ls (st)) := by
  subst hp; exact Go.step (fun _ k => XS.dloadN X.here C.exec rfl (C.at hd) hl k) K
theorem g_dload (C : Cx p l s m meth c Z x0 code maxL ret) (X : Stand p l e R s m args below meth c T locs cells slots) {pc pc' : Nat} {Ls : Array Slot} {st : List Value} {k : Nat} {v : UInt64} (hd : decode code pc = .ok (.dload k, 2)) (hl : Ls[k]? = some (.val (.double v))) (hp : pc + 2 = pc')
    (K : Go p.tables e below G T (mkF m pc' Ls (.double v :: st))) : Go p.tables e below G T (mkF m pc Ls (st)) := by
  subst hp; exact Go.step (fun _ k => XS.dload X.here C.exec rfl (C.at hd) hl k) K
theorem g_dstoreN (C : Cx p l s m meth c Z x0 code maxL ret) (X : Stand p l e R s m args below meth c T locs cells slots) {pc pc' : Nat} {Ls : Array Slot} {st : List Value} {k : Fin 4} {x y : UInt64} {l' : Array Slot} (hd : decode code pc = .ok (.dstore_n k, 1)) (hv : x = y) (hl : storeLocals Ls k.val (.double x) = some l') (hp : pc + 1 = pc')
    (K : Go p.tables e below G T (mkF m pc' l' (st))) : Go p.tables e below G T (mkF m pc Ls (.double y :: st)) := by
  subst hp; subst hv; exact Go.step (fun _ k => XS.dstoreN X.here C.exec rfl (C.at hd) rfl hl k) K
theorem g_dstore (C : Cx p l s m meth c Z x0 code maxL ret) (X : Stand p l e R s m args below meth c T locs cells slots) {pc pc' : Nat} {Ls : Array Slot} {st : List Value} {k : Nat} {x y : UInt64} {l' : Array Slot} (hd : decode code pc = .ok (.dstore k, 2)) (hv : x = y) (hl : storeLocals Ls k (.double x) = some l') (hp : pc + 2 = pc')
    (K : Go p.tables e below G T (mkF m pc' l' (st))) : Go p.tables e below G T (mkF m pc Ls (.double y :: st)) := by
  subst hp; subst hv; exact Go.step (fun _ k => XS.dstore X.here C.exec rfl (C.at hd) rfl hl k) K
theorem g_astoreN (C : Cx p l s m meth c Z x0 code maxL ret) (X : Stand p l e R s m args below meth c T locs cells slots) {pc pc' : Nat} {Ls : Array Slot} {st : List Value} {k : Fin 4} {v : Value} {l' : Array Slot} (hd : decode code pc = .ok (.astore_n k, 1)) (hv : v.isRef = true) (hl : storeLocals Ls k.val v = some l') (hp : pc + 1 = pc')
    (K : Go p.tables e below G T (mkF m pc' l' (st))) : Go p.tables e below G T (mkF m pc Ls (v :: st)) := by
  subst hp; exact Go.step (fun _ k => XS.astoreN X.here C.exec rfl (C.at hd) rfl hv hl k) K
theorem g_astore (C : Cx p l s m meth c Z x0 code maxL ret) (X : Stand p l e R s m args below meth c T locs cells slots) {pc pc' : Nat} {Ls : Array Slot} {st : List Value} {k : Nat} {v : Value} {l' : Array Slot} (hd : decode code pc = .ok (.astore k, 2)) (hv : v.isRef = true) (hl : storeLocals Ls k v = some l') (hp : pc + 2 = pc')
    (K : Go p.tables e below G T (mkF m pc' l' (st))) : Go p.tables e below G T (mkF m pc Ls (v :: st)) := by
  subst hp; exact Go.step (fun _ k => XS.astore X.here C.exec rfl (C.at hd) rfl hv hl k) K
theorem g_iconst (C : Cx p l s m meth c Z x0 code maxL ret) (X : Stand p l e R s m args below meth c T locs cells slots) {pc pc' : Nat} {Ls : Array Slot} {st : List Value} {i : Int} {v : Int32} (hd : decode code pc = .ok (.iconst i, 1)) (hv : Int32.ofInt i = v) (hp : pc + 1 = pc')
    (K : Go p.tables e below G T (mkF m pc' Ls (.int v :: st))) : Go p.tables e below G T (mkF m pc Ls (st)) := by
  subst hp; subst hv; exact Go.step (fun _ k => XS.iconst X.here C.exec rfl (C.at hd)  k) K
theorem g_bipush (C : Cx p l s m meth c Z x0 code maxL ret) (X : Stand p l e R s m args below meth c T locs cells slots) {pc pc' : Nat} {Ls : Array Slot} {st : List Value} {i : Int} {v : Int32} (hd : decode code pc = .ok (.bipush i, 2)) (hv : (Int8.ofInt i).toInt32 = v) (hp : pc + 2 = pc')
    (K : Go p.tables e below G T (mkF m pc' Ls (.int v :: st))) : Go p.tables e below G T (mkF m pc Ls (st)) := by
  subst hp; subst hv; exact Go.step (fun _ k => XS.bipush X.here C.exec rfl (C.at hd)  k) K
theorem g_sipush (C : Cx p l s m meth c Z x0 code maxL ret) (X : Stand p l e R s m args below meth c T locs cells slots) {pc pc' : Nat} {Ls : Array Slot} {st : List Value} {i : Int} {v : Int32} (hd : decode code pc = .ok (.sipush i, 3)) (hv : (Int16.ofInt i).toInt32 = v) (hp : pc + 3 = pc')
    (K : Go p.tables e below G T (mkF m pc' Ls (.int v :: st))) : Go p.tables e below G T (mkF m pc Ls (st)) := by
  subst hp; subst hv; exact Go.step (fun _ k => XS.sipush X.here C.exec rfl (C.at hd)  k) K
theorem g_aconstNull (C : Cx p l s m meth c Z x0 code maxL ret) (X : Stand p l e R s m args below meth c T locs cells slots) {pc pc' : Nat} {Ls : Array Slot} {st : List Value}  (hd : decode code pc = .ok (.aconst_null, 1))  (hp : pc + 1 = pc')
    (K : Go p.tables e below G T (mkF m pc' Ls (.null :: st))) : Go p.tables e below G T (mkF m pc Ls (st)) := by
  subst hp; exact Go.step (fun _ k => XS.aconstNull X.here C.exec rfl (C.at hd)  k) K
theorem g_lconst (C : Cx p l s m meth c Z x0 code maxL ret) (X : Stand p l e R s m args below meth c T locs cells slots) {pc pc' : Nat} {Ls : Array Slot} {st : List Value} {k : Fin 2} {v : Int64} (hd : decode code pc = .ok (.lconst k, 1)) (hv : Int64.ofNat k = v) (hp : pc + 1 = pc')
    (K : Go p.tables e below G T (mkF m pc' Ls (.long v :: st))) : Go p.tables e below G T (mkF m pc Ls (st)) := by
  subst hp; subst hv; exact Go.step (fun _ k => XT.lconst X.here C.exec rfl (C.at hd)  k) K
theorem g_dconst0 (C : Cx p l s m meth c Z x0 code maxL ret) (X : Stand p l e R s m args below meth c T locs cells slots) {pc pc' : Nat} {Ls : Array Slot} {st : List Value} {v : UInt64} (hd : decode code pc = .ok (.dconst 0, 1)) (hv : FP.dconst0 = v) (hp : pc + 1 = pc')
    (K : Go p.tables e below G T (mkF m pc' Ls (.double v :: st))) : Go p.tables e below G T (mkF m pc Ls (st)) := by
  subst hp; exact Go.step (fun _ k => XS.dconst0 X.here C.exec rfl (C.at hd) hv k) K
theorem g_dconst1 (C : Cx p l s m meth c Z x0 code maxL ret) (X : Stand p l e R s m args below meth c T locs cells slots) {pc pc' : Nat} {Ls : Array Slot} {st : List Value} {v : UInt64} (hd : decode code pc = .ok (.dconst 1, 1)) (hv : FP.dconst1 = v) (hp : pc + 1 = pc')
    (K : Go p.tables e below G T (mkF m pc' Ls (.double v :: st))) : Go p.tables e below G T (mkF m pc Ls (st)) := by
  subst hp; exact Go.step (fun _ k => XS.dconst1 X.here C.exec rfl (C.at hd) hv k) K
theorem g_iadd (C : Cx p l s m meth c Z x0 code maxL ret) (X : Stand p l e R s m args below meth c T locs cells slots) {pc pc' : Nat} {Ls : Array Slot} {st : List Value} {x y : Int32} (hd : decode code pc = .ok (.iadd, 1))  (hp : pc + 1 = pc')
    (K : Go p.tables e below G T (mkF m pc' Ls (.int (x + y) :: st))) : Go p.tables e below G T (mkF m pc Ls (.int y :: .int x :: st)) := by
  subst hp; exact Go.step (fun _ k => XS.iadd X.here C.exec rfl (C.at hd) rfl k) K
theorem g_isub (C : Cx p l s m meth c Z x0 code maxL ret) (X : Stand p l e R s m args below meth c T locs cells slots) {pc pc' : Nat} {Ls : Array Slot} {st : List Value} {x y : Int32} (hd : decode code pc = .ok (.isub, 1))  (hp : pc + 1 = pc')
    (K : Go p.tables e below G T (mkF m pc' Ls (.int (x - y) :: st))) : Go p.tables e below G T (mkF m pc Ls (.int y :: .int x :: st)) := by
  subst hp; exact Go.step (fun _ k => XS.isub X.here C.exec rfl (C.at hd) rfl k) K
theorem g_iand (C : Cx p l s m meth c Z x0 code maxL ret) (X : Stand p l e R s m args below meth c T locs cells slots) {pc pc' : Nat} {Ls : Array Slot} {st : List Value} {x y : Int32} (hd : decode code pc = .ok (.iand, 1))  (hp : pc + 1 = pc')
    (K : Go p.tables e below G T (mkF m pc' Ls (.int (x &&& y) :: st))) : Go p.tables e below G T (mkF m pc Ls (.int y :: .int x :: st)) := by
  subst hp; exact Go.step (fun _ k => XS.iand X.here C.exec rfl (C.at hd) rfl k) K
theorem g_imul (C : Cx p l s m meth c Z x0 code maxL ret) (X : Stand p l e R s m args below meth c T locs cells slots) {pc pc' : Nat} {Ls : Array Slot} {st : List Value} {x y : Int32} (hd : decode code pc = .ok (.imul, 1))  (hp : pc + 1 = pc')
    (K : Go p.tables e below G T (mkF m pc' Ls (.int (x * y) :: st))) : Go p.tables e below G T (mkF m pc Ls (.int y :: .int x :: st)) := by
  subst hp; exact Go.step (fun _ k => XS.imul X.here C.exec rfl (C.at hd) rfl k) K
theorem g_idiv (C : Cx p l s m meth c Z x0 code maxL ret) (X : Stand p l e R s m args below meth c T locs cells slots) {pc pc' : Nat} {Ls : Array Slot} {st : List Value} {x y : Int32} (hd : decode code pc = .ok (.idiv, 1)) (hy : y ≠ 0) (hp : pc + 1 = pc')
    (K : Go p.tables e below G T (mkF m pc' Ls (.int (x / y) :: st))) : Go p.tables e below G T (mkF m pc Ls (.int y :: .int x :: st)) := by
  subst hp; exact Go.step (fun _ k => XS.idiv X.here C.exec rfl (C.at hd) rfl hy k) K
theorem g_ineg (C : Cx p l s m meth c Z x0 code maxL ret) (X : Stand p l e R s m args below meth c T locs cells slots) {pc pc' : Nat} {Ls : Array Slot} {st : List Value} {x : Int32} (hd : decode code pc = .ok (.ineg, 1))  (hp : pc + 1 = pc')
    (K : Go p.tables e below G T (mkF m pc' Ls (.int (-x) :: st))) : Go p.tables e below G T (mkF m pc Ls (.int x :: st)) := by
  subst hp; exact Go.step (fun _ k => XS.ineg X.here C.exec rfl (C.at hd) rfl k) K
theorem g_ixor (C : Cx p l s m meth c Z x0 code maxL ret) (X : Stand p l e R s m args below meth c T locs cells slots) {pc pc' : Nat} {Ls : Array Slot} {st : List Value} {x y : Int32} (hd : decode code pc = .ok (.ixor, 1))  (hp : pc + 1 = pc')
    (K : Go p.tables e below G T (mkF m pc' Ls (.int (x ^^^ y) :: st))) : Go p.tables e below G T (mkF m pc Ls (.int y :: .int x :: st)) := by
  subst hp; exact Go.step (fun _ k => XT.ixor X.here C.exec rfl (C.at hd) rfl k) K
theorem g_ior (C : Cx p l s m meth c Z x0 code maxL ret) (X : Stand p l e R s m args below meth c T locs cells slots) {pc pc' : Nat} {Ls : Array Slot} {st : List Value} {x y : Int32} (hd : decode code pc = .ok (.ior, 1))  (hp : pc + 1 = pc')
    (K : Go p.tables e below G T (mkF m pc' Ls (.int (x ||| y) :: st))) : Go p.tables e below G T (mkF m pc Ls (.int y :: .int x :: st)) := by
  subst hp; exact Go.step (fun _ k => XT.ior X.here C.exec rfl (C.at hd) rfl k) K
theorem g_ishl (C : Cx p l s m meth c Z x0 code maxL ret) (X : Stand p l e R s m args below meth c T locs cells slots) {pc pc' : Nat} {Ls : Array Slot} {st : List Value} {x y : Int32} (hd : decode code pc = .ok (.ishl, 1))  (hp : pc + 1 = pc')
    (K : Go p.tables e below G T (mkF m pc' Ls (.int (x <<< (y &&& 31)) :: st))) : Go p.tables e below G T (mkF m pc Ls (.int y :: .int x :: st)) := by
  subst hp; exact Go.step (fun _ k => XT.ishl X.here C.exec rfl (C.at hd) rfl k) K
theorem g_ishr (C : Cx p l s m meth c Z x0 code maxL ret) (X : Stand p l e R s m args below meth c T locs cells slots) {pc pc' : Nat} {Ls : Array Slot} {st : List Value} {x y : Int32} (hd : decode code pc = .ok (.ishr, 1))  (hp : pc + 1 = pc')
    (K : Go p.tables e below G T (mkF m pc' Ls (.int (x >>> (y &&& 31)) :: st))) : Go p.tables e below G T (mkF m pc Ls (.int y :: .int x :: st)) := by
  subst hp; exact Go.step (fun _ k => XT.ishr X.here C.exec rfl (C.at hd) rfl k) K
theorem g_iushr (C : Cx p l s m meth c Z x0 code maxL ret) (X : Stand p l e R s m args below meth c T locs cells slots) {pc pc' : Nat} {Ls : Array Slot} {st : List Value} {x y : Int32} (hd : decode code pc = .ok (.iushr, 1))  (hp : pc + 1 = pc')
    (K : Go p.tables e below G T (mkF m pc' Ls (.int (XT.ushr x y) :: st))) : Go p.tables e below G T (mkF m pc Ls (.int y :: .int x :: st)) := by
  subst hp; exact Go.step (fun _ k => XT.iushr X.here C.exec rfl (C.at hd) rfl k) K
theorem g_ladd (C : Cx p l s m meth c Z x0 code maxL ret) (X : Stand p l e R s m args below meth c T locs cells slots) {pc pc' : Nat} {Ls : Array Slot} {st : List Value} {x y : Int64} (hd : decode code pc = .ok (.ladd, 1))  (hp : pc + 1 = pc')
    (K : Go p.tables e below G T (mkF m pc' Ls (.long (x + y) :: st))) : Go p.tables e below G T (mkF m pc Ls (.long y :: .long x :: st)) := by
  subst hp; exact Go.step (fun _ k => XT.ladd X.here C.exec rfl (C.at hd) rfl k) K
theorem g_lsub (C : Cx p l s m meth c Z x0 code maxL ret) (X : Stand p l e R s m args below meth c T locs cells slots) {pc pc' : Nat} {Ls : Array Slot} {st : List Value} {x y : Int64} (hd : decode code pc = .ok (.lsub, 1))  (hp : pc + 1 = pc')
    (K : Go p.tables e below G T (mkF m pc' Ls (.long (x - y) :: st))) : Go p.tables e below G T (mkF m pc Ls (.long y :: .long x :: st)) := by
  subst hp; exact Go.step (fun _ k => XT.lsub X.here C.exec rfl (C.at hd) rfl k) K
theorem g_lmul (C : Cx p l s m meth c Z x0 code maxL ret) (X : Stand p l e R s m args below meth c T locs cells slots) {pc pc' : Nat} {Ls : Array Slot} {st : List Value} {x y : Int64} (hd : decode code pc = .ok (.lmul, 1))  (hp : pc + 1 = pc')
    (K : Go p.tables e below G T (mkF m pc' Ls (.long (x * y) :: st))) : Go p.tables e below G T (mkF m pc Ls (.long y :: .long x :: st)) := by
  subst hp; exact Go.step (fun _ k => XT.lmul X.here C.exec rfl (C.at hd) rfl k) K
theorem g_land (C : Cx p l s m meth c Z x0 code maxL ret) (X : Stand p l e R s m args below meth c T locs cells slots) {pc pc' : Nat} {Ls : Array Slot} {st : List Value} {x y : Int64} (hd : decode code pc = .ok (.land, 1))  (hp : pc + 1 = pc')
    (K : Go p.tables e below G T (mkF m pc' Ls (.long (x &&& y) :: st))) : Go p.tables e below G T (mkF m pc Ls (.long y :: .long x :: st)) := by
  subst hp; exact Go.step (fun _ k => XT.land X.here C.exec rfl (C.at hd) rfl k) K
theorem g_lor (C : Cx p l s m meth c Z x0 code maxL ret) (X : Stand p l e R s m args below meth c T locs cells slots) {pc pc' : Nat} {Ls : Array Slot} {st : List Value} {x y : Int64} (hd : decode code pc = .ok (.lor, 1))  (hp : pc + 1 = pc')
    (K : Go p.tables e below G T (mkF m pc' Ls (.long (x ||| y) :: st))) : Go p.tables e below G T (mkF m pc Ls (.long y :: .long x :: st)) := by
  subst hp; exact Go.step (fun _ k => XT.lor X.here C.exec rfl (C.at hd) rfl k) K
theorem g_lxor (C : Cx p l s m meth c Z x0 code maxL ret) (X : Stand p l e R s m args below meth c T locs cells slots) {pc pc' : Nat} {Ls : Array Slot} {st : List Value} {x y : Int64} (hd : decode code pc = .ok (.lxor, 1))  (hp : pc + 1 = pc')
    (K : Go p.tables e below G T (mkF m pc' Ls (.long (x ^^^ y) :: st))) : Go p.tables e below G T (mkF m pc Ls (.long y :: .long x :: st)) := by
  subst hp; exact Go.step (fun _ k => XT.lxor X.here C.exec rfl (C.at hd) rfl k) K
theorem g_lneg (C : Cx p l s m meth c Z x0 code maxL ret) (X : Stand p l e R s m args below meth c T locs cells slots) {pc pc' : Nat} {Ls : Array Slot} {st : List Value} {x : Int64} (hd : decode code pc = .ok (.lneg, 1))  (hp : pc + 1 = pc')
    (K : Go p.tables e below G T (mkF m pc' Ls (.long (-x) :: st))) : Go p.tables e below G T (mkF m pc Ls (.long x :: st)) := by
  subst hp; exact Go.step (fun _ k => XT.lneg X.here C.exec rfl (C.at hd) rfl k) K
theorem g_i2l (C : Cx p l s m meth c Z x0 code maxL ret) (X : Stand p l e R s m args below meth c T locs cells slots) {pc pc' : Nat} {Ls : Array Slot} {st : List Value} {x : Int32} (hd : decode code pc = .ok (.i2l, 1))  (hp : pc + 1 = pc')
    (K : Go p.tables e below G T (mkF m pc' Ls (.long x.toInt64 :: st))) : Go p.tables e below G T (mkF m pc Ls (.int x :: st)) := by
  subst hp; exact Go.step (fun _ k => XT.i2l X.here C.exec rfl (C.at hd) rfl k) K
theorem g_l2i (C : Cx p l s m meth c Z x0 code maxL ret) (X : Stand p l e R s m args below meth c T locs cells slots) {pc pc' : Nat} {Ls : Array Slot} {st : List Value} {x : Int64} (hd : decode code pc = .ok (.l2i, 1))  (hp : pc + 1 = pc')
    (K : Go p.tables e below G T (mkF m pc' Ls (.int x.toInt32 :: st))) : Go p.tables e below G T (mkF m pc Ls (.long x :: st)) := by
  subst hp; exact Go.step (fun _ k => XT.l2i X.here C.exec rfl (C.at hd) rfl k) K
theorem g_i2b (C : Cx p l s m meth c Z x0 code maxL ret) (X : Stand p l e R s m args below meth c T locs cells slots) {pc pc' : Nat} {Ls : Array Slot} {st : List Value} {x : Int32} (hd : decode code pc = .ok (.i2b, 1))  (hp : pc + 1 = pc')
    (K : Go p.tables e below G T (mkF m pc' Ls (.int x.toInt8.toInt32 :: st))) : Go p.tables e below G T (mkF m pc Ls (.int x :: st)) := by
  subst hp; exact Go.step (fun _ k => XT.i2b X.here C.exec rfl (C.at hd) rfl k) K
theorem g_i2s (C : Cx p l s m meth c Z x0 code maxL ret) (X : Stand p l e R s m args below meth c T locs cells slots) {pc pc' : Nat} {Ls : Array Slot} {st : List Value} {x : Int32} (hd : decode code pc = .ok (.i2s, 1))  (hp : pc + 1 = pc')
    (K : Go p.tables e below G T (mkF m pc' Ls (.int x.toInt16.toInt32 :: st))) : Go p.tables e below G T (mkF m pc Ls (.int x :: st)) := by
  subst hp; exact Go.step (fun _ k => XT.i2s X.here C.exec rfl (C.at hd) rfl k) K
theorem g_i2d (C : Cx p l s m meth c Z x0 code maxL ret) (X : Stand p l e R s m args below meth c T locs cells slots) {pc pc' : Nat} {Ls : Array Slot} {st : List Value} {x : Int32} (hd : decode code pc = .ok (.i2d, 1))  (hp : pc + 1 = pc')
    (K : Go p.tables e below G T (mkF m pc' Ls (.double (FP.i2d x) :: st))) : Go p.tables e below G T (mkF m pc Ls (.int x :: st)) := by
  subst hp; exact Go.step (fun _ k => XS.i2dS X.here C.exec rfl (C.at hd) rfl rfl k) K
theorem g_l2d (C : Cx p l s m meth c Z x0 code maxL ret) (X : Stand p l e R s m args below meth c T locs cells slots) {pc pc' : Nat} {Ls : Array Slot} {st : List Value} {x : Int64} (hd : decode code pc = .ok (.l2d, 1))  (hp : pc + 1 = pc')
    (K : Go p.tables e below G T (mkF m pc' Ls (.double (FP.l2d x) :: st))) : Go p.tables e below G T (mkF m pc Ls (.long x :: st)) := by
  subst hp; exact Go.step (fun _ k => XS.l2dS X.here C.exec rfl (C.at hd) rfl rfl k) K
theorem g_dneg (C : Cx p l s m meth c Z x0 code maxL ret) (X : Stand p l e R s m args below meth c T locs cells slots) {pc pc' : Nat} {Ls : Array Slot} {st : List Value} {x : UInt64} (hd : decode code pc = .ok (.dneg, 1))  (hp : pc + 1 = pc')
    (K : Go p.tables e below G T (mkF m pc' Ls (.double (FP.dneg x) :: st))) : Go p.tables e below G T (mkF m pc Ls (.double x :: st)) := by
  subst hp; exact Go.step (fun _ k => XS.dnegS X.here C.exec rfl (C.at hd) rfl rfl k) K
theorem g_dcmp (C : Cx p l s m meth c Z x0 code maxL ret) (X : Stand p l e R s m args below meth c T locs cells slots) {pc pc' : Nat} {Ls : Array Slot} {st : List Value} {o : CmpOp} {x y : UInt64} (hd : decode code pc = .ok (.dcmp o, 1))  (hp : pc + 1 = pc')
    (K : Go p.tables e below G T (mkF m pc' Ls (.int (cmpValue (FP.dcmp x y) o) :: st))) : Go p.tables e below G T (mkF m pc Ls (.double y :: .double x :: st)) := by
  subst hp; exact Go.step (fun _ k => XS.dcmpS X.here C.exec rfl (C.at hd) rfl rfl k) K
theorem g_dcmpV (C : Cx p l s m meth c Z x0 code maxL ret) (X : Stand p l e R s m args below meth c T locs cells slots) {pc pc' : Nat} {Ls : Array Slot} {st : List Value} {o : CmpOp} {x y : UInt64} {v : Int32} (hd : decode code pc = .ok (.dcmp o, 1)) (hv : cmpValue (FP.dcmp x y) o = v) (hp : pc + 1 = pc')
    (K : Go p.tables e below G T (mkF m pc' Ls (.int v :: st))) : Go p.tables e below G T (mkF m pc Ls (.double y :: .double x :: st)) := by
  subst hp; exact Go.step (fun _ k => XS.dcmpS X.here C.exec rfl (C.at hd) rfl hv k) K
theorem g_dadd (C : Cx p l s m meth c Z x0 code maxL ret) (X : Stand p l e R s m args below meth c T locs cells slots) {pc pc' : Nat} {Ls : Array Slot} {st : List Value} {x y : UInt64} (hd : decode code pc = .ok (.dadd, 1)) (hn : Jvm.Free.Fl.NoNaN64 (FP.dadd x y)) (hp : pc + 1 = pc')
    (K : Go p.tables e below G T (mkF m pc' Ls (.double (FP.dadd x y) :: st))) : Go p.tables e below G T (mkF m pc Ls (.double y :: .double x :: st)) := by
  subst hp; exact Go.step (fun _ k => XS.daddS X.here C.exec rfl (C.at hd) rfl hn rfl k) K
theorem g_dsub (C : Cx p l s m meth c Z x0 code maxL ret) (X : Stand p l e R s m args below meth c T locs cells slots) {pc pc' : Nat} {Ls : Array Slot} {st : List Value} {x y : UInt64} (hd : decode code pc = .ok (.dsub, 1)) (hn : Jvm.Free.Fl.NoNaN64 (FP.dsub x y)) (hp : pc + 1 = pc')
    (K : Go p.tables e below G T (mkF m pc' Ls (.double (FP.dsub x y) :: st))) : Go p.tables e below G T (mkF m pc Ls (.double y :: .double x :: st)) := by
  subst hp; exact Go.step (fun _ k => XS.dsubS X.here C.exec rfl (C.at hd) rfl hn rfl k) K
theorem g_dmul (C : Cx p l s m meth c Z x0 code maxL ret) (X : Stand p l e R s m args below meth c T locs cells slots) {pc pc' : Nat} {Ls : Array Slot} {st : List Value} {x y : UInt64} (hd : decode code pc = .ok (.dmul, 1)) (hn : Jvm.Free.Fl.NoNaN64 (FP.dmul x y)) (hp : pc + 1 = pc')
    (K : Go p.tables e below G T (mkF m pc' Ls (.double (FP.dmul x y) :: st))) : Go p.tables e below G T (mkF m pc Ls (.double y :: .double x :: st)) := by
  subst hp; exact Go.step (fun _ k => XS.dmulS X.here C.exec rfl (C.at hd) rfl hn rfl k) K
theorem g_ddiv (C : Cx p l s m meth c Z x0 code maxL ret) (X : Stand p l e R s m args below meth c T locs cells slots) {pc pc' : Nat} {Ls : Array Slot} {st : List Value} {x y : UInt64} (hd : decode code pc = .ok (.ddiv, 1)) (hn : Jvm.Free.Fl.NoNaN64 (FP.ddiv x y)) (hp : pc + 1 = pc')
    (K : Go p.tables e below G T (mkF m pc' Ls (.double (FP.ddiv x y) :: st))) : Go p.tables e below G T (mkF m pc Ls (.double y :: .double x :: st)) := by
  subst hp; exact Go.step (fun _ k => XS.ddivS X.here C.exec rfl (C.at hd) rfl hn rfl k) K
theorem g_lcmp (C : Cx p l s m meth c Z x0 code maxL ret) (X : Stand p l e R s m args below meth c T locs cells slots) {pc pc' : Nat} {Ls : Array Slot} {st : List Value} {x y : Int64} (hd : decode code pc = .ok (.lcmp, 1))  (hp : pc + 1 = pc')
    (K : Go p.tables e below G T (mkF m pc' Ls (.int (XT.cmpL x y) :: st))) : Go p.tables e below G T (mkF m pc Ls (.long y :: .long x :: st)) := by
  subst hp; exact Go.step (fun _ k => XT.lcmp X.here C.exec rfl (C.at hd) rfl k) K
theorem g_pop (C : Cx p l s m meth c Z x0 code maxL ret) (X : Stand p l e R s m args below meth c T locs cells slots) {pc pc' : Nat} {Ls : Array Slot} {st : List Value} {x : Value} (hd : decode code pc = .ok (.pop, 1)) (hc : x.category = 1) (hp : pc + 1 = pc')
    (K : Go p.tables e below G T (mkF m pc' Ls (st))) : Go p.tables e below G T (mkF m pc Ls (x :: st)) := by
  subst hp; exact Go.step (fun _ k => XT.pop X.here C.exec rfl (C.at hd) rfl hc k) K
theorem g_dup (C : Cx p l s m meth c Z x0 code maxL ret) (X : Stand p l e R s m args below meth c T locs cells slots) {pc pc' : Nat} {Ls : Array Slot} {st : List Value} {x : Value} (hd : decode code pc = .ok (.dup, 1)) (hc : x.category = 1) (hp : pc + 1 = pc')
    (K : Go p.tables e below G T (mkF m pc' Ls (x :: x :: st))) : Go p.tables e below G T (mkF m pc Ls (x :: st)) := by
  subst hp; exact Go.step (fun _ k => XS.dup X.here C.exec rfl (C.at hd) rfl hc k) K
theorem g_dupX1 (C : Cx p l s m meth c Z x0 code maxL ret) (X : Stand p l e R s m args below meth c T locs cells slots) {pc pc' : Nat} {Ls : Array Slot} {st : List Value} {x y : Value} (hd : decode code pc = .ok (.dup_x1, 1)) (hc : x.category = 1) (hc' : y.category = 1) (hp : pc + 1 = pc')
    (K : Go p.tables e below G T (mkF m pc' Ls (x :: y :: x :: st))) : Go p.tables e below G T (mkF m pc Ls (x :: y :: st)) := by
  subst hp; exact Go.step (fun _ k => XT.dupX1 X.here C.exec rfl (C.at hd) rfl hc hc' k) K
theorem g_dup2 (C : Cx p l s m meth c Z x0 code maxL ret) (X : Stand p l e R s m args below meth c T locs cells slots) {pc pc' : Nat} {Ls : Array Slot} {st : List Value} {x y : Value} (hd : decode code pc = .ok (.dup2, 1)) (hc : x.category = 1) (hc' : y.category = 1) (hp : pc + 1 = pc')
    (K : Go p.tables e below G T (mkF m pc' Ls (x :: y :: x :: y :: st))) : Go p.tables e below G T (mkF m pc Ls (x :: y :: st)) := by
  subst hp; exact Go.step (fun _ k => XT.dup2 X.here C.exec rfl (C.at hd) rfl hc hc' k) K
theorem g_iinc (C : Cx p l s m meth c Z x0 code maxL ret) (X : Stand p l e R s m args below meth c T locs cells slots) {pc pc' : Nat} {Ls : Array Slot} {st : List Value} {k : Nat} {cst : Int} {x z : Int32} {l' : Array Slot} (hd : decode code pc = .ok (.iinc k cst, 3)) (hl : Ls[k]? = some (.val (.int x))) (hz : z = x + Int32.ofInt cst) (hl' : storeLocals Ls k (.int z) = some l') (hp : pc + 3 = pc')
    (K : Go p.tables e below G T (mkF m pc' l' (st))) : Go p.tables e below G T (mkF m pc Ls (st)) := by
  subst hp; subst hz; exact Go.step (fun _ k => XS.iinc X.here C.exec rfl (C.at hd) hl hl' k) K
theorem g_irem (C : Cx p l s m meth c Z x0 code maxL ret) (X : Stand p l e R s m args below meth c T locs cells slots) {pc pc' : Nat} {Ls : Array Slot} {st : List Value} {x y : Int32} (hd : decode code pc = .ok (.irem, 1)) (hy : y ≠ 0) (hp : pc + 1 = pc')
    (K : Go p.tables e below G T (mkF m pc' Ls (.int (x % y) :: st))) : Go p.tables e below G T (mkF m pc Ls (.int y :: .int x :: st)) := by
  subst hp; exact Go.step (fun _ k => iremM X C.exec rfl (C.at hd) rfl hy k) K
theorem g_lushr (C : Cx p l s m meth c Z x0 code maxL ret) (X : Stand p l e R s m args below meth c T locs cells slots) {pc pc' : Nat} {Ls : Array Slot} {st : List Value} {x : Int64} {y : Int32} (hd : decode code pc = .ok (.lushr, 1)) (hp : pc + 1 = pc')
    (K : Go p.tables e below G T (mkF m pc' Ls (.long (XT.ushrL x y) :: st))) : Go p.tables e below G T (mkF m pc Ls (.int y :: .long x :: st)) := by
  subst hp; exact Go.step (fun _ k => XT.lushr X.here C.exec rfl (C.at hd) rfl k) K
/-- what a branch asks, of whole numbers -/
abbrev cpI : ClassFile.Cond → Int → Int → Prop
  | .eq, x, y => x = y
  | .ne, x, y => ¬ x = y
  | .lt, x, y => x < y
  | .ge, x, y => ¬ x < y
  | .gt, x, y => y < x
  | .le, x, y => ¬ y < x
theorem holds_icmp (cd : ClassFile.Cond) (x y : Int32) : if_icmp.holds cd x y = true ↔ cpI cd x.toInt y.toInt := by
  cases cd <;> simp only [if_icmp.holds, cpI, decide_eq_true_eq, beq_iff_eq, bne_iff_ne, ne_eq, Int32.lt_iff_toInt_lt, Int32.le_iff_toInt_le, Int32.toInt_inj, Int.not_lt, ge_iff_le, gt_iff_lt]
theorem holds_if (cd : ClassFile.Cond) (x : Int32) : ifCond.holds cd x = true ↔ cpI cd x.toInt 0 := by
  rw [if0]; exact holds_icmp cd x 0
theorem g_goto (C : Cx p l s m meth c Z x0 code maxL ret) (X : Stand p l e R s m args below meth c T locs cells slots) {pc pc' : Nat} {Ls : Array Slot} {st : List Value} {o : Int} (hd : decode code pc = .ok (.goto o, 3)) (ho : 0 ≤ (pc : Int) + o) (hp : ((pc : Int) + o).toNat = pc')
    (K : Go p.tables e below G T (mkF m pc' Ls st)) : Go p.tables e below G T (mkF m pc Ls st) :=
  Go.step (fun _ k => XS.goto X.here C.exec rfl rfl (C.at hd) ho hp k) K
theorem g_if (C : Cx p l s m meth c Z x0 code maxL ret) (X : Stand p l e R s m args below meth c T locs cells slots) {pc pc' pc'' : Nat} {Ls : Array Slot} {st : List Value} {cd : ClassFile.Cond} {x : Int32} {o : Int} (hd : decode code pc = .ok (.ifCond cd o, 3)) (ho : 0 ≤ (pc : Int) + o) (hp : ((pc : Int) + o).toNat = pc') (hp3 : pc + 3 = pc'')
    (K1 : cpI cd x.toInt 0 → Go p.tables e below G T (mkF m pc' Ls st)) (K2 : ¬ cpI cd x.toInt 0 → Go p.tables e below G T (mkF m pc'' Ls st)) : Go p.tables e below G T (mkF m pc Ls (.int x :: st)) := by
  subst hp3
  cases hc : ifCond.holds cd x with
  | true => exact Go.step (fun _ k => XS.ifYes X.here C.exec rfl rfl (C.at hd) rfl hc ho hp k) (K1 ((holds_if cd x).mp hc))
  | false => exact Go.step (fun _ k => XS.ifNo X.here C.exec rfl (C.at hd) rfl hc k) (K2 fun q => by rw [(holds_if cd x).mpr q] at hc; cases hc)
theorem g_icmp (C : Cx p l s m meth c Z x0 code maxL ret) (X : Stand p l e R s m args below meth c T locs cells slots) {pc pc' pc'' : Nat} {Ls : Array Slot} {st : List Value} {cd : ClassFile.Cond} {x y : Int32} {o : Int} (hd : decode code pc = .ok (.if_icmp cd o, 3)) (ho : 0 ≤ (pc : Int) + o) (hp : ((pc : Int) + o).toNat = pc') (hp3 : pc + 3 = pc'')
    (K1 : cpI cd x.toInt y.toInt → Go p.tables e below G T (mkF m pc' Ls st)) (K2 : ¬ cpI cd x.toInt y.toInt → Go p.tables e below G T (mkF m pc'' Ls st)) : Go p.tables e below G T (mkF m pc Ls (.int y :: .int x :: st)) := by
  subst hp3
  cases hc : if_icmp.holds cd x y with
  | true => exact Go.step (fun _ k => XS.icmpYes X.here C.exec rfl rfl (C.at hd) rfl hc ho hp k) (K1 ((holds_icmp cd x y).mp hc))
  | false => exact Go.step (fun _ k => XS.icmpNo X.here C.exec rfl (C.at hd) rfl hc k) (K2 fun q => by rw [(holds_icmp cd x y).mpr q] at hc; cases hc)
theorem g_ifY (C : Cx p l s m meth c Z x0 code maxL ret) (X : Stand p l e R s m args below meth c T locs cells slots) {pc pc' : Nat} {Ls : Array Slot} {st : List Value} {cd : ClassFile.Cond} {x : Int32} {o : Int} (hd : decode code pc = .ok (.ifCond cd o, 3)) (ho : 0 ≤ (pc : Int) + o) (hp : ((pc : Int) + o).toNat = pc') (hc : cpI cd x.toInt 0)
    (K1 : Go p.tables e below G T (mkF m pc' Ls st)) : Go p.tables e below G T (mkF m pc Ls (.int x :: st)) :=
  Go.step (fun _ k => XS.ifYes X.here C.exec rfl rfl (C.at hd) rfl ((holds_if cd x).mpr hc) ho hp k) K1
theorem g_ifN (C : Cx p l s m meth c Z x0 code maxL ret) (X : Stand p l e R s m args below meth c T locs cells slots) {pc pc' : Nat} {Ls : Array Slot} {st : List Value} {cd : ClassFile.Cond} {x : Int32} {o : Int} (hd : decode code pc = .ok (.ifCond cd o, 3)) (hc : ¬ cpI cd x.toInt 0) (hp : pc + 3 = pc')
    (K1 : Go p.tables e below G T (mkF m pc' Ls st)) : Go p.tables e below G T (mkF m pc Ls (.int x :: st)) := by
  subst hp
  exact Go.step (fun _ k => XS.ifNo X.here C.exec rfl (C.at hd) rfl (Bool.eq_false_iff.mpr fun q => hc ((holds_if cd x).mp q)) k) K1
theorem g_icmpY (C : Cx p l s m meth c Z x0 code maxL ret) (X : Stand p l e R s m args below meth c T locs cells slots) {pc pc' : Nat} {Ls : Array Slot} {st : List Value} {cd : ClassFile.Cond} {x y : Int32} {o : Int} (hd : decode code pc = .ok (.if_icmp cd o, 3)) (ho : 0 ≤ (pc : Int) + o) (hp : ((pc : Int) + o).toNat = pc') (hc : cpI cd x.toInt y.toInt)
    (K1 : Go p.tables e below G T (mkF m pc' Ls st)) : Go p.tables e below G T (mkF m pc Ls (.int y :: .int x :: st)) :=
  Go.step (fun _ k => XS.icmpYes X.here C.exec rfl rfl (C.at hd) rfl ((holds_icmp cd x y).mpr hc) ho hp k) K1
theorem g_icmpN (C : Cx p l s m meth c Z x0 code maxL ret) (X : Stand p l e R s m args below meth c T locs cells slots) {pc pc' : Nat} {Ls : Array Slot} {st : List Value} {cd : ClassFile.Cond} {x y : Int32} {o : Int} (hd : decode code pc = .ok (.if_icmp cd o, 3)) (hc : ¬ cpI cd x.toInt y.toInt) (hp : pc + 3 = pc')
    (K1 : Go p.tables e below G T (mkF m pc' Ls st)) : Go p.tables e below G T (mkF m pc Ls (.int y :: .int x :: st)) := by
  subst hp
  exact Go.step (fun _ k => XS.icmpNo X.here C.exec rfl (C.at hd) rfl (Bool.eq_false_iff.mpr fun q => hc ((holds_icmp cd x y).mp q)) k) K1
/-! leaving the body -/
theorem g_out {k n : Nat} {Q : Option Value → Heap → List Loc → Prop} (C : Cx p l s m meth c Z x0 code maxL ret) (X : Stand p l e R s m args below meth c T locs cells slots) {v : Option Value} {g : JFrame} (hv : ret = none → v = none)
    (st : ∀ fs, (∀ (f : JFrame) (acts : List Action), f.method = m → f.locked = none → f.entered = [] → (doReturn e (T.setTop f) acts v).1 = T.setFrames fs) → Steps p.tables e below (T.setTop g) (T.setFrames fs))
    (hQ : Q v T.heap locs) (hk : cells ≤ k) (hn : slots ≤ n) : Go p.tables e below (End s Q k n) T g := by
  obtain ⟨fs, hr, hrun, hended, hW, hsame⟩ := X.leave (v := v) (fun q => hv (C.rets ▸ q)) C.unlocked
  exact ⟨_, _, st fs hr, hrun, hended, v, locs, rfl, hQ, ⟨_, rfl⟩, hW, hsame.mono hk hn⟩
theorem g_ireturn {k n : Nat} {Q : Option Value → Heap → List Loc → Prop} (C : Cx p l s m meth c Z x0 code maxL (some .int)) (X : Stand p l e R s m args below meth c T locs cells slots) {pc : Nat} {Ls : Array Slot} {st : List Value} {z : Int32} (hd : decode code pc = .ok (.ireturn, 1))
    (hQ : Q (some (.int z)) T.heap locs) (hk : cells ≤ k) (hn : slots ≤ n) : Go p.tables e below (End s Q k n) T (mkF m pc Ls (.int z :: st)) :=
  g_out C X (v := some (.int z)) (fun q => by cases q) (fun fs hr => retOut X C.exec C.rets rfl (Or.inl ⟨rfl, Or.inl rfl, _, rfl⟩) (C.at hd) hr) hQ hk hn
theorem g_zreturn {k n : Nat} {Q : Option Value → Heap → List Loc → Prop} (C : Cx p l s m meth c Z x0 code maxL (some .boolean)) (X : Stand p l e R s m args below meth c T locs cells slots) {pc : Nat} {Ls : Array Slot} {st : List Value} {z w : Int32} (hd : decode code pc = .ok (.ireturn, 1)) (hw : nar .boolean z = w)
    (hQ : Q (some (.int w)) T.heap locs) (hk : cells ≤ k) (hn : slots ≤ n) : Go p.tables e below (End s Q k n) T (mkF m pc Ls (.int z :: st)) :=
  g_out C X (v := some (.int w)) (fun q => by cases q) (fun fs hr => retN X C.exec (t := .boolean) C.rets (by simp) (C.at hd) (hw ▸ hr)) hQ hk hn
theorem g_lreturn {k n : Nat} {Q : Option Value → Heap → List Loc → Prop} (C : Cx p l s m meth c Z x0 code maxL (some .long)) (X : Stand p l e R s m args below meth c T locs cells slots) {pc : Nat} {Ls : Array Slot} {st : List Value} {z : Int64} (hd : decode code pc = .ok (.lreturn, 1))
    (hQ : Q (some (.long z)) T.heap locs) (hk : cells ≤ k) (hn : slots ≤ n) : Go p.tables e below (End s Q k n) T (mkF m pc Ls (.long z :: st)) :=
  g_out C X (v := some (.long z)) (fun q => by cases q) (fun fs hr => retOut X C.exec C.rets rfl (Or.inr (Or.inl ⟨rfl, rfl, _, rfl⟩)) (C.at hd) hr) hQ hk hn
theorem g_dreturn {k n : Nat} {Q : Option Value → Heap → List Loc → Prop} (C : Cx p l s m meth c Z x0 code maxL (some .double)) (X : Stand p l e R s m args below meth c T locs cells slots) {pc : Nat} {Ls : Array Slot} {st : List Value} {z : UInt64} (hd : decode code pc = .ok (.dreturn, 1))
    (hQ : Q (some (.double z)) T.heap locs) (hk : cells ≤ k) (hn : slots ≤ n) : Go p.tables e below (End s Q k n) T (mkF m pc Ls (.double z :: st)) :=
  g_out C X (v := some (.double z)) (fun q => by cases q) (fun fs hr => retOut X C.exec C.rets rfl (Or.inr (Or.inr (Or.inl ⟨rfl, rfl, _, rfl⟩))) (C.at hd) hr) hQ hk hn
theorem g_areturn {k n : Nat} {Q : Option Value → Heap → List Loc → Prop} {t : FieldType} (C : Cx p l s m meth c Z x0 code maxL (some t)) (X : Stand p l e R s m args below meth c T locs cells slots) {pc : Nat} {Ls : Array Slot} {st : List Value} {w : Value} (hd : decode code pc = .ok (.areturn, 1)) (ht : t.isReference = true) (hw : w.isRef = true) (hna : narrow t w = w)
    (hQ : Q (some w) T.heap locs) (hk : cells ≤ k) (hn : slots ≤ n) : Go p.tables e below (End s Q k n) T (mkF m pc Ls (w :: st)) :=
  g_out C X (v := some w) (fun q => by cases q) (fun fs hr => retOut X C.exec C.rets hna (Or.inr (Or.inr (Or.inr (Or.inr ⟨rfl, ht, hw⟩)))) (C.at hd) hr) hQ hk hn
theorem g_return {k n : Nat} {Q : Option Value → Heap → List Loc → Prop} (C : Cx p l s m meth c Z x0 code maxL none) (X : Stand p l e R s m args below meth c T locs cells slots) {pc : Nat} {Ls : Array Slot} (hd : decode code pc = .ok (.return_, 1))
    (hQ : Q none T.heap locs) (hk : cells ≤ k) (hn : slots ≤ n) : Go p.tables e below (End s Q k n) T (mkF m pc Ls []) :=
  g_out C X (v := none) (fun _ => rfl) (fun fs hr => X.returnOut C.exec C.rets (C.at hd) hr) hQ hk hn
/-! calls -/
theorem g_callS (C : Cx p l s m meth c Z x0 code maxL ret) (X : Stand p l e R s m args below meth c T locs cells slots) {index : Nat} {y : MethodName} {bytes : ByteArray} {mL : Nat} {rt : Option FieldType} {rm : Room} {as : Array Value} {Q : Option Value → Heap → List Loc → Prop} (K0 : Con l Z y bytes mL rt rm as h Q)
    (w1 : (Cond.methodLink x0.cls index y).before a0 Z = true) (w2 : (Cond.static y).before a0 Z = true) (w3 : (Cond.initialized y.cls).before a0 Z = true) (w4 : (Cond.code y bytes mL rt).before a0 Z = true)
    (hy : y.cls ≠ "java/lang/invoke/MethodHandle" ∧ y.cls ≠ "java/lang/invoke/VarHandle") (eT : T.heap = h) {pc pc' : Nat} {Ls : Array Slot} {st : List Value} (hd : decode code pc = .ok (.invokestatic index, 3)) (hsz : Ls.size = maxL)
    {ps : List FieldType} {r : Option FieldType} (hpd : parseMethodDescriptor y.desc = some ⟨ps, r⟩) (argsL rest : List Value) (hlen : argsL.length = ps.length) (has : argsL.toArray = as) (hst : st = argsL.reverse ++ rest) (W : Nat) (hW : (rest.map fun v => v.category).sum = W)
    (hfr : rm.frames + 1 ≤ R.frames) (hlo : W + (mL + 11) + rm.locals ≤ R.locals) (hce : cells + rm.cells ≤ R.cells) (hsl : slots + rm.slots ≤ R.slots) (hp : pc + 3 = pc')
    (K : ∀ v T' L, Stand p l e R s m args below meth c T' (locs ++ L) (cells + rm.cells) (slots + rm.slots) → Q v T'.heap L → Go p.tables e below G T' (mkF m pc' Ls (v.toList ++ rest))) : Go p.tables e below G T (mkF m pc Ls st) := by
  subst hp has
  obtain ⟨v, _, ⟨T1, L1, k1, n1⟩, -, X1, ⟨Lc, hQ, q1, q2, q3⟩, st1⟩ := Jvm.LawKit.callS X C.exec (y := y) C.own (mvT C.warm w1) (mvT C.warm w2) (mvT C.warm w3) (mvT C.warm w4) hy (backOf (W := W) (K0 []) C.warm w4 w3 hfr hlo)
    (g := mkF m pc Ls st) rfl (by rw [C.maxl]; exact hsz) (argsL := argsL) (rest := rest) (lenOf hpd hlen) hst (by show 2 * 0 + _ ≤ _; rw [hW]; omega) (C.at hd) (fun _ _ => ⟨rfl, eT, hce, hsl⟩)
  dsimp only [Pt.U, Pt.locs, Pt.cells, Pt.slots] at X1 q1 q2 q3 st1 hQ
  subst q1 q2 q3
  exact Go.step st1 (K v T1 Lc X1 hQ)
theorem go_trans {tb : Tables} {T1 : State} {g g1 : JFrame} (st : Steps tb e below (T.setTop g) (T1.setTop g1)) (k : Go tb e below G T1 g1) : Go tb e below G T g := by
  obtain ⟨s2, o, h1, h2⟩ := k
  exact ⟨s2, o, st.trans h1, h2⟩
theorem g_callI (C : Cx p l s m meth c Z x0 code maxL ret) (X : Stand p l e R s m args below meth c T locs cells slots) {index : Nat} {y : MethodName} {bytes : ByteArray} {mL : Nat} {rm : Room} {as : Array Value} {Q : Option Value → Heap → List Loc → Prop} (K0 : Con l Z y bytes mL none rm as h Q) (hy1 : y.name = "<init>")
    (w1 : (Cond.methodLink x0.cls index y).before a0 Z = true) (w2 : (Cond.instanceMethod y).before a0 Z = true) (w3 : (Cond.initialized y.cls).before a0 Z = true) (w4 : (Cond.code y bytes mL none).before a0 Z = true)
    (hy : y.cls ≠ "java/lang/invoke/MethodHandle" ∧ y.cls ≠ "java/lang/invoke/VarHandle") (eT : T.heap = h) {pc pc' : Nat} {Ls : Array Slot} {st : List Value} (hd : decode code pc = .ok (.invokespecial index, 3)) (hsz : Ls.size = maxL)
    {ps : List FieldType} {r : Option FieldType} (hpd : parseMethodDescriptor y.desc = some ⟨ps, r⟩) (a : Addr) (argsL rest : List Value) (hlen : argsL.length = ps.length) (has : (.ref a :: argsL).toArray = as) (hst : st = argsL.reverse ++ .ref a :: rest) (W : Nat) (hW : (rest.map fun v => v.category).sum = W)
    (hfr : rm.frames + 1 ≤ R.frames) (hlo : W + (mL + 11) + rm.locals ≤ R.locals) (hce : cells + rm.cells ≤ R.cells) (hsl : slots + rm.slots ≤ R.slots) (hp : pc + 3 = pc')
    (K : ∀ v T' L, Stand p l e R s m args below meth c T' (locs ++ L) (cells + rm.cells) (slots + rm.slots) → Q v T'.heap L → Go p.tables e below G T' (mkF m pc' Ls (v.toList ++ rest))) : Go p.tables e below G T (mkF m pc Ls st) := by
  subst hp has
  obtain ⟨v, _, ⟨T1, L1, k1, n1⟩, -, X1, ⟨Lc, hQ, q1, q2, q3⟩, st1⟩ := X.specialBack C.exec (y := y) hy1 C.own (mvT C.warm w1) (mvT C.warm w2) (mvT C.warm w4) hy (backOf (W := W) (K0 []) C.warm w4 w3 hfr hlo)
    (g := mkF m pc Ls st) rfl (by rw [C.maxl]; exact hsz) (Steps.refl _) (a := a) (argsL := argsL) (rest := rest) (lenOf hpd hlen) hst (by show 2 * 0 + _ ≤ _; rw [hW]; omega) (C.at hd) (fun _ _ => ⟨rfl, eT, hce, hsl⟩)
  dsimp only [Pt.U, Pt.locs, Pt.cells, Pt.slots] at X1 q1 q2 q3 st1 hQ
  subst q1 q2 q3
  exact go_trans st1 (K v T1 Lc X1 hQ)
theorem g_callV (C : Cx p l s m meth c Z x0 code maxL ret) (X : Stand p l e R s m args below meth c T locs cells slots) {index : Nat} {y : MethodName} {cls : String} {bytes : ByteArray} {mL : Nat} {rt : Option FieldType} {rm : Room} {as : Array Value} {Q : Option Value → Heap → List Loc → Prop} (K0 : Con l Z y bytes mL rt rm as h Q)
    (w1 : (Cond.methodLink x0.cls index y).before a0 Z = true) (w2 : (Cond.declares y).before a0 Z = true) (w5 : (Cond.selects cls y y).before a0 Z = true) (w6 : (Cond.instanceMethod y).before a0 Z = true) (w3 : (Cond.initialized y.cls).before a0 Z = true) (w4 : (Cond.code y bytes mL rt).before a0 Z = true)
    (hy : y.cls ≠ "java/lang/invoke/MethodHandle" ∧ y.cls ≠ "java/lang/invoke/VarHandle") (eT : T.heap = h) {a : Addr} (E : Exa Z h a cls) {pc pc' : Nat} {Ls : Array Slot} {st : List Value} (hd : decode code pc = .ok (.invokevirtual index, 3)) (hsz : Ls.size = maxL)
    {ps : List FieldType} {r : Option FieldType} (hpd : parseMethodDescriptor y.desc = some ⟨ps, r⟩) (argsL rest : List Value) (hlen : argsL.length = ps.length) (has : (.ref a :: argsL).toArray = as) (hst : st = argsL.reverse ++ .ref a :: rest) (W : Nat) (hW : (rest.map fun v => v.category).sum = W)
    (hfr : rm.frames + 1 ≤ R.frames) (hlo : W + (mL + 11) + rm.locals ≤ R.locals) (hce : cells + rm.cells ≤ R.cells) (hsl : slots + rm.slots ≤ R.slots) (hp : pc + 3 = pc')
    (K : ∀ v T' L, Stand p l e R s m args below meth c T' (locs ++ L) (cells + rm.cells) (slots + rm.slots) → Q v T'.heap L → Go p.tables e below G T' (mkF m pc' Ls (v.toList ++ rest))) : Go p.tables e below G T (mkF m pc Ls st) := by
  subst hp has
  obtain ⟨cq, kq, qa, qb, qc⟩ := isOf C.warm eT E
  obtain ⟨v, _, ⟨T1, L1, k1, n1⟩, -, X1, ⟨Lc, hQ, q1, q2, q3⟩, st1⟩ := X.virtualBack C.exec (y := y) (z := y) C.own (mvT C.warm w1) (mvT C.warm w2) (notFace_of_selects (args := #[]) (mvT C.warm w5)) (mvT C.warm w5) (mvT C.warm w6) hy (backOf (W := W) (K0 []) C.warm w4 w3 hfr hlo) qa qc
    (g := mkF m pc Ls st) rfl (by rw [C.maxl]; exact hsz) (Steps.refl _) (argsL := argsL) (rest := rest) (lenOf hpd hlen) hst (by show 2 * 0 + _ ≤ _; rw [hW]; omega) (C.at hd) (fun _ _ => ⟨rfl, eT, hce, hsl⟩)
  dsimp only [Pt.U, Pt.locs, Pt.cells, Pt.slots] at X1 q1 q2 q3 st1 hQ
  subst q1 q2 q3
  exact go_trans st1 (K v T1 Lc X1 hQ)
theorem g_initO (C : Cx p l s m meth c Z x0 code maxL ret) (X : Stand p l e R s m args below meth c T locs cells slots) {index : Nat} (w1 : (Cond.methodLink x0.cls index Lib.objectInit).before a0 Z = true) (w2 : (Cond.instanceMethod Lib.objectInit).before a0 Z = true) (w3 : (Cond.code Lib.objectInit ⟨#[0xb1]⟩ 1 none).before a0 Z = true) (eT : T.heap = h)
    {pc pc' : Nat} {Ls : Array Slot} {a : Addr} {rest : List Value} (hd : decode code pc = .ok (.invokespecial index, 3)) (hsz : Ls.size = maxL) (W : Nat) (hW : (rest.map fun v => v.category).sum = W) (hfr : 1 ≤ R.frames) (hlo : W + 12 ≤ R.locals) (hp : pc + 3 = pc')
    (K : ∀ T', Stand p l e R s m args below meth c T' locs cells slots → T'.heap = h → Go p.tables e below G T' (mkF m pc' Ls rest)) : Go p.tables e below G T (mkF m pc Ls (.ref a :: rest)) := by
  subst hp
  obtain ⟨T1, X1, e1, st1⟩ := initO X C.exec C.warm C.own w1 w2 w3 eT (g := mkF m pc Ls (.ref a :: rest)) rfl (by rw [C.maxl]; exact hsz) rfl (C.at hd) hfr (W := W) (by show 2 * 0 + _ ≤ _; rw [hW]; omega) hlo
  exact Go.step st1 (K T1 X1 e1)
/-! the heap -/
theorem g_new (C : Cx p l s m meth c Z x0 code maxL ret) (X : Stand p l e R s m args below meth c T locs cells slots) {cls : String} {index n : Nat} (w : (Cond.classLink x0.cls index cls).before a0 Z = true) (wi : (Cond.instantiable cls n).before a0 Z = true) (wz : (Cond.initialized cls).before a0 Z = true) (eT : T.heap = h)
    {pc pc' : Nat} {Ls : Array Slot} {st : List Value} (hd : decode code pc = .ok (.new index, 3)) (hc : cells + 1 ≤ R.cells) (hl : slots + n ≤ R.slots) (hp : pc + 3 = pc')
    (K : ∀ T' h' a, a = h.size → Stand p l e R s m args below meth c T' locs (cells + 1) (slots + n) → T'.heap = h' → Ext h h' → Exa Z h' a cls → (∀ {O nm d : String} {ty : FieldType}, Laid Z a0 cls O nm d → parseFieldDescriptor d = some ty → Fld Z h' a O nm d (defaultValue ty)) → Go p.tables e below G T' (mkF m pc' Ls (.ref a :: st))) :
    Go p.tables e below G T (mkF m pc Ls st) := by
  subst hp
  obtain ⟨T1, h1, X1, e1, E1, A1, D1, -, st1⟩ := newO X C.exec C.warm C.own w wi wz eT (g := mkF m pc Ls st) rfl (C.at hd) hc hl
  exact Go.step st1 (K T1 h1 h.size rfl X1 e1 E1 A1 D1)
theorem g_newP (C : Cx p l s m meth c Z x0 code maxL ret) (X : Stand p l e R s m args below meth c T locs cells slots) {aty : ArrayType} (w : (Cond.arrayClass (newarray.typeOf aty)).before a0 Z = true) (eT : T.heap = h)
    {pc pc' : Nat} {Ls : Array Slot} {st : List Value} {z : Int32} (hd : decode code pc = .ok (.newarray aty, 2)) (hz : ¬ z < 0) (cap : Nat) (hcap : z.toNatClampNeg ≤ cap) (hb : cap * 8 ≤ 536870912) (hc : cells + 1 ≤ R.cells) (hl : slots + cap ≤ R.slots) (hp : pc + 2 = pc')
    (K : ∀ T' h' a k, a = h.size → Stand p l e R s m args below meth c T' locs (cells + 1) (slots + cap) → T'.heap = h' → Ext h h' → Arv Z h' a k (newarray.typeOf aty) z [] (defaultValue (newarray.typeOf aty)) → Go p.tables e below G T' (mkF m pc' Ls (.ref a :: st))) :
    Go p.tables e below G T (mkF m pc Ls (.int z :: st)) := by
  subst hp
  obtain ⟨T1, h1, cA, X1, e1, E1, A1, st1⟩ := newP X C.exec C.warm w eT (g := mkF m pc Ls (.int z :: st)) rfl (C.at hd) rfl hz hcap hb hc hl
  exact Go.step st1 (K T1 h1 h.size cA rfl X1 e1 E1 (Arv.new A1 hz))
theorem g_getF (C : Cx p l s m meth c Z x0 code maxL ret) (X : Stand p l e R s m args below meth c T locs cells slots) {R0 O n d host : String} {index : Nat} (w : (Cond.fieldLink x0.cls index R0 n d).before a0 Z = true ∨ (Cond.fieldLinkNest x0.cls index R0 n d host).before a0 Z = true) (via : Via Z R0 O n d) (eT : T.heap = h) {a : Addr} {v : Value} (F : Fld Z h a O n d v)
    {pc pc' : Nat} {Ls : Array Slot} {st : List Value} (hd : decode code pc = .ok (.getfield index, 3)) (hp : pc + 3 = pc')
    (K : ∀ T', Stand p l e R s m args below meth c T' locs cells slots → T'.heap = h → Go p.tables e below G T' (mkF m pc' Ls (v :: st))) : Go p.tables e below G T (mkF m pc Ls (.ref a :: st)) := by
  subst hp
  obtain ⟨T1, X1, e1, st1⟩ := getF X C.exec C.warm C.own w via eT F (g := mkF m pc Ls (.ref a :: st)) rfl rfl (C.at hd)
  exact Go.step st1 (K T1 X1 e1)
theorem g_putF (C : Cx p l s m meth c Z x0 code maxL ret) (X : Stand p l e R s m args below meth c T locs cells slots) {R0 O n d host cls : String} {index kk : Nat} {ty : FieldType} (w : (Cond.fieldLink x0.cls index R0 n d).before a0 Z = true ∨ (Cond.fieldLinkNest x0.cls index R0 n d host).before a0 Z = true) (via : Via Z R0 O n d) (eT : T.heap = h) {a : Addr} {v old : Value} (F : Fld Z h a O n d old) (E : Exa Z h a cls)
    (L : (Cond.lays cls O n d).before a0 Z = true ∨ ((Cond.laysFinal cls O n d).before a0 Z = true ∧ x0.cls = O ∧ x0.name = "<init>")) (wi : (Cond.instantiable cls kk).before a0 Z = true) (hty : parseFieldDescriptor d = some ty) (hn : narrow ty v = v) (hf : fits ty v = true)
    {pc pc' : Nat} {Ls : Array Slot} {st : List Value} (hd : decode code pc = .ok (.putfield index, 3)) (hp : pc + 3 = pc')
    (K : ∀ T' h', Stand p l e R s m args below meth c T' (locs ++ [⟨a, RoadKit.slotOf Z O n d⟩]) cells slots → T'.heap = h' → Wr h h' a (RoadKit.slotOf Z O n d) v → Go p.tables e below G T' (mkF m pc' Ls st)) : Go p.tables e below G T (mkF m pc Ls (v :: .ref a :: st)) := by
  subst hp
  obtain ⟨T1, h1, X1, e1, W1, st1⟩ := putF X C.exec C.warm C.own w via eT F E (L.imp id fun q => ⟨q.1, q.2.1, C.nm.trans q.2.2⟩) wi hty hn hf (g := mkF m pc Ls (v :: .ref a :: st)) rfl rfl (C.at hd)
  exact Go.step st1 (K T1 h1 X1 e1 W1)
/-- an array whose values are a list: read, length, store -/
theorem Arv.cell {a : Addr} {k : ClassId} {ty : FieldType} {z : Int32} {vs : List Value} {d : Value} (A : Arv Z h a k ty z vs d) : ∃ cl : Cell, Arr Z h a cl ty ∧ cl.slots.size = z.toNatClampNeg ∧ ¬ z < 0 ∧ Has cl vs d := by
  obtain ⟨cl, A1, -, S, N, H, -⟩ := A
  exact ⟨cl, A1, S, N, H⟩
theorem g_len (C : Cx p l s m meth c Z x0 code maxL ret) (X : Stand p l e R s m args below meth c T locs cells slots) {a : Addr} {k : ClassId} {ty : FieldType} {z : Int32} {vs : List Value} {d : Value} (eT : T.heap = h) (A : Arv Z h a k ty z vs d) {pc pc' : Nat} {Ls : Array Slot} {st : List Value} (hd : decode code pc = .ok (.arraylength, 1)) (hp : pc + 1 = pc')
    (K : Go p.tables e below G T (mkF m pc' Ls (.int z :: st))) : Go p.tables e below G T (mkF m pc Ls (.ref a :: st)) := by
  subst hp
  obtain ⟨cl, A1, S, N, H⟩ := Arv.cell A
  refine Go.step (fun t q => X.arraylength C.exec (cell := cl) (by rw [eT]; exact A1.1) (State.isArrayOf_alike C.warm.alike A1.2.1) (g := mkF m pc Ls (.ref a :: st)) rfl rfl (C.at hd) t ?_) K
  rw [len_of S N]; exact q
theorem inb {cl : Cell} {z j : Int32} (S : cl.slots.size = z.toNatClampNeg) (h0 : 0 ≤ j.toInt) (h1 : j.toInt < z.toInt) : ¬ (j < 0 ∨ cl.slots.size ≤ j.toNatClampNeg) :=
  inb_of S ⟨fun q => by rw [Int32.lt_iff_toInt_lt] at q; exact absurd q (Int.not_lt.mpr h0), Int32.lt_iff_toInt_lt.mpr h1⟩
theorem g_iaload (C : Cx p l s m meth c Z x0 code maxL ret) (X : Stand p l e R s m args below meth c T locs cells slots) {a : Addr} {k : ClassId} {z j : Int32} {vs : List Value} {d : Value} {v : Int32} (eT : T.heap = h) (A : Arv Z h a k .int z vs d) (h0 : 0 ≤ j.toInt) (h1 : j.toInt < z.toInt) (i : Nat) (hj : j.toNatClampNeg = i) (hv : vs.getD i d = .int v) {pc pc' : Nat} {Ls : Array Slot} {st : List Value} (hd : decode code pc = .ok (.iaload, 1)) (hp : pc + 1 = pc')
    (K : Go p.tables e below G T (mkF m pc' Ls (.int v :: st))) : Go p.tables e below G T (mkF m pc Ls (.int j :: .ref a :: st)) := by
  subst hp
  obtain ⟨cl, A1, S, N, H⟩ := Arv.cell A
  exact Go.step (fun t q => X.iaload C.exec (j := j) (v := .int v) (by rw [eT]; exact A1.1) (State.isArrayOf_alike C.warm.alike A1.2.1) A1.2.2 (inb S h0 h1) (H.at (inb S h0 h1) (by rw [hj]; exact hv)) (g := mkF m pc Ls (.int j :: .ref a :: st)) rfl rfl (C.at hd) t q) K
theorem g_daload (C : Cx p l s m meth c Z x0 code maxL ret) (X : Stand p l e R s m args below meth c T locs cells slots) {a : Addr} {k : ClassId} {z j : Int32} {vs : List Value} {d : Value} {v : UInt64} (eT : T.heap = h) (A : Arv Z h a k .double z vs d) (h0 : 0 ≤ j.toInt) (h1 : j.toInt < z.toInt) (i : Nat) (hj : j.toNatClampNeg = i) (hv : vs.getD i d = .double v) {pc pc' : Nat} {Ls : Array Slot} {st : List Value} (hd : decode code pc = .ok (.daload, 1)) (hp : pc + 1 = pc')
    (K : Go p.tables e below G T (mkF m pc' Ls (.double v :: st))) : Go p.tables e below G T (mkF m pc Ls (.int j :: .ref a :: st)) := by
  subst hp
  obtain ⟨cl, A1, S, N, H⟩ := Arv.cell A
  exact Go.step (fun t q => X.daload C.exec (j := j) (v := .double v) (by rw [eT]; exact A1.1) (State.isArrayOf_alike C.warm.alike A1.2.1) A1.2.2 (inb S h0 h1) (H.at (inb S h0 h1) (by rw [hj]; exact hv)) (g := mkF m pc Ls (.int j :: .ref a :: st)) rfl rfl (C.at hd) t q) K
theorem g_aaload (C : Cx p l s m meth c Z x0 code maxL ret) (X : Stand p l e R s m args below meth c T locs cells slots) {a : Addr} {k : ClassId} {z j : Int32} {ty : FieldType} {vs : List Value} {d v : Value} (eT : T.heap = h) (A : Arv Z h a k ty z vs d) (hty : ty.isReference = true) (hr : v.isRef = true) (h0 : 0 ≤ j.toInt) (h1 : j.toInt < z.toInt) (i : Nat) (hj : j.toNatClampNeg = i) (hv : vs.getD i d = v) {pc pc' : Nat} {Ls : Array Slot} {st : List Value} (hd : decode code pc = .ok (.aaload, 1)) (hp : pc + 1 = pc')
    (K : Go p.tables e below G T (mkF m pc' Ls (v :: st))) : Go p.tables e below G T (mkF m pc Ls (.int j :: .ref a :: st)) := by
  subst hp
  obtain ⟨cl, A1, S, N, H⟩ := Arv.cell A
  exact Go.step (fun t q => X.aaload C.exec (j := j) (v := v) (by rw [eT]; exact A1.1) (State.isArrayOf_alike C.warm.alike A1.2.1) hty A1.2.2 (inb S h0 h1) (H.at (inb S h0 h1) (by rw [hj]; exact hv)) (g := mkF m pc Ls (.int j :: .ref a :: st)) rfl rfl (C.at hd) t q) K
theorem Arv.put {h' : Heap} {a : Addr} {k : ClassId} {ty : FieldType} {z j : Int32} {vs : List Value} {d v : Value} (A : Arv Z h a k ty z vs d) (W : Wr h h' a j.toNatClampNeg v) (hv : fits ty v = true) (i : Nat) (hj : j.toNatClampNeg = i) (n : Nat) (hi : i < vs.length + n) : Arv Z h' a k ty z ((vs ++ List.replicate n d).set i v) d := by
  obtain ⟨cl, A1, q1, S, N, H, Gf⟩ := Arv.pad A (pad_rep vs d n)
  exact Arv.set A1 q1 S N H Gf hv W i hj (by rw [List.length_append, List.length_replicate]; exact hi)
theorem g_iastore (C : Cx p l s m meth c Z x0 code maxL ret) (X : Stand p l e R s m args below meth c T locs cells slots) {a : Addr} {k : ClassId} {z j x : Int32} {vs : List Value} {d : Value} (eT : T.heap = h) (A : Arv Z h a k .int z vs d) (h0 : 0 ≤ j.toInt) (h1 : j.toInt < z.toInt) (i n : Nat) (hj : j.toNatClampNeg = i) (hi : i < vs.length + n) {pc pc' : Nat} {Ls : Array Slot} {st : List Value} (hd : decode code pc = .ok (.iastore, 1)) (hp : pc + 1 = pc')
    (K : ∀ T' h', Stand p l e R s m args below meth c T' (locs ++ [⟨a, j.toNatClampNeg⟩]) cells slots → T'.heap = h' → Wr h h' a j.toNatClampNeg (.int x) → Arv Z h' a k .int z ((vs ++ List.replicate n d).set i (.int x)) d → Go p.tables e below G T' (mkF m pc' Ls st)) : Go p.tables e below G T (mkF m pc Ls (.int x :: .int j :: .ref a :: st)) := by
  subst hp
  obtain ⟨cl, A1, S, N, H⟩ := Arv.cell A
  obtain ⟨T1, h2, X1, e1, W1, st1⟩ := stI X C.exec C.warm eT A1 (inb S h0 h1) (g := mkF m pc Ls (.int x :: .int j :: .ref a :: st)) rfl rfl (C.at hd)
  exact Go.step st1 (K T1 h2 X1 e1 W1 (Arv.put A W1 rfl i hj n hi))
theorem g_dastore (C : Cx p l s m meth c Z x0 code maxL ret) (X : Stand p l e R s m args below meth c T locs cells slots) {a : Addr} {k : ClassId} {z j : Int32} {x : UInt64} {vs : List Value} {d : Value} (eT : T.heap = h) (A : Arv Z h a k .double z vs d) (h0 : 0 ≤ j.toInt) (h1 : j.toInt < z.toInt) (i n : Nat) (hj : j.toNatClampNeg = i) (hi : i < vs.length + n) {pc pc' : Nat} {Ls : Array Slot} {st : List Value} (hd : decode code pc = .ok (.dastore, 1)) (hp : pc + 1 = pc')
    (K : ∀ T' h', Stand p l e R s m args below meth c T' (locs ++ [⟨a, j.toNatClampNeg⟩]) cells slots → T'.heap = h' → Wr h h' a j.toNatClampNeg (.double x) → Arv Z h' a k .double z ((vs ++ List.replicate n d).set i (.double x)) d → Go p.tables e below G T' (mkF m pc' Ls st)) : Go p.tables e below G T (mkF m pc Ls (.double x :: .int j :: .ref a :: st)) := by
  subst hp
  obtain ⟨cl, A1, S, N, H⟩ := Arv.cell A
  obtain ⟨T1, h2, X1, e1, W1, st1⟩ := stD X C.exec C.warm eT A1 (inb S h0 h1) (g := mkF m pc Ls (.double x :: .int j :: .ref a :: st)) rfl rfl (C.at hd)
  exact Go.step st1 (K T1 h2 X1 e1 W1 (Arv.put A W1 rfl i hj n hi))
theorem g_ldc2J (C : Cx p l s m meth c Z x0 code maxL ret) (X : Stand p l e R s m args below meth c T locs cells slots) {index : Nat} {v : Int64} (w : (Cond.constantLong x0.cls index v).before a0 Z = true) {pc pc' : Nat} {Ls : Array Slot} {st : List Value} (hd : decode code pc = .ok (.ldc2_w index, 3)) (hp : pc + 3 = pc')
    (K : Go p.tables e below G T (mkF m pc' Ls (.long v :: st))) : Go p.tables e below G T (mkF m pc Ls st) := by
  subst hp
  exact Go.step (fun t q => X.ldc2Long C.exec C.own (mvT C.warm w) (g := mkF m pc Ls st) rfl (C.at hd) t q) K
theorem g_ldcI (C : Cx p l s m meth c Z x0 code maxL ret) (X : Stand p l e R s m args below meth c T locs cells slots) {index : Nat} {v : Int32} (w : (Cond.constant x0.cls index v).before a0 Z = true) {pc pc' : Nat} {Ls : Array Slot} {st : List Value} (hd : decode code pc = .ok (.ldc index, 2)) (hp : pc + 2 = pc')
    (K : Go p.tables e below G T (mkF m pc' Ls (.int v :: st))) : Go p.tables e below G T (mkF m pc Ls st) := by
  subst hp
  exact Go.step (fun t q => X.ldcInt C.exec C.own (mvT C.warm w) (g := mkF m pc Ls st) rfl (C.at hd) t q) K
theorem FldE.wr {h' : Heap} {a b : Addr} {C n d : String} {sl : Nat} {v : Value} (W : Wr h h' b sl v) (F : ∃ w, Fld Z h a C n d w) : ∃ w, Fld Z h' a C n d w := by
  obtain ⟨w, F⟩ := F
  by_cases q : a ≠ b ∨ RoadKit.slotOf Z C n d ≠ sl
  · exact ⟨w, F.other W q⟩
  · have q1 : a = b := Decidable.not_not.mp fun z => q (Or.inl z)
    have q2 : RoadKit.slotOf Z C n d = sl := Decidable.not_not.mp fun z => q (Or.inr z)
    subst q1 q2
    exact ⟨v, F.same W⟩
theorem g_ldc2D (C : Cx p l s m meth c Z x0 code maxL ret) (X : Stand p l e R s m args below meth c T locs cells slots) {index : Nat} {b : UInt64} (w : (Cond.constantDouble x0.cls index b).before a0 Z = true) {pc pc' : Nat} {Ls : Array Slot} {st : List Value} (hd : decode code pc = .ok (.ldc2_w index, 3)) (hp : pc + 3 = pc')
    (K : Go p.tables e below G T (mkF m pc' Ls (.double b :: st))) : Go p.tables e below G T (mkF m pc Ls st) := by
  subst hp
  exact Go.step (fun t q => X.ldc2DoubleC C.exec C.own (mvT C.warm w) (g := mkF m pc Ls st) rfl (C.at hd) t q) K
end Walk
/-! doubles that are whole numbers -/
section Dbl
open Jvm.FP.Core Jvm.Free.Fl
theorem nn_of_int {i : Int} {a : UInt64} (q : DInt i a) : NoNaN64 a := val64_no.mpr (DInt_ne_nan q)
def cmpI (i j : Int) : Int32 := if j < i then 1 else if i = j then 0 else -1
theorem cmpI_lt (i j : Int) : (cmpI i j).toInt < 0 ↔ i < j := by
  unfold cmpI
  split
  · exact ⟨fun q => absurd q (by decide), fun q => by omega⟩
  · split
    · exact ⟨fun q => absurd q (by decide), fun q => by omega⟩
    · exact ⟨fun _ => by omega, fun _ => by decide⟩
theorem cmpI_gt (i j : Int) : 0 < (cmpI i j).toInt ↔ j < i := by
  unfold cmpI
  split
  · exact ⟨fun _ => by assumption, fun _ => by decide⟩
  · split
    · exact ⟨fun q => absurd q (by decide), fun q => by omega⟩
    · exact ⟨fun q => absurd q (by decide), fun q => by omega⟩
theorem cmpI_eq (i j : Int) : (cmpI i j).toInt = 0 ↔ i = j := by
  unfold cmpI
  split
  · exact ⟨fun q => absurd q (by decide), fun q => by omega⟩
  · split
    · exact ⟨fun _ => by assumption, fun _ => by decide⟩
    · exact ⟨fun q => absurd q (by decide), fun q => by omega⟩
theorem cmpI_self (i : Int) : cmpI i i = 0 := by
  unfold cmpI
  rw [if_neg (Int.lt_irrefl i), if_pos rfl]
theorem cmpL_lt (x y : Int64) : (XT.cmpL x y).toInt < 0 ↔ x.toInt < y.toInt := by
  unfold XT.cmpL
  rw [← Int64.lt_iff_toInt_lt]
  split
  · rename_i q; exact ⟨fun q => absurd q (by decide), fun q' => absurd q' (Int64.lt_asymm q)⟩
  · split
    · rename_i q; subst q; exact ⟨fun q => absurd q (by decide), fun q' => absurd q' Int64.lt_irrefl⟩
    · rename_i q1 q2; exact ⟨fun _ => by have q3 : ¬ x.toInt = y.toInt := fun q => q2 (Int64.toInt_inj.mp q); rw [Int64.lt_iff_toInt_lt] at q1 ⊢; omega, fun _ => by decide⟩
theorem cmpL_gt (x y : Int64) : 0 < (XT.cmpL x y).toInt ↔ y.toInt < x.toInt := by
  unfold XT.cmpL
  rw [← Int64.lt_iff_toInt_lt]
  split
  · rename_i q; exact ⟨fun _ => q, fun _ => by decide⟩
  · split
    · rename_i q0 q; exact ⟨fun q => absurd q (by decide), fun q' => absurd q' q0⟩
    · rename_i q0 q; exact ⟨fun q => absurd q (by decide), fun q' => absurd q' q0⟩
theorem cmpL_eq (x y : Int64) : (XT.cmpL x y).toInt = 0 ↔ x.toInt = y.toInt := by
  unfold XT.cmpL
  rw [Int64.toInt_inj]
  split
  · rename_i q; exact ⟨fun q => absurd q (by decide), fun q' => absurd q (by rw [q']; exact Int64.lt_irrefl)⟩
  · split
    · rename_i q; exact ⟨fun _ => q, fun _ => by decide⟩
    · rename_i q0 q; exact ⟨fun q => absurd q (by decide), fun q' => absurd q' q⟩
theorem cmpV_of {r : Option Ordering} {i j : Int} (q : r = some (compare i j)) (o : CmpOp) : cmpValue r o = cmpI i j := by
  subst q
  unfold cmpI
  split
  · rename_i q; rw [(compare_gt_iff i j).mpr q]; rfl
  · split
    · rename_i q; rw [(compare_eq_iff i j).mpr q]; rfl
    · rename_i q1 q2; rw [(compare_lt_iff i j).mpr (by omega)]; rfl
theorem dcmp_cmpI {i j : Int} {a b : UInt64} (ha : DInt i a) (hb : DInt j b) (o : CmpOp) : cmpValue (FP.dcmp a b) o = cmpI i j := cmpV_of (dcmp_int ha hb) o
theorem dint_zero : DInt 0 FP.dconst0 := by
  unfold DInt
  rw [show val64 FP.dconst0 = _ from val64_dconst0]
  show signed false (0 * _) = 0 * _
  rw [Nat.zero_mul, Int.zero_mul]; rfl
end Dbl
end Jvm.OwnKit
namespace Jvm.OwnKit
open Sem ClassFile Op Lib Jvm.Stand Jvm.Free Jvm.LawKit Jvm.RoadKit
section More
variable {p : Program} {l : Launch} {e : Env} {R : Room} {s : State} {m : MethodId} {args : Array Value} {below : List Frame} {meth : Method} {c : Code} {T : State} {locs : List Loc} {cells slots : Nat} {Z : State} {a0 : Array Value} {h : Heap} {G : Outcome → State → Prop}
variable {x0 : MethodName} {code : ByteArray} {maxL : Nat} {ret : Option FieldType}
theorem g_newPE (C : Cx p l s m meth c Z x0 code maxL ret) (X : Stand p l e R s m args below meth c T locs cells slots) {aty : ArrayType} {ad : String} (had : "[" ++ (newarray.typeOf aty).toString = ad) (w : (Cond.arrayClass (newarray.typeOf aty)).before a0 Z = true) (eT : T.heap = h)
    {pc pc' : Nat} {Ls : Array Slot} {st : List Value} {z : Int32} (hd : decode code pc = .ok (.newarray aty, 2)) (hz : ¬ z < 0) (cap : Nat) (hcap : z.toNatClampNeg ≤ cap) (hb : cap * 8 ≤ 536870912) (hc : cells + 1 ≤ R.cells) (hl : slots + cap ≤ R.slots) (hp : pc + 2 = pc')
    (K : ∀ T' h' a k, a = h.size → Stand p l e R s m args below meth c T' locs (cells + 1) (slots + cap) → T'.heap = h' → Ext h h' → Arv Z h' a k (newarray.typeOf aty) z [] (defaultValue (newarray.typeOf aty)) → Exa Z h' a ad → Go p.tables e below G T' (mkF m pc' Ls (.ref a :: st))) :
    Go p.tables e below G T (mkF m pc Ls (.int z :: st)) := by
  subst hp
  obtain ⟨T1, h1, cA, X1, e1, E1, A1, B1, st1⟩ := newPE X C.exec C.warm w eT (g := mkF m pc Ls (.int z :: st)) rfl (C.at hd) rfl hz hcap hb hc hl had
  exact Go.step st1 (K T1 h1 h.size cA rfl X1 e1 E1 (Arv.new A1 hz) B1)
theorem g_clone (C : Cx p l s m meth c Z x0 code maxL ret) (X : Stand p l e R s m args below meth c T locs cells slots) {index : Nat} {ad : String} {ty : FieldType} (w1 : (Cond.methodLink x0.cls index ⟨ad, "clone", "()Ljava/lang/Object;"⟩).before a0 Z = true) (w2 : (Cond.sameMethod ad "java/lang/Object" "clone" "()Ljava/lang/Object;").before a0 Z = true) (w3 : (Cond.native ⟨"java/lang/Object", "clone", "()Ljava/lang/Object;"⟩).before a0 Z = true)
    (w4 : (Cond.instanceMethod ⟨"java/lang/Object", "clone", "()Ljava/lang/Object;"⟩).before a0 Z = true) (w5 : (Cond.selects ad ⟨ad, "clone", "()Ljava/lang/Object;"⟩ ⟨"java/lang/Object", "clone", "()Ljava/lang/Object;"⟩).before a0 Z = true) (w6 : (Cond.castable ad "java/lang/Cloneable").before a0 Z = true) (eT : T.heap = h)
    {a : Addr} {k : ClassId} {z : Int32} {vs : List Value} {d : Value} (A : Arv Z h a k ty z vs d) (E : Exa Z h a ad) {pc pc' : Nat} {Ls : Array Slot} {rest : List Value} (hd : decode code pc = .ok (.invokevirtual index, 3)) (hsz : Ls.size = maxL) (W : Nat) (hW : (rest.map fun v => v.category).sum = W) (hfr : 1 ≤ R.frames) (hlo : W + 14 ≤ R.locals)
    (cap : Nat) (hcap : z.toNatClampNeg ≤ cap) (hc : cells + 1 ≤ R.cells) (hl : slots + cap ≤ R.slots) (hp : pc + 3 = pc')
    (K : ∀ T' h' a', a' = h.size → Stand p l e R s m args below meth c T' locs (cells + 1) (slots + cap) → T'.heap = h' → Ext h h' → Arv Z h' a' k ty z vs d → Exa Z h' a' ad → Go p.tables e below G T' (mkF m pc' Ls (.ref a' :: rest))) :
    Go p.tables e below G T (mkF m pc Ls (.ref a :: rest)) := by
  subst hp
  obtain ⟨T1, h1, X1, e1, E1, A1, B1, st1⟩ := cloneH X C.exec C.warm C.own w1 w2 w3 w4 w5 w6 eT A.arh E (g := mkF m pc Ls (.ref a :: rest)) rfl (by rw [C.maxl]; exact hsz) rfl (C.at hd) hfr (W := W) (by show 2 * 0 + _ ≤ _; rw [hW]; omega) hlo hcap hc hl
  exact Go.step st1 (K T1 h1 h.size rfl X1 e1 E1 A1 B1)
theorem g_cast (C : Cx p l s m meth c Z x0 code maxL ret) (X : Stand p l e R s m args below meth c T locs cells slots) {cls : String} {index : Nat} (w : (Cond.classLink x0.cls index cls).before a0 Z = true) (eT : T.heap = h) {a : Addr} (F : Ins Z h a cls true) {pc pc' : Nat} {Ls : Array Slot} {rest : List Value} (hd : decode code pc = .ok (.checkcast index, 3)) (hp : pc + 3 = pc')
    (K : ∀ T', Stand p l e R s m args below meth c T' locs cells slots → T'.heap = h → Go p.tables e below G T' (mkF m pc' Ls (.ref a :: rest))) : Go p.tables e below G T (mkF m pc Ls (.ref a :: rest)) := by
  subst hp
  obtain ⟨T1, X1, e1, st1⟩ := castY X C.exec C.warm C.own w eT F (g := mkF m pc Ls (.ref a :: rest)) rfl rfl (C.at hd)
  exact Go.step st1 (K T1 X1 e1)
theorem g_acmpY (C : Cx p l s m meth c Z x0 code maxL ret) (X : Stand p l e R s m args below meth c T locs cells slots) {pc pc' : Nat} {Ls : Array Slot} {st : List Value} {cd : ClassFile.ACond} {v w : Value} {o : Int} (hd : decode code pc = .ok (.if_acmp cd o, 3)) (hv : v.isRef = true) (hw : w.isRef = true) (hc : XT.acmp cd v w = true) (ho : 0 ≤ (pc : Int) + o) (hp : ((pc : Int) + o).toNat = pc')
    (K : Go p.tables e below G T (mkF m pc' Ls st)) : Go p.tables e below G T (mkF m pc Ls (w :: v :: st)) :=
  Go.step (fun _ k => XT.acmpYes X.here C.exec rfl rfl (C.at hd) rfl hv hw hc ho hp k) K
theorem g_acmpN (C : Cx p l s m meth c Z x0 code maxL ret) (X : Stand p l e R s m args below meth c T locs cells slots) {pc pc' : Nat} {Ls : Array Slot} {st : List Value} {cd : ClassFile.ACond} {v w : Value} {o : Int} (hd : decode code pc = .ok (.if_acmp cd o, 3)) (hv : v.isRef = true) (hw : w.isRef = true) (hc : XT.acmp cd v w = false) (hp : pc + 3 = pc')
    (K : Go p.tables e below G T (mkF m pc' Ls st)) : Go p.tables e below G T (mkF m pc Ls (w :: v :: st)) := by
  subst hp
  exact Go.step (fun _ k => XT.acmpNo X.here C.exec rfl (C.at hd) rfl hv hw hc k) K
theorem ac_same (v : Value) : XT.acmp .eq v v = true ∧ XT.acmp .ne v v = false := by simp [XT.acmp]
theorem ac_diff {v w : Value} (q : v ≠ w) : XT.acmp .eq v w = false ∧ XT.acmp .ne v w = true := by simp [XT.acmp, q]
theorem ref_ne {a b : Addr} (q : a ≠ b) : Value.ref a ≠ Value.ref b := fun z => q (Value.ref.inj z)
theorem g_ifnullY (C : Cx p l s m meth c Z x0 code maxL ret) (X : Stand p l e R s m args below meth c T locs cells slots) {pc pc' : Nat} {Ls : Array Slot} {st : List Value} {o : Int} (hd : decode code pc = .ok (.ifnull o, 3)) (ho : 0 ≤ (pc : Int) + o) (hp : ((pc : Int) + o).toNat = pc')
    (K : Go p.tables e below G T (mkF m pc' Ls st)) : Go p.tables e below G T (mkF m pc Ls (.null :: st)) :=
  Go.step (fun _ k => XS.ifnullYes X.here C.exec rfl rfl (C.at hd) rfl ho hp k) K
theorem g_ifnullN (C : Cx p l s m meth c Z x0 code maxL ret) (X : Stand p l e R s m args below meth c T locs cells slots) {pc pc' : Nat} {Ls : Array Slot} {st : List Value} {a : Addr} {o : Int} (hd : decode code pc = .ok (.ifnull o, 3)) (hp : pc + 3 = pc')
    (K : Go p.tables e below G T (mkF m pc' Ls st)) : Go p.tables e below G T (mkF m pc Ls (.ref a :: st)) := by
  subst hp
  exact Go.step (fun _ k => XS.ifnullNo X.here C.exec rfl (C.at hd) rfl k) K
theorem g_ifnonnullN (C : Cx p l s m meth c Z x0 code maxL ret) (X : Stand p l e R s m args below meth c T locs cells slots) {pc pc' : Nat} {Ls : Array Slot} {st : List Value} {o : Int} (hd : decode code pc = .ok (.ifnonnull o, 3)) (hp : pc + 3 = pc')
    (K : Go p.tables e below G T (mkF m pc' Ls st)) : Go p.tables e below G T (mkF m pc Ls (.null :: st)) := by
  subst hp
  exact Go.step (fun _ k => XT.ifnonnullNo X.here C.exec rfl (C.at hd) rfl k) K
theorem g_ifnonnullY (C : Cx p l s m meth c Z x0 code maxL ret) (X : Stand p l e R s m args below meth c T locs cells slots) {pc pc' : Nat} {Ls : Array Slot} {st : List Value} {a : Addr} {o : Int} (hd : decode code pc = .ok (.ifnonnull o, 3)) (ho : 0 ≤ (pc : Int) + o) (hp : ((pc : Int) + o).toNat = pc')
    (K : Go p.tables e below G T (mkF m pc' Ls st)) : Go p.tables e below G T (mkF m pc Ls (.ref a :: st)) :=
  Go.step (fun _ k => XT.ifnonnullYes X.here C.exec rfl rfl (C.at hd) rfl ho hp k) K
theorem g_getS (C : Cx p l s m meth c Z x0 code maxL ret) (X : Stand p l e R s m args below meth c T locs cells slots) {R0 O n d : String} {index : Nat} (w : (Cond.fieldLink x0.cls index R0 n d).before a0 Z = true) (via : Via Z R0 O n d) (eT : T.heap = h) {v : Value} (F : Sta Z h O n d v)
    {pc pc' : Nat} {Ls : Array Slot} {st : List Value} (hd : decode code pc = .ok (.getstatic index, 3)) (hp : pc + 3 = pc')
    (K : ∀ T', Stand p l e R s m args below meth c T' locs cells slots → T'.heap = h → Go p.tables e below G T' (mkF m pc' Ls (v :: st))) : Go p.tables e below G T (mkF m pc Ls st) := by
  subst hp
  obtain ⟨T1, X1, e1, st1⟩ := getS (host := "") X C.exec C.warm C.own w via eT F (g := mkF m pc Ls st) rfl (C.at hd)
  exact Go.step st1 (K T1 X1 e1)
theorem g_lshl (C : Cx p l s m meth c Z x0 code maxL ret) (X : Stand p l e R s m args below meth c T locs cells slots) {pc pc' : Nat} {Ls : Array Slot} {st : List Value} {x : Int64} {y : Int32} (hd : decode code pc = .ok (.lshl, 1)) (hp : pc + 1 = pc')
    (K : Go p.tables e below G T (mkF m pc' Ls (.long (x <<< (y.toInt64 &&& 63)) :: st))) : Go p.tables e below G T (mkF m pc Ls (.int y :: .long x :: st)) := by
  subst hp; exact Go.step (fun _ k => XT.lshl X.here C.exec rfl (C.at hd) rfl k) K
end More
end Jvm.OwnKit
namespace Jvm.OwnKit
open Sem ClassFile Op Lib Jvm.Stand Jvm.Free Jvm.LawKit Jvm.RoadKit
section More2
variable {p : Program} {l : Launch} {e : Env} {R : Room} {s : State} {m : MethodId} {args : Array Value} {below : List Frame} {meth : Method} {c : Code} {T : State} {locs : List Loc} {cells slots : Nat} {Z : State} {a0 : Array Value} {h : Heap} {G : Outcome → State → Prop}
variable {x0 : MethodName} {code : ByteArray} {maxL : Nat} {ret : Option FieldType}
/-- a virtual call of a method that a superclass declares -/
theorem g_callVU (C : Cx p l s m meth c Z x0 code maxL ret) (X : Stand p l e R s m args below meth c T locs cells slots) {index : Nat} {w y : MethodName} {owner cls : String} {bytes : ByteArray} {mL : Nat} {rt : Option FieldType} {rm : Room} {as : Array Value} {Q : Option Value → Heap → List Loc → Prop} (K0 : Con l Z y bytes mL rt rm as h Q)
    (w1 : (Cond.methodLink x0.cls index w).before a0 Z = true) (w2 : (Cond.sameMethod w.cls owner w.name w.desc).before a0 Z = true) (w7 : (Cond.declares ⟨owner, w.name, w.desc⟩).before a0 Z = true) (w5 : (Cond.selects cls w y).before a0 Z = true) (w6 : (Cond.instanceMethod y).before a0 Z = true) (w3 : (Cond.initialized y.cls).before a0 Z = true) (w4 : (Cond.code y bytes mL rt).before a0 Z = true)
    (hy : owner ≠ "java/lang/invoke/MethodHandle" ∧ owner ≠ "java/lang/invoke/VarHandle") (eT : T.heap = h) {a : Addr} (E : Exa Z h a cls) {pc pc' : Nat} {Ls : Array Slot} {st : List Value} (hd : decode code pc = .ok (.invokevirtual index, 3)) (hsz : Ls.size = maxL)
    {ps : List FieldType} {r : Option FieldType} (hpd : parseMethodDescriptor w.desc = some ⟨ps, r⟩) (argsL rest : List Value) (hlen : argsL.length = ps.length) (has : (.ref a :: argsL).toArray = as) (hst : st = argsL.reverse ++ .ref a :: rest) (W : Nat) (hW : (rest.map fun v => v.category).sum = W)
    (hfr : rm.frames + 1 ≤ R.frames) (hlo : W + (mL + 11) + rm.locals ≤ R.locals) (hce : cells + rm.cells ≤ R.cells) (hsl : slots + rm.slots ≤ R.slots) (hp : pc + 3 = pc')
    (K : ∀ v T' L, Stand p l e R s m args below meth c T' (locs ++ L) (cells + rm.cells) (slots + rm.slots) → Q v T'.heap L → Go p.tables e below G T' (mkF m pc' Ls (v.toList ++ rest))) : Go p.tables e below G T (mkF m pc Ls st) := by
  subst hp has
  obtain ⟨cq, kq, qa, qb, qc⟩ := isOf C.warm eT E
  obtain ⟨v, _, ⟨T1, L1, k1, n1⟩, -, X1, ⟨Lc, hQ, q1, q2, q3⟩, st1⟩ := X.virtualBackUp C.exec C.own (mvT C.warm w1) (mvT C.warm w2) (mvT C.warm w7) hy (mvT C.warm w5) (mvT C.warm w6) (backOf (W := W) (K0 []) C.warm w4 w3 hfr hlo) qa qc
    (g := mkF m pc Ls st) rfl (by rw [C.maxl]; exact hsz) (Steps.refl _) (argsL := argsL) (rest := rest) (lenOf hpd hlen) hst (by show 2 * 0 + _ ≤ _; rw [hW]; omega) (C.at hd) (fun _ _ => ⟨rfl, eT, hce, hsl⟩)
  dsimp only [Pt.U, Pt.locs, Pt.cells, Pt.slots] at X1 q1 q2 q3 st1 hQ
  subst q1 q2 q3
  exact go_trans st1 (K v T1 Lc X1 hQ)
theorem g_tsw (C : Cx p l s m meth c Z x0 code maxL ret) (X : Stand p l e R s m args below meth c T locs cells slots) {pc pc' : Nat} {Ls : Array Slot} {st : List Value} {dflt low high : Int} {offs : Array Int} {len : Nat} {o : Int} {i : Int32} (hd : decode code pc = .ok (.tableswitch dflt low high offs, len)) (hin : ¬ (i.toInt < low ∨ i.toInt > high)) (hoff : offs[(i.toInt - low).toNat]? = some o) (ho : 0 ≤ (pc : Int) + o) (hp : ((pc : Int) + o).toNat = pc')
    (K : Go p.tables e below G T (mkF m pc' Ls st)) : Go p.tables e below G T (mkF m pc Ls (.int i :: st)) :=
  Go.step (fun _ k => XS.tswIn X.here C.exec rfl rfl (C.at hd) rfl hin hoff ho hp k) K
end More2
end Jvm.OwnKit
namespace Jvm.OwnKit
open Sem ClassFile Op Lib Jvm.Stand Jvm.Free Jvm.LawKit Jvm.RoadKit Jvm.Free.Fl
section Grid
variable {p : Program} {l : Launch} {e : Env} {R : Room} {s : State} {m : MethodId} {args : Array Value} {below : List Frame} {meth : Method} {c : Code} {T : State} {locs : List Loc} {cells slots : Nat} {Z : State} {a0 : Array Value} {h : Heap} {G : Outcome → State → Prop}
variable {x0 : MethodName} {code : ByteArray} {maxL : Nat} {ret : Option FieldType}
theorem al0 {P : Addr → Prop} : ∀ x ∈ ([] : List Addr), P x := fun _ q => nomatch q
theorem alc {P : Addr → Prop} {b : Addr} {l : List Addr} (q : P b) (t : ∀ x ∈ l, P x) : ∀ x ∈ b :: l, P x := fun x hx => by
  rcases List.mem_cons.mp hx with rfl | hx
  · exact q
  · exact t x hx
theorem g_newRA (C : Cx p l s m meth c Z x0 code maxL ret) (X : Stand p l e R s m args below meth c T locs cells slots) {D ad : String} {ty : FieldType} {index : Nat} (hC : (FieldType.array ty).toString = D) (had : "[" ++ D = ad) (w1 : (Cond.classLink x0.cls index D).before a0 Z = true) (w2 : (Cond.arrayOver (.array ty)).before a0 Z = true) (eT : T.heap = h)
    {pc pc' : Nat} {Ls : Array Slot} {st : List Value} {z : Int32} (hd : decode code pc = .ok (.anewarray index, 3)) (hz : ¬ z < 0) (cap : Nat) (hcap : z.toNatClampNeg ≤ cap) (hb : cap * 8 ≤ 536870912) (hc : cells + 1 ≤ R.cells) (hl : slots + cap ≤ R.slots) (hp : pc + 3 = pc')
    (K : ∀ T' h' a k, a = h.size → Stand p l e R s m args below meth c T' locs (cells + 1) (slots + cap) → T'.heap = h' → Ext h h' → Arv Z h' a k (.array ty) z [] .null → Exa Z h' a ad → OvrA Z k ty D → Go p.tables e below G T' (mkF m pc' Ls (.ref a :: st))) :
    Go p.tables e below G T (mkF m pc Ls (.int z :: st)) := by
  subst hp
  obtain ⟨T1, h1, cA, X1, e1, E1, A1, B1, O1, st1⟩ := newRA X C.exec C.warm C.own hC w1 w2 eT (g := mkF m pc Ls (.int z :: st)) rfl (C.at hd) rfl hz hcap hb hc hl had
  exact Go.step st1 (K T1 h1 h.size cA rfl X1 e1 E1 (Arv.new A1 hz) B1 O1)
theorem g_grid (C : Cx p l s m meth c Z x0 code maxL ret) (X : Stand p l e R s m args below meth c T locs cells slots) {D ad : String} {ty : FieldType} {index : Nat} (hC : (FieldType.array ty).toString = D) (had : "[" ++ D = ad) (w1 : (Cond.classLink x0.cls index ad).before a0 Z = true) (w2 : (Cond.arrayOver (.array ty)).before a0 Z = true) (w3 : (Cond.arrayClass ty).before a0 Z = true) (eT : T.heap = h)
    {pc pc' : Nat} {Ls : Array Slot} {st : List Value} {n k : Int32} (hd : decode code pc = .ok (.multianewarray index 2, 4)) (hn : ¬ n < 0) (hk : ¬ k < 0) (N : Nat) (hN : n.toNatClampNeg = N) (cap : Nat) (hcap : k.toNatClampNeg ≤ cap) (hb : cap * 8 ≤ 536870912) (hb1 : N ≤ 1000) (hdf : fits ty (defaultValue ty) = true) (hdd : (defaultValue ty).isDefault = true) (hc : cells + (1 + N) ≤ R.cells) (hl : slots + (N + N * cap) ≤ R.slots) (hp : pc + 4 = pc')
    (K : ∀ T' h' a cA comp xs, a = h.size → xs = (List.range N).map (fun j => h.size + 1 + j) → Stand p l e R s m args below meth c T' locs (cells + (1 + N)) (slots + (N + N * cap)) → T'.heap = h' → Ext h h' → Arv Z h' a cA (.array ty) n (xs.map .ref) .null → Exa Z h' a ad → OvrA Z cA ty D → (∀ (j : Nat) (x : Addr), xs[j]? = some x → Arv Z h' x comp ty k [] (defaultValue ty) ∧ Exa Z h' x D) → Go p.tables e below G T' (mkF m pc' Ls (.ref a :: st))) :
    Go p.tables e below G T (mkF m pc Ls (.int k :: .int n :: st)) := by
  subst hp
  obtain ⟨T1, h1, cA, comp, X1, e1, E1, A1, O1, B1, I1, st1⟩ := gridM X C.exec C.warm C.own hC had w1 w2 w3 eT (g := mkF m pc Ls (.int k :: .int n :: st)) rfl (C.at hd) rfl hn hk hN rfl hcap hb hb1 hdf hdd hc hl
  exact Go.step st1 (K T1 h1 h.size cA comp _ rfl rfl X1 e1 E1 A1 B1 O1 fun j x q => ⟨Arv.new (I1 j x q).1 hk, (I1 j x q).2⟩)
theorem sto_of {a y : Addr} {k : ClassId} {t0 ty : FieldType} {z : Int32} {vs : List Value} {d : Value} {D : String} (A : Arv Z h a k t0 z vs d) (O : OvrA Z k ty D) (I : Ins Z h y D true) : Sto Z h a (.ref y) := by
  obtain ⟨cl, A1, q, -⟩ := A
  exact Sto.ofVA A1 q O I
theorem sto_null {a : Addr} : Sto Z h a .null := Or.inl rfl
theorem g_aastore (C : Cx p l s m meth c Z x0 code maxL ret) (X : Stand p l e R s m args below meth c T locs cells slots) {a : Addr} {k : ClassId} {z j : Int32} {x : Value} {ty : FieldType} {vs : List Value} {d : Value} (eT : T.heap = h) (A : Arv Z h a k ty z vs d) (hty : ty.isReference = true) (hx : fits ty x = true) (F : Sto Z h a x) (h0 : 0 ≤ j.toInt) (h1 : j.toInt < z.toInt) (i n : Nat) (hj : j.toNatClampNeg = i) (hi : i < vs.length + n) {pc pc' : Nat} {Ls : Array Slot} {st : List Value} (hd : decode code pc = .ok (.aastore, 1)) (hp : pc + 1 = pc')
    (K : ∀ T' h', Stand p l e R s m args below meth c T' (locs ++ [⟨a, j.toNatClampNeg⟩]) cells slots → T'.heap = h' → Wr h h' a j.toNatClampNeg x → Arv Z h' a k ty z ((vs ++ List.replicate n d).set i x) d → Go p.tables e below G T' (mkF m pc' Ls st)) : Go p.tables e below G T (mkF m pc Ls (x :: .int j :: .ref a :: st)) := by
  subst hp
  obtain ⟨cl, A1, S, N, H⟩ := Arv.cell A
  obtain ⟨T1, h2, X1, e1, W1, st1⟩ := stR X C.exec C.warm eT A1 (inb S h0 h1) hty F (g := mkF m pc Ls (x :: .int j :: .ref a :: st)) rfl rfl (C.at hd)
  exact Go.step st1 (K T1 h2 X1 e1 W1 (Arv.put A W1 hx i hj n hi))
theorem g_absD (C : Cx p l s m meth c Z x0 code maxL ret) (X : Stand p l e R s m args below meth c T locs cells slots) {index : Nat} (w1 : (Cond.methodLink x0.cls index Abs.absDN).before a0 Z = true) (w2 : (Cond.static Abs.absDN).before a0 Z = true) (w3 : (Cond.initialized Abs.absDN.cls).before a0 Z = true) (w4 : (Cond.code Abs.absDN Abs.absDCode 2 (some .double)).before a0 Z = true) (eT : T.heap = h)
    {x : UInt64} (hn : NoNaN64 x) {pc pc' : Nat} {Ls : Array Slot} {rest : List Value} (hd : decode code pc = .ok (.invokestatic index, 3)) (hsz : Ls.size = maxL) (W : Nat) (hW : (rest.map fun v => v.category).sum = W) (hfr : 1 ≤ R.frames) (hlo : W + 13 ≤ R.locals) (hc : cells ≤ R.cells) (hs : slots ≤ R.slots) (hp : pc + 3 = pc')
    (K : ∀ T', Stand p l e R s m args below meth c T' locs cells slots → T'.heap = h → Go p.tables e below G T' (mkF m pc' Ls (.double (x &&& 0x7fffffffffffffff) :: rest))) : Go p.tables e below G T (mkF m pc Ls (.double x :: rest)) := by
  subst hp
  obtain ⟨T1, X1, e1, st1⟩ := natS X C.exec C.warm C.own w1 w2 w3 w4 (by decide) eT (W := W) (fun hk => Abs.absD_pays (W := W) x hk hfr hlo) (g := mkF m pc Ls (.double x :: rest)) rfl (by rw [C.maxl]; exact hsz) (argsL := [.double x]) (rest := rest)
    (lenOf (show parseMethodDescriptor Abs.absDN.desc = some ⟨[.double], some .double⟩ from by decide +kernel) rfl) rfl (by show 2 * 0 + _ ≤ _; rw [hW]; omega) (C.at hd) hc hs ⟨rfl, hn⟩ rfl
  exact Go.step st1 (K T1 X1 e1)
theorem g_callP (C : Cx p l s m meth c Z x0 code maxL ret) (X : Stand p l e R s m args below meth c T locs cells slots) {index : Nat} {y y2 : MethodName} {cls : String} {bytes : ByteArray} {mL : Nat} {rt : Option FieldType} {rm : Room} {as : Array Value} {Q : Option Value → Heap → List Loc → Prop} (K0 : Con l Z y bytes mL rt rm as h Q)
    (w1 : (Cond.methodLink x0.cls index y).before a0 Z = true) (wp : (Cond.privateMethod y).before a0 Z = true) (w5 : (Cond.selects y2.cls y2 y2).before a0 Z = true) (hy2 : y2.cls = y.cls) (w6 : (Cond.instanceMethod y).before a0 Z = true) (w3 : (Cond.initialized y.cls).before a0 Z = true) (w4 : (Cond.code y bytes mL rt).before a0 Z = true)
    (hy : y.cls ≠ "java/lang/invoke/MethodHandle" ∧ y.cls ≠ "java/lang/invoke/VarHandle") (eT : T.heap = h) {a : Addr} (E : Exa Z h a cls) {pc pc' : Nat} {Ls : Array Slot} {st : List Value} (hd : decode code pc = .ok (.invokevirtual index, 3)) (hsz : Ls.size = maxL)
    {ps : List FieldType} {r : Option FieldType} (hpd : parseMethodDescriptor y.desc = some ⟨ps, r⟩) (argsL rest : List Value) (hlen : argsL.length = ps.length) (has : (.ref a :: argsL).toArray = as) (hst : st = argsL.reverse ++ .ref a :: rest) (W : Nat) (hW : (rest.map fun v => v.category).sum = W)
    (hfr : rm.frames + 1 ≤ R.frames) (hlo : W + (mL + 11) + rm.locals ≤ R.locals) (hce : cells + rm.cells ≤ R.cells) (hsl : slots + rm.slots ≤ R.slots) (hp : pc + 3 = pc')
    (K : ∀ v T' L, Stand p l e R s m args below meth c T' (locs ++ L) (cells + rm.cells) (slots + rm.slots) → Q v T'.heap L → Go p.tables e below G T' (mkF m pc' Ls (v.toList ++ rest))) : Go p.tables e below G T (mkF m pc Ls st) := by
  subst hp has
  have ws : (Cond.selects y2.cls y2 y2).before args s = true := mvT C.warm w5
  obtain ⟨c2, r2, m2, -, -, q3, -, kP, hkP, hkPi⟩ := Cond.selects_spec ws
  have hc := findClass_of_methodNamed q3
  rw [hy2] at hc
  have hpr := Cond.privateMethod_at (mvP (args := args) C.warm wp)
  have w6' : (Cond.instanceMethod y).before args s = true := mvT C.warm w6
  have hsel := selects_self_of_private hc hkP hkPi hpr w6' hy
  obtain ⟨cq, qa, qb⟩ := E.cell
  obtain ⟨v, _, ⟨T1, L1, k1, n1⟩, -, X1, ⟨Lc, hQ, q1, q2, q3'⟩, st1⟩ := X.privateBack C.exec (y := y) C.own (mvT C.warm w1) w6' hsel hpr (mvT C.warm w4) hy (backOf (W := W) (K0 []) C.warm w4 w3 hfr hlo)
    (g := mkF m pc Ls st) rfl (by rw [C.maxl]; exact hsz) (Steps.refl _) (by rw [eT]; exact qa) qb (argsL := argsL) (rest := rest) (lenOf hpd hlen) hst (by show 2 * 0 + _ ≤ _; rw [hW]; omega) (C.at hd) (fun _ _ => ⟨rfl, eT, hce, hsl⟩)
  dsimp only [Pt.U, Pt.locs, Pt.cells, Pt.slots] at X1 q1 q2 q3' st1 hQ
  subst q1 q2 q3'
  exact go_trans st1 (K v T1 Lc X1 hQ)
theorem g_callIN (C : Cx p l s m meth c Z x0 code maxL ret) (X : Stand p l e R s m args below meth c T locs cells slots) {index : Nat} {host : String} {y : MethodName} {bytes : ByteArray} {mL : Nat} {rm : Room} {as : Array Value} {Q : Option Value → Heap → List Loc → Prop} (K0 : Con l Z y bytes mL none rm as h Q) (hy1 : y.name = "<init>")
    (w1 : (Cond.methodLinkNest x0.cls index y host).before a0 Z = true) (w2 : (Cond.instanceMethod y).before a0 Z = true) (w3 : (Cond.initialized y.cls).before a0 Z = true) (w4 : (Cond.code y bytes mL none).before a0 Z = true)
    (hy : y.cls ≠ "java/lang/invoke/MethodHandle" ∧ y.cls ≠ "java/lang/invoke/VarHandle") (eT : T.heap = h) {pc pc' : Nat} {Ls : Array Slot} {st : List Value} (hd : decode code pc = .ok (.invokespecial index, 3)) (hsz : Ls.size = maxL)
    {ps : List FieldType} {r : Option FieldType} (hpd : parseMethodDescriptor y.desc = some ⟨ps, r⟩) (a : Addr) (argsL rest : List Value) (hlen : argsL.length = ps.length) (has : (.ref a :: argsL).toArray = as) (hst : st = argsL.reverse ++ .ref a :: rest) (W : Nat) (hW : (rest.map fun v => v.category).sum = W)
    (hfr : rm.frames + 1 ≤ R.frames) (hlo : W + (mL + 11) + rm.locals ≤ R.locals) (hce : cells + rm.cells ≤ R.cells) (hsl : slots + rm.slots ≤ R.slots) (hp : pc + 3 = pc')
    (K : ∀ v T' L, Stand p l e R s m args below meth c T' (locs ++ L) (cells + rm.cells) (slots + rm.slots) → Q v T'.heap L → Go p.tables e below G T' (mkF m pc' Ls (v.toList ++ rest))) : Go p.tables e below G T (mkF m pc Ls st) := by
  subst hp has
  have w1' : (Cond.methodLinkNest x0.cls index y host).before args s = true := (Cond.methodLinkNest_wide C.warm w1 :)
  obtain ⟨v, _, ⟨T1, L1, k1, n1⟩, -, X1, ⟨Lc, hQ, q1, q2, q3⟩, st1⟩ := X.specialBackNest C.exec (y := y) hy1 C.own w1' (mvT C.warm w2) (mvT C.warm w4) hy (backOf (W := W) (K0 []) C.warm w4 w3 hfr hlo)
    (g := mkF m pc Ls st) rfl (by rw [C.maxl]; exact hsz) (Steps.refl _) (a := a) (argsL := argsL) (rest := rest) (lenOf hpd hlen) hst (by show 2 * 0 + _ ≤ _; rw [hW]; omega) (C.at hd) (fun _ _ => ⟨rfl, eT, hce, hsl⟩)
  dsimp only [Pt.U, Pt.locs, Pt.cells, Pt.slots] at X1 q1 q2 q3 st1 hQ
  subst q1 q2 q3
  exact go_trans st1 (K v T1 Lc X1 hQ)
theorem bn_nneg {z : Int32} {lo hi : Int} (h : lo ≤ z.toInt ∧ z.toInt ≤ hi) (h0 : 0 ≤ lo) : ¬ z < 0 := fun q => by
  have q1 : z.toInt < (0 : Int32).toInt := Int32.lt_iff_toInt_lt.mp q
  have q2 : (0 : Int32).toInt = 0 := by decide
  omega
theorem bn_cap {z : Int32} {lo hi : Int} {n : Nat} (h : lo ≤ z.toInt ∧ z.toInt ≤ hi) (hn : hi ≤ n) : z.toNatClampNeg ≤ n := by
  show z.toInt.toNat ≤ n
  omega
theorem bn_in {z j : Int32} {lo hi : Int} (h : lo ≤ z.toInt ∧ z.toInt ≤ hi) (hj : j.toInt < lo) : j.toInt < z.toInt := by omega
theorem own_b32 (x : Int32) : -2147483648 ≤ x.toInt ∧ x.toInt ≤ 2147483647 := by
  have := rng32 x
  omega
end Grid
end Jvm.OwnKit
namespace Jvm.OwnKit
open Sem ClassFile Op Lib Jvm.Stand Jvm.Free Jvm.LawKit Jvm.RoadKit Jvm.Free.Fl
section Str
variable {p : Program} {l : Launch} {e : Env} {R : Room} {s : State} {m : MethodId} {args : Array Value} {below : List Frame} {meth : Method} {c : Code} {T : State} {locs : List Loc} {cells slots : Nat} {Z : State} {a0 : Array Value} {h : Heap} {G : Outcome → State → Prop}
variable {x0 : MethodName} {code : ByteArray} {maxL : Nat} {ret : Option FieldType}
/-- the end of a walk that may have interned -/
def EndW (s : State) (Q : Option Value → Heap → List Loc → Prop) (k n : Nat) (o : Outcome) (U : State) : Prop := ∃ v L, o = .returned v ∧ Q v U.heap L ∧ ReturnedEndW s o U L k n
def ConW (l : Launch) (Z : State) (y : MethodName) (bytes : ByteArray) (maxL : Nat) (ret : Option FieldType) (rm : Room) (as : Array Value) (h : Heap) (Q : Option Value → Heap → List Loc → Prop) : Prop :=
  ∀ ws, MetFree l y (head1 (Cond.code y bytes maxL ret :: ws) rm) (fun a U => a = as ∧ Z.Warmed39 U.vm ∧ U.heap = h) (fun _ _ _ _ _ => True) (fun _ U o U' => EndW U Q rm.cells rm.slots o U')
theorem conW_of_go {rm : Room} {as : Array Value} {Q : Option Value → Heap → List Loc → Prop} {Ls : Array Slot} (hn : plainName x0.cls = true) (hef : ∀ m, entryFrame m as maxL = mkF m 0 Ls [])
    (H : ∀ (p : Program) (e : Env) (s : State) (m : MethodId) (below : List Frame) (meth : Method) (c : Code) (T : State), Cx p l s m meth c Z x0 code maxL ret → Stand p l e rm s m as below meth c T [] 0 0 → T.heap = h → Go p.tables e below (EndW s Q rm.cells rm.slots) T (mkF m 0 Ls [])) :
    ConW l Z x0 code maxL ret rm as h Q := by
  intro ws
  refine MetFree.of_bodySF (plainFor_of_name hn) hisR ?_
  intro p e s m args below meth c s₁ Bd hml hP hK
  obtain ⟨rfl, hZ, hh⟩ := hP
  have X0 : Stand p l e rm s m args below meth c s₁ [] 0 0 := Stand.of_body Bd
  have e0 : s₁.heap = h := by rw [← hh, Bd.state]; rfl
  have q := H p e s m below meth c s₁ ⟨Bd.exec, hZ, Bd.bytes, hml, findClass_of_methodNamed Bd.named, Bd.returns, Bd.notSynchronized, (name_of_methodNamed Bd.named Bd.method).1⟩ X0 e0
  rw [hef]
  exact q
def Siz (k : Nat) (h : Heap) : Prop := k ≤ h.size
theorem Siz.ext {k : Nat} {h h' : Heap} (S : Siz k h) (E : Ext h h') : Siz k h' := Nat.le_trans S E.1
theorem Siz.wr {k : Nat} {h h' : Heap} {a : Addr} {sl : Nat} {v : Value} (S : Siz k h) (W : Wr h h' a sl v) : Siz k h' := by
  unfold Siz at *; rw [W.size]; exact S
theorem Siz.keep {k : Nat} {h h' : Heap} {ws : List Addr} (S : Siz k h) (K : Keep h h' ws) : Siz k h' := Nat.le_trans S K.1
theorem g_ldcS {vm0 : Vm} {s : State} (C : Cx p l (s.setVm vm0) m meth c Z x0 code maxL ret) (X : Stand p l e R (s.setVm vm0) m args below meth c T locs cells slots) {text : String} {index k0 : Nat} (hS : s.Since vm0 k0) (hk : Siz k0 h) (w : (Cond.stringLink x0.cls index text).before a0 Z = true) (wS : ∀ a ∈ Bundle.stringAtoms, a.before a0 Z = true)
    (eT : T.heap = h) {pc pc' : Nat} {Ls : Array Slot} {st : List Value} (hd : decode code pc = .ok (.ldc index, 2)) (n : Nat) (hn : 4 * text.toList.length ≤ n) (hbig : n ≤ 536870912) (hc : cells + 2 ≤ R.cells) (hl : slots + (n + 4) ≤ R.slots) (hp : pc + 2 = pc')
    (K : ∀ a T' h' k1, Cx p l (s.setVm T'.vm) m meth c Z x0 code maxL ret → Stand p l e R (s.setVm T'.vm) m args below meth c T' locs (cells + 2) (slots + (n + 4)) → T'.heap = h' → Ext h h' → s.Since T'.vm k1 → Siz k1 h' → Go p.tables e below G T' (mkF m pc' Ls (.ref a :: st))) :
    Go p.tables e below G T (mkF m pc Ls st) := by
  subst hp
  obtain ⟨a, T', h', k1, X', e1, E1, S1, hk1, w1, o1, st1⟩ := ldcS X C.exec C.warm C.own w wS eT hS hk (g := mkF m pc Ls st) rfl (C.at hd) hn hbig hc hl
  exact Go.step st1 (K a T' h' k1 ⟨C.exec, w1, C.bytes, C.maxl, o1, C.rets, C.unlocked, C.nm⟩ X' e1 E1 S1 hk1)
theorem g_ldcS1 (C : Cx p l s m meth c Z x0 code maxL ret) (X : Stand p l e R s m args below meth c T locs cells slots) {text : String} {index : Nat} (w : (Cond.stringLink x0.cls index text).before a0 Z = true) (wS : ∀ a ∈ Bundle.stringAtoms, a.before a0 Z = true)
    (eT : T.heap = h) {pc pc' : Nat} {Ls : Array Slot} {st : List Value} (hd : decode code pc = .ok (.ldc index, 2)) (n : Nat) (hn : 4 * text.toList.length ≤ n) (hbig : n ≤ 536870912) (hc : cells + 2 ≤ R.cells) (hl : slots + (n + 4) ≤ R.slots) (hp : pc + 2 = pc')
    (K : ∀ a T' h' k1, Cx p l (s.setVm T'.vm) m meth c Z x0 code maxL ret → Stand p l e R (s.setVm T'.vm) m args below meth c T' locs (cells + 2) (slots + (n + 4)) → T'.heap = h' → Ext h h' → s.Since T'.vm k1 → Siz k1 h' → Go p.tables e below G T' (mkF m pc' Ls (.ref a :: st))) :
    Go p.tables e below G T (mkF m pc Ls st) :=
  g_ldcS (vm0 := s.vm) (s := s) C X (k0 := h.size) ((State.WarmedH.refl s).since _) (Nat.le_refl _) w wS eT hd n hn hbig hc hl hp K
theorem g_zreturnW {vm1 : Vm} {k1 k n : Nat} {Q : Option Value → Heap → List Loc → Prop} {s : State} (C : Cx p l (s.setVm vm1) m meth c Z x0 code maxL (some .boolean)) (X : Stand p l e R (s.setVm vm1) m args below meth c T locs cells slots) (hS : s.Since vm1 k1) (eT : T.heap = h) (hk1 : Siz k1 h) {pc : Nat} {Ls : Array Slot} {st : List Value} {z w : Int32} (hd : decode code pc = .ok (.ireturn, 1)) (hw : nar .boolean z = w)
    (hQ : Q (some (.int w)) T.heap locs) (hk : cells ≤ k) (hn : slots ≤ n) : Go p.tables e below (EndW s Q k n) T (mkF m pc Ls (.int z :: st)) := by
  obtain ⟨fs, hr, hrun, hended, hv, h1, h2, h3⟩ := X.leaveW hS (by rw [eT]; exact hk1) (v := some (.int w)) (fun q => by rw [C.rets] at q; cases q) C.unlocked
  exact ⟨_, _, retN X C.exec (t := .boolean) C.rets (by simp) (C.at hd) (hw ▸ hr), hrun, hended, _, locs, rfl, hQ, hv, h1, h2, h3.mono hk hn⟩
end Str
end Jvm.OwnKit
namespace Jvm.OwnKit
open Sem ClassFile Op Lib Jvm.Stand Jvm.Free Jvm.LawKit Jvm.RoadKit Jvm.Free.Fl
section Chars
variable {p : Program} {l : Launch} {e : Env} {R : Room} {s : State} {m : MethodId} {args : Array Value} {below : List Frame} {meth : Method} {c : Code} {T : State} {locs : List Loc} {cells slots : Nat} {Z : State} {a0 : Array Value} {h : Heap} {G : Outcome → State → Prop}
variable {x0 : MethodName} {code : ByteArray} {maxL : Nat} {ret : Option FieldType}
theorem g_caload (C : Cx p l s m meth c Z x0 code maxL ret) (X : Stand p l e R s m args below meth c T locs cells slots) {a : Addr} {k : ClassId} {z j : Int32} {vs : List Value} {d : Value} {v : Int32} (eT : T.heap = h) (A : Arv Z h a k .char z vs d) (h0 : 0 ≤ j.toInt) (h1 : j.toInt < z.toInt) (i : Nat) (hj : j.toNatClampNeg = i) (hv : vs.getD i d = .int v) {pc pc' : Nat} {Ls : Array Slot} {st : List Value} (hd : decode code pc = .ok (.caload, 1)) (hp : pc + 1 = pc')
    (K : Go p.tables e below G T (mkF m pc' Ls (.int v :: st))) : Go p.tables e below G T (mkF m pc Ls (.int j :: .ref a :: st)) := by
  subst hp
  obtain ⟨cl, A1, S, N, H⟩ := Arv.cell A
  exact Go.step (fun t q => X.caload C.exec (j := j) (v := .int v) (by rw [eT]; exact A1.1) (State.isArrayOf_alike C.warm.alike A1.2.1) A1.2.2 (inb S h0 h1) (H.at (inb S h0 h1) (by rw [hj]; exact hv)) (g := mkF m pc Ls (.int j :: .ref a :: st)) rfl rfl (C.at hd) t q) K
theorem g_baload (C : Cx p l s m meth c Z x0 code maxL ret) (X : Stand p l e R s m args below meth c T locs cells slots) {a : Addr} {k : ClassId} {z j : Int32} {vs : List Value} {d : Value} {v : Int32} (eT : T.heap = h) (A : Arv Z h a k .byte z vs d) (h0 : 0 ≤ j.toInt) (h1 : j.toInt < z.toInt) (i : Nat) (hj : j.toNatClampNeg = i) (hv : vs.getD i d = .int v) {pc pc' : Nat} {Ls : Array Slot} {st : List Value} (hd : decode code pc = .ok (.baload, 1)) (hp : pc + 1 = pc')
    (K : Go p.tables e below G T (mkF m pc' Ls (.int v :: st))) : Go p.tables e below G T (mkF m pc Ls (.int j :: .ref a :: st)) := by
  subst hp
  obtain ⟨cl, A1, S, N, H⟩ := Arv.cell A
  exact Go.step (fun t q => X.baloadBytes C.exec (j := j) (v := .int v) (by rw [eT]; exact A1.1) (State.isArrayOf_alike C.warm.alike A1.2.1) A1.2.2 (inb S h0 h1) (H.at (inb S h0 h1) (by rw [hj]; exact hv)) (g := mkF m pc Ls (.int j :: .ref a :: st)) rfl rfl (C.at hd) t q) K
theorem fits_byte (x : Int32) : fits .byte (.int (nar .byte x)) = true := by
  have q := (c_i2b x).2
  show (decide ((-128 : Int32) ≤ x.toInt8.toInt32) && decide (x.toInt8.toInt32 ≤ (127 : Int32))) = true
  rw [Bool.and_eq_true, decide_eq_true_eq, decide_eq_true_eq, Int32.le_iff_toInt_le, Int32.le_iff_toInt_le]
  have e1 : (-128 : Int32).toInt = -128 := by decide
  have e2 : (127 : Int32).toInt = 127 := by decide
  omega
theorem g_castore (C : Cx p l s m meth c Z x0 code maxL ret) (X : Stand p l e R s m args below meth c T locs cells slots) {a : Addr} {k : ClassId} {z j x y : Int32} (hx : nar .char x = y) {vs : List Value} {d : Value} (eT : T.heap = h) (A : Arv Z h a k .char z vs d) (h0 : 0 ≤ j.toInt) (h1 : j.toInt < z.toInt) (i n : Nat) (hj : j.toNatClampNeg = i) (hi : i < vs.length + n) {pc pc' : Nat} {Ls : Array Slot} {st : List Value} (hd : decode code pc = .ok (.castore, 1)) (hp : pc + 1 = pc')
    (K : ∀ T' h', Stand p l e R s m args below meth c T' (locs ++ [⟨a, j.toNatClampNeg⟩]) cells slots → T'.heap = h' → Wr h h' a j.toNatClampNeg (.int y) → Arv Z h' a k .char z ((vs ++ List.replicate n d).set i (.int y)) d → Go p.tables e below G T' (mkF m pc' Ls st)) : Go p.tables e below G T (mkF m pc Ls (.int x :: .int j :: .ref a :: st)) := by
  subst hp hx
  obtain ⟨cl, A1, S, N, H⟩ := Arv.cell A
  obtain ⟨T1, h2, X1, e1, W1, st1⟩ := stC X C.exec C.warm eT A1 (inb S h0 h1) (g := mkF m pc Ls (.int x :: .int j :: .ref a :: st)) rfl rfl (C.at hd)
  exact Go.step st1 (K T1 h2 X1 e1 W1 (Arv.put A W1 (fits_nar_char x) i hj n hi))
theorem g_bastore (C : Cx p l s m meth c Z x0 code maxL ret) (X : Stand p l e R s m args below meth c T locs cells slots) {a : Addr} {k : ClassId} {z j x y : Int32} (hx : nar .byte x = y) {vs : List Value} {d : Value} (eT : T.heap = h) (A : Arv Z h a k .byte z vs d) (h0 : 0 ≤ j.toInt) (h1 : j.toInt < z.toInt) (i n : Nat) (hj : j.toNatClampNeg = i) (hi : i < vs.length + n) {pc pc' : Nat} {Ls : Array Slot} {st : List Value} (hd : decode code pc = .ok (.bastore, 1)) (hp : pc + 1 = pc')
    (K : ∀ T' h', Stand p l e R s m args below meth c T' (locs ++ [⟨a, j.toNatClampNeg⟩]) cells slots → T'.heap = h' → Wr h h' a j.toNatClampNeg (.int y) → Arv Z h' a k .byte z ((vs ++ List.replicate n d).set i (.int y)) d → Go p.tables e below G T' (mkF m pc' Ls st)) : Go p.tables e below G T (mkF m pc Ls (.int x :: .int j :: .ref a :: st)) := by
  subst hp hx
  obtain ⟨cl, A1, S, N, H⟩ := Arv.cell A
  obtain ⟨T1, h2, X1, e1, W1, st1⟩ := stB X C.exec C.warm eT A1 (inb S h0 h1) (g := mkF m pc Ls (.int x :: .int j :: .ref a :: st)) rfl rfl (C.at hd)
  exact Go.step st1 (K T1 h2 X1 e1 W1 (Arv.put A W1 (fits_byte x) i hj n hi))
theorem g_i2c (C : Cx p l s m meth c Z x0 code maxL ret) (X : Stand p l e R s m args below meth c T locs cells slots) {pc pc' : Nat} {Ls : Array Slot} {st : List Value} {x : Int32} (hd : decode code pc = .ok (.i2c, 1)) (hp : pc + 1 = pc')
    (K : Go p.tables e below G T (mkF m pc' Ls (.int (x.toUInt32.toUInt16.toUInt32.toInt32) :: st))) : Go p.tables e below G T (mkF m pc Ls (.int x :: st)) := by
  subst hp; exact Go.step (fun _ k => XT.i2c X.here C.exec rfl (C.at hd) rfl k) K
/-- a char is itself -/
theorem i2c_id {x : Int32} (h : 0 ≤ x.toInt ∧ x.toInt ≤ 65535) : x.toUInt32.toUInt16.toUInt32.toInt32 = x := by
  have q := c_i2c x
  exact Int32.toInt_inj.mp (by omega)
theorem nar_c {x : Int32} (h : 0 ≤ x.toInt ∧ x.toInt ≤ 65535) : nar .char x = x := i2c_id h
theorem nar_b (x : Int32) : nar .byte x.toInt8.toInt32 = x.toInt8.toInt32 := by
  show x.toInt8.toInt32.toInt8.toInt32 = _
  have q := c_i2b x.toInt8.toInt32
  have q2 := c_i2b x
  exact Int32.toInt_inj.mp (by omega)
theorem own_lat {x : Int32} (h : 0 ≤ x.toInt ∧ x.toInt ≤ 255) : x.toInt8.toInt32 &&& 255 = x := by
  have q := c_i2b x
  have q2 := c_mask x.toInt8.toInt32 255 8 (by decide) (by decide)
  have q3 : ((2 ^ 8 : Nat) : Int) = 256 := by decide
  rw [q3] at q2
  exact Int32.toInt_inj.mp (by omega)
/-- the two bytes of a char, put together again -/
theorem own_get {x : Int32} (h : 0 ≤ x.toInt ∧ x.toInt ≤ 65535) : ((((x >>> ((0 : Int32) &&& 31)).toInt8.toInt32 &&& 255) <<< ((0 : Int32) &&& 31)) ||| (((x >>> ((8 : Int32) &&& 31)).toInt8.toInt32 &&& 255) <<< ((8 : Int32) &&& 31))) = x := by
  have s0 := c_ishr x 0 0 (by decide)
  have s8 := c_ishr x 8 8 (by decide)
  have b0 := c_i2b (x >>> ((0 : Int32) &&& 31))
  have b8 := c_i2b (x >>> ((8 : Int32) &&& 31))
  have m0 := c_mask (x >>> ((0 : Int32) &&& 31)).toInt8.toInt32 255 8 (by decide) (by decide)
  have m8 := c_mask (x >>> ((8 : Int32) &&& 31)).toInt8.toInt32 255 8 (by decide) (by decide)
  have l0 := c_ishl ((x >>> ((0 : Int32) &&& 31)).toInt8.toInt32 &&& 255) 0 0 (by decide)
  have l8 := c_ishl ((x >>> ((8 : Int32) &&& 31)).toInt8.toInt32 &&& 255) 8 8 (by decide)
  have e8 : ((2 ^ 8 : Nat) : Int) = 256 := by decide
  have e0 : ((2 ^ 0 : Nat) : Int) = 1 := by decide
  rw [e8] at s8 m0 m8 l8
  rw [e0] at s0 l0
  have r0 := rng32 (((x >>> ((0 : Int32) &&& 31)).toInt8.toInt32 &&& 255) <<< ((0 : Int32) &&& 31))
  have r8 := rng32 (((x >>> ((8 : Int32) &&& 31)).toInt8.toInt32 &&& 255) <<< ((8 : Int32) &&& 31))
  have o := c_or' (((x >>> ((0 : Int32) &&& 31)).toInt8.toInt32 &&& 255) <<< ((0 : Int32) &&& 31)) (((x >>> ((8 : Int32) &&& 31)).toInt8.toInt32 &&& 255) <<< ((8 : Int32) &&& 31)) 8 (by decide) 256 (by decide) (by omega) (by omega) (by omega)
  have ro := rng32 ((((x >>> ((0 : Int32) &&& 31)).toInt8.toInt32 &&& 255) <<< ((0 : Int32) &&& 31)) ||| (((x >>> ((8 : Int32) &&& 31)).toInt8.toInt32 &&& 255) <<< ((8 : Int32) &&& 31)))
  exact Int32.toInt_inj.mp (by omega)
theorem staKeep {h' : Heap} {ws : List Addr} {D n d : String} {w : Value} (F : Sta Z h D n d w) (K : Keep h h' ws) (q : ∀ x ∈ ws, ∀ cl : Cell, h[x]? = some cl → cl.vm.isStatics = false) : Sta Z h' D n d w := by
  obtain ⟨cf, i, k, f, st, cell, h1, h2, h3, h4, h5, h6, r⟩ := F
  refine ⟨cf, i, k, f, st, cell, h1, h2, h3, h4, K.2.1 st cell h5 (fun hm => ?_), h6, r⟩
  rw [q st hm cell h5] at h6
  cases h6
theorem Sta.keepE {h' : Heap} {D n d : String} {w : Value} (F : Sta Z h D n d w) (K : Keep h h' []) : Sta Z h' D n d w := staKeep F K al0
theorem own_andn (x : Int32) {m : Int32} {n : Int} (h : m.toInt = n) (h0 : 0 ≤ n) : 0 ≤ (x &&& m).toInt ∧ (x &&& m).toInt ≤ n := by
  have := c_and x m (by omega)
  omega
theorem g_breturn {k n : Nat} {Q : Option Value → Heap → List Loc → Prop} (C : Cx p l s m meth c Z x0 code maxL (some .byte)) (X : Stand p l e R s m args below meth c T locs cells slots) {pc : Nat} {Ls : Array Slot} {st : List Value} {z w : Int32} (hd : decode code pc = .ok (.ireturn, 1)) (hw : nar .byte z = w)
    (hQ : Q (some (.int w)) T.heap locs) (hk : cells ≤ k) (hn : slots ≤ n) : Go p.tables e below (End s Q k n) T (mkF m pc Ls (.int z :: st)) :=
  g_out C X (v := some (.int w)) (fun q => by cases q) (fun fs hr => retN X C.exec (t := .byte) C.rets (by simp) (C.at hd) (hw ▸ hr)) hQ hk hn
theorem g_creturn {k n : Nat} {Q : Option Value → Heap → List Loc → Prop} (C : Cx p l s m meth c Z x0 code maxL (some .char)) (X : Stand p l e R s m args below meth c T locs cells slots) {pc : Nat} {Ls : Array Slot} {st : List Value} {z w : Int32} (hd : decode code pc = .ok (.ireturn, 1)) (hw : nar .char z = w)
    (hQ : Q (some (.int w)) T.heap locs) (hk : cells ≤ k) (hn : slots ≤ n) : Go p.tables e below (End s Q k n) T (mkF m pc Ls (.int z :: st)) :=
  g_out C X (v := some (.int w)) (fun q => by cases q) (fun fs hr => retN X C.exec (t := .char) C.rets (by simp) (C.at hd) (hw ▸ hr)) hQ hk hn
end Chars
end Jvm.OwnKit
namespace Jvm.OwnKit
open Sem ClassFile Op Lib Bundle Jvm.Stand Jvm.Free Jvm.LawKit Jvm.RoadKit Jvm.Free.SB Jvm.Free.SBG
section Held
variable {p : Program} {l : Launch} {e : Env} {R : Room} {s : State} {m : MethodId} {args : Array Value} {below : List Frame} {meth : Method} {c : Code} {T : State} {locs : List Loc} {cells slots : Nat} {Z : State} {a0 : Array Value} {h : Heap} {G : Outcome → State → Prop}
variable {x0 : MethodName} {code : ByteArray} {maxL : Nat} {ret : Option FieldType} {EL : List (String × Nat)} {vm : Vm}
/-- a String whose value is null is booked nowhere -/
theorem safe_null {x : Addr} (hal : Z.vm.Alike vm) (E : Exa Z h x "java/lang/String") (F : Fld Z h x "java/lang/String" "value" "[B" .null) : Safe Z EL vm h x := fun B => by
  obtain ⟨pr, -, u, a, -, q, -, G, hx⟩ := B
  obtain ⟨cell, cf, k, i, f, h1, h2, h3, -, -, -, h7⟩ := F
  obtain ⟨cE, kE, g1, g2, -, -, -⟩ := E
  rcases hx with rfl | rfl
  · cases (show h[q.sa]? = some q.sC from G.ha).symm.trans h1
    obtain ⟨cS, ⟨⟨-, -, -, ⟨c1, k1, i1, f1, -⟩, -, -, -, v1, -⟩, -⟩, -⟩ := G
    obtain ⟨k3, e3, -⟩ := State.fieldFound?_setVm (s := { Z with heap := h }) (vm' := vm) hal (show ({ Z with heap := h } : State).fieldFound? _ _ _ = _ from h2)
    have e4 := (show (Wst Z vm h).fieldFound? _ _ _ = _ from e3).symm.trans f1
    simp only [Option.some.injEq, Prod.mk.injEq] at e4
    rw [← e4.2.2.2, h7] at v1
    cases v1
  · cases (show h[q.sd]? = some q.SA from G.hd).symm.trans g1
    obtain ⟨cS, -, -, fB, -⟩ := G
    have fB : vm.findClass "[B" = some q.SA.cls := fB
    rw [hal.findClass] at fB
    obtain ⟨ka, qa, na⟩ := Vm.findClass_spec fB
    obtain ⟨kb, qb, nb⟩ := Vm.findClass_spec g2
    cases qa.symm.trans qb
    exact absurd (na.symm.trans nb) (by decide)
/-- the end of a callee that keeps the booked literals -/
def EndH (Z : State) (EL : List (String × Nat)) (s : State) (Q : Option Value → Heap → List Loc → Prop) (k n : Nat) (o : Outcome) (U : State) : Prop := ∃ v L, o = .returned v ∧ Q v U.heap L ∧ CHr Z EL s.vm s.heap U.vm U.heap ∧ ReturnedEndW s o U L k n
def ConH (l : Launch) (Z : State) (EL : List (String × Nat)) (y : MethodName) (bytes : ByteArray) (maxL : Nat) (ret : Option FieldType) (rm : Room) (as : Array Value) (h : Heap) (Q : Option Value → Heap → List Loc → Prop) : Prop :=
  ∀ ws, MetFree l y (head1 (Cond.code y bytes maxL ret :: ws) rm) (fun a U => a = as ∧ Z.Warmed39 U.vm ∧ U.heap = h ∧ CHv Z EL U.vm h) (fun _ _ _ _ _ => True) (fun _ U o U' => EndH Z EL U Q rm.cells rm.slots o U')
theorem conH_of_goF {rm : Room} {as : Array Value} {Q : Option Value → Heap → List Loc → Prop} {Ls : Array Slot} (hn : plainFor x0 = true) (hef : ∀ m, entryFrame m as maxL = mkF m 0 Ls [])
    (H : ∀ (p : Program) (e : Env) (s : State) (m : MethodId) (below : List Frame) (meth : Method) (c : Code) (T : State), Cx p l s m meth c Z x0 code maxL ret → Stand p l e rm s m as below meth c T [] 0 0 → T.heap = h → s.heap = h → CHv Z EL s.vm h → Go p.tables e below (EndH Z EL s Q rm.cells rm.slots) T (mkF m 0 Ls [])) :
    ConH l Z EL x0 code maxL ret rm as h Q := by
  intro ws
  refine MetFree.of_bodySF hn hisR ?_
  intro p e s m args below meth c s₁ Bd hml hP hK
  obtain ⟨rfl, hZ, hh, hC⟩ := hP
  have X0 : Stand p l e rm s m args below meth c s₁ [] 0 0 := Stand.of_body Bd
  have e0 : s₁.heap = h := by rw [← hh, Bd.state]; rfl
  have q := H p e s m below meth c s₁ ⟨Bd.exec, hZ, Bd.bytes, hml, findClass_of_methodNamed Bd.named, Bd.returns, Bd.notSynchronized, (name_of_methodNamed Bd.named Bd.method).1⟩ X0 e0 hh hC
  rw [hef]
  exact q
theorem g_ldcH {vm0 : Vm} {s : State} {h0 : Heap} (C : Cx p l (s.setVm vm0) m meth c Z x0 code maxL ret) (X : Stand p l e R (s.setVm vm0) m args below meth c T locs cells slots) {text : String} {index k0 : Nat} (hS : s.Since vm0 k0) (hk : Siz k0 h) (hEL : EW Z a0 EL) (hmem : (x0.cls, index) ∈ EL) (H : CHr Z EL s.vm h0 vm0 h)
    (w : (Cond.stringLink x0.cls index text).before a0 Z = true) (wS : ∀ a ∈ Bundle.stringAtoms, a.before a0 Z = true) {vs : List Value} {z : Int32} (ht : (∀ c ∈ text.toList, c.toNat < 256) ∧ text.toList.map (fun c => Value.int (Jvm.Lit.byteI c.toNat.toUInt16)) = vs) (hz : ¬ z < 0) (hl : z.toNatClampNeg = vs.length)
    (eT : T.heap = h) {pc pc' : Nat} {Ls : Array Slot} {st : List Value} (hd : decode code pc = .ok (.ldc index, 2)) (n : Nat) (hn : 4 * text.toList.length ≤ n) (hbig : n ≤ 536870912) (hc : cells + 2 ≤ R.cells) (hl' : slots + (n + 4) ≤ R.slots) (hp : pc + 2 = pc')
    (K : ∀ a T' h' k1 b k, Cx p l (s.setVm T'.vm) m meth c Z x0 code maxL ret → Stand p l e R (s.setVm T'.vm) m args below meth c T' locs (cells + 2) (slots + (n + 4)) → T'.heap = h' → Ext h h' → s.Since T'.vm k1 → Siz k1 h' → CHr Z EL s.vm h0 T'.vm h' → Exa Z h' a "java/lang/String" → Fld Z h' a "java/lang/String" "coder" "B" (.int 0) → Fld Z h' a "java/lang/String" "value" "[B" (.ref b) → Arv Z h' b k .byte z vs (.int 0) → (∀ x, Safe Z EL T'.vm h' x → x ≠ a ∧ x ≠ b) → Go p.tables e below G T' (mkF m pc' Ls (.ref a :: st))) :
    Go p.tables e below G T (mkF m pc Ls st) := by
  subst hp
  obtain ⟨a, T', h', k1, b, k, X', e1, E1, S1, hk1, w1, o1, r1, r2, r3, r4, -, -, r7, -, r9, st1⟩ := ldcCH X C.exec C.warm C.own w wS eT hS hk hEL hmem H.1 ht hz hl (g := mkF m pc Ls st) rfl (C.at hd) hn hbig hc hl'
  exact Go.step st1 (K a T' h' k1 b k ⟨C.exec, w1, C.bytes, C.maxl, o1, C.rets, C.unlocked, C.nm⟩ X' e1 E1 S1 hk1 (H.trans r7) r1 r2 r3 r4 r9)
theorem g_returnH {vm1 : Vm} {k1 k n : Nat} {h0 : Heap} {Q : Option Value → Heap → List Loc → Prop} {s : State} (C : Cx p l (s.setVm vm1) m meth c Z x0 code maxL none) (X : Stand p l e R (s.setVm vm1) m args below meth c T locs cells slots) (hS : s.Since vm1 k1) (eT : T.heap = h) (hk1 : Siz k1 h) (hEL : EW Z a0 EL) (hh : s.heap = h0) (H : CHr Z EL s.vm h0 vm1 h) {pc : Nat} {Ls : Array Slot} (hd : decode code pc = .ok (.return_, 1))
    (hQ : Q none T.heap locs) (hk : cells ≤ k) (hn : slots ≤ n) : Go p.tables e below (EndH Z EL s Q k n) T (mkF m pc Ls []) := by
  subst hh eT
  obtain ⟨fs, hr, hrun, hended, hv, h1, h2, h3⟩ := X.leaveW hS hk1 (v := none) (fun _ => rfl) C.unlocked
  have A := H.trans (CHv.at X C.warm hEL H.1)
  exact ⟨_, _, X.returnOut C.exec C.rets (C.at hd) hr, hrun, hended, _, locs, rfl, hQ, A, hv, h1, h2, h3.mono hk hn⟩
theorem g_callIH {vm0 : Vm} {s : State} {h0 : Heap} (C : Cx p l (s.setVm vm0) m meth c Z x0 code maxL ret) (X : Stand p l e R (s.setVm vm0) m args below meth c T locs cells slots) {k0 : Nat} (hS : s.Since vm0 k0) (hk0 : Siz k0 h) (hEL : EW Z a0 EL) (H : CHr Z EL s.vm h0 vm0 h)
    {index : Nat} {y : MethodName} {bytes : ByteArray} {mL : Nat} {rm : Room} {as : Array Value} {Q : Option Value → Heap → List Loc → Prop} (K0 : ConH l Z EL y bytes mL none rm as h Q) (hy1 : y.name = "<init>")
    (w1 : (Cond.methodLink x0.cls index y).before a0 Z = true) (w2 : (Cond.instanceMethod y).before a0 Z = true) (w3 : (Cond.initialized y.cls).before a0 Z = true) (w4 : (Cond.code y bytes mL none).before a0 Z = true)
    (hy : y.cls ≠ "java/lang/invoke/MethodHandle" ∧ y.cls ≠ "java/lang/invoke/VarHandle") (eT : T.heap = h) {pc pc' : Nat} {Ls : Array Slot} {st : List Value} (hd : decode code pc = .ok (.invokespecial index, 3)) (hsz : Ls.size = maxL)
    {ps : List FieldType} {r : Option FieldType} (hpd : parseMethodDescriptor y.desc = some ⟨ps, r⟩) (a : Addr) (argsL rest : List Value) (hlen : argsL.length = ps.length) (has : (.ref a :: argsL).toArray = as) (hst : st = argsL.reverse ++ .ref a :: rest) (W : Nat) (hW : (rest.map fun v => v.category).sum = W)
    (hfr : rm.frames + 1 ≤ R.frames) (hlo : W + (mL + 11) + rm.locals ≤ R.locals) (hce : cells + rm.cells ≤ R.cells) (hsl : slots + rm.slots ≤ R.slots) (hp : pc + 3 = pc')
    (K : ∀ v T' L, Cx p l (s.setVm T'.vm) m meth c Z x0 code maxL ret → Stand p l e R (s.setVm T'.vm) m args below meth c T' (locs ++ L) (cells + rm.cells) (slots + rm.slots) → s.Since T'.vm T'.heap.size → CHr Z EL s.vm h0 T'.vm T'.heap → Q v T'.heap L → Go p.tables e below G T' (mkF m pc' Ls (v.toList ++ rest))) : Go p.tables e below G T (mkF m pc Ls st) := by
  subst hp has
  obtain ⟨v, _, ⟨T1, L1, k1, n1⟩, -, X1, S1, hgr, ⟨Lc, hQ, q1, q2, q3, q4⟩, st1⟩ := X.specialBackS C.exec (y := y) hy1 C.own (mvT C.warm w1) (mvT C.warm w2) (mvT C.warm w4) hy (backOfSH (W := W) (K0 []) C.warm w4 w3 hfr hlo hEL H.1)
    (g := mkF m pc Ls st) rfl (by rw [C.maxl]; exact hsz) (Steps.refl _) (a := a) (argsL := argsL) (rest := rest) (lenOf hpd hlen) hst (by show 2 * 0 + _ ≤ _; rw [hW]; omega) (C.at hd) (fun _ _ => ⟨rfl, eT, hce, hsl⟩)
  dsimp only [Pt.U, Pt.locs, Pt.cells, Pt.slots] at X1 q1 q2 q3 q4 st1 hQ S1 hgr
  subst q1 q2 q3
  have hk' : k0 ≤ T1.heap.size := Nat.le_trans hk0 (eT ▸ hgr)
  refine go_trans st1 (K v T1 Lc ⟨C.exec, State.Warmed39.trans (t := s.setVm vm0) C.warm S1.1, C.bytes, C.maxl, ?_, C.rets, C.unlocked, C.nm⟩ X1 (hS.trans S1 hk') (H.trans q4) hQ)
  show T1.vm.findClass x0.cls = some m.cls
  rw [S1.1.alike.findClass]
  exact C.own
/-- a law's contract: the booked literals stand at its start -/
def ConV (l : Launch) (Z : State) (EL : List (String × Nat)) (y : MethodName) (bytes : ByteArray) (maxL : Nat) (ret : Option FieldType) (rm : Room) (as : Array Value) (h : Heap) (Q : Option Value → Heap → List Loc → Prop) : Prop :=
  ∀ ws, MetFree l y (head1 (Cond.code y bytes maxL ret :: ws) rm) (fun a U => a = as ∧ Z.Warmed39 U.vm ∧ U.heap = h ∧ CHv Z EL U.vm h) (fun _ _ _ _ _ => True) (fun _ U o U' => EndW U Q rm.cells rm.slots o U')
theorem conV_of_go {rm : Room} {as : Array Value} {Q : Option Value → Heap → List Loc → Prop} {Ls : Array Slot} (hn : plainName x0.cls = true) (hef : ∀ m, entryFrame m as maxL = mkF m 0 Ls [])
    (H : ∀ (p : Program) (e : Env) (s : State) (m : MethodId) (below : List Frame) (meth : Method) (c : Code) (T : State), Cx p l s m meth c Z x0 code maxL ret → Stand p l e rm s m as below meth c T [] 0 0 → T.heap = h → CHv Z EL s.vm h → Go p.tables e below (EndW s Q rm.cells rm.slots) T (mkF m 0 Ls [])) :
    ConV l Z EL x0 code maxL ret rm as h Q := by
  intro ws
  refine MetFree.of_bodySF (plainFor_of_name hn) hisR ?_
  intro p e s m args below meth c s₁ Bd hml hP hK
  obtain ⟨rfl, hZ, hh, hC⟩ := hP
  have X0 : Stand p l e rm s m args below meth c s₁ [] 0 0 := Stand.of_body Bd
  have e0 : s₁.heap = h := by rw [← hh, Bd.state]; rfl
  have q := H p e s m below meth c s₁ ⟨Bd.exec, hZ, Bd.bytes, hml, findClass_of_methodNamed Bd.named, Bd.returns, Bd.notSynchronized, (name_of_methodNamed Bd.named Bd.method).1⟩ X0 e0 hC
  rw [hef]
  exact q
end Held
end Jvm.OwnKit
namespace Jvm.OwnKit
section Num
open Jvm.RoadKit
theorem own_m {x y X Y : Int} (h1 : -X ≤ x) (h2 : x ≤ X) (h3 : -Y ≤ y) (h4 : y ≤ Y) : -(X * Y) ≤ x * y ∧ x * y ≤ X * Y := by
  have q := mc h1 h2 h3 h4
  have q1 := Int.mul_le_mul_of_nonneg_left h4 (show 0 ≤ X + x by omega)
  have q2 := Int.mul_le_mul_of_nonneg_left h4 (show 0 ≤ X - x by omega)
  have q3 := Int.mul_le_mul_of_nonneg_left h3 (show 0 ≤ X + x by omega)
  have q4 := Int.mul_le_mul_of_nonneg_left h3 (show 0 ≤ X - x by omega)
  simp only [Int.add_mul, Int.sub_mul, Int.mul_neg] at q1 q2 q3 q4
  omega
theorem own_add {x y : Int64} (h1 : -9223372036854775808 ≤ x.toInt + y.toInt) (h2 : x.toInt + y.toInt < 9223372036854775808) : (x + y).toInt = x.toInt + y.toInt := FP.Core.int64_add h1 h2
theorem own_sub {x y : Int64} (h1 : -9223372036854775808 ≤ x.toInt - y.toInt) (h2 : x.toInt - y.toInt < 9223372036854775808) : (x - y).toInt = x.toInt - y.toInt := FP.Core.int64_sub h1 h2
theorem own_mul {x y : Int64} (h1 : -9223372036854775808 ≤ x.toInt * y.toInt) (h2 : x.toInt * y.toInt < 9223372036854775808) : (x * y).toInt = x.toInt * y.toInt := FP.Core.int64_mul h1 h2
theorem own_neg {x : Int64} (h1 : -9223372036854775808 < x.toInt) : (-x).toInt = -x.toInt := FP.Core.int64_neg h1
theorem own_iadd {x y : Int32} (h1 : -2147483648 ≤ x.toInt + y.toInt) (h2 : x.toInt + y.toInt < 2147483648) : (x + y).toInt = x.toInt + y.toInt := by
  have := c_iadd x y; have := rng32 (x + y); omega
theorem own_isub {x y : Int32} (h1 : -2147483648 ≤ x.toInt - y.toInt) (h2 : x.toInt - y.toInt < 2147483648) : (x - y).toInt = x.toInt - y.toInt := by
  have := c_isub x y; have := rng32 (x - y); omega
theorem own_imul {x y : Int32} (h1 : -2147483648 ≤ x.toInt * y.toInt) (h2 : x.toInt * y.toInt < 2147483648) : (x * y).toInt = x.toInt * y.toInt := by
  have := c_imul x y; have := rng32 (x * y); omega
theorem own_ineg {x : Int32} (h1 : -2147483648 < x.toInt) : (-x).toInt = -x.toInt := by
  have := c_ineg x; have := rng32 (-x); have := rng32 x; omega
end Num
end Jvm.OwnKit
namespace Jvm.OwnKit
open Sem ClassFile Op Lib Jvm.Stand Jvm.Free Jvm.LawKit Jvm.RoadKit Jvm.Free.Fl
section Rows
variable {p : Program} {l : Launch} {e : Env} {R : Room} {s : State} {m : MethodId} {args : Array Value} {below : List Frame} {meth : Method} {c : Code} {T : State} {locs : List Loc} {cells slots : Nat} {Z : State} {a0 : Array Value} {h : Heap} {G : Outcome → State → Prop}
variable {x0 : MethodName} {code : ByteArray} {maxL : Nat} {ret : Option FieldType}
/-- an array by another list that reads alike within its length -/
theorem arv_alike {a : Addr} {k : ClassId} {ty : FieldType} {z : Int32} {vs vs' : List Value} {d : Value} (A : Arv Z h a k ty z vs d) (q : ∀ i, i < z.toNatClampNeg → vs'.getD i d = vs.getD i d) : Arv Z h a k ty z vs' d := by
  obtain ⟨c, A1, q1, S, N, H, Gf⟩ := A
  exact ⟨c, A1, q1, S, N, fun i hi => by rw [q i (S ▸ hi)]; exact H i hi, fun i hi => by rw [q i (S ▸ hi)]; exact Gf i hi⟩
/-- a table of bytes of which nobody asks what it holds -/
def BArr (Z : State) (h : Heap) (a : Addr) : Prop := ∃ k vs d, Arv Z h a k .byte (100 : Int32) vs d
theorem BArr.lt {a : Addr} (F : BArr Z h a) : a < h.size := by obtain ⟨_, _, _, A⟩ := F; exact A.lt
theorem BArr.ext {h' : Heap} {a : Addr} (F : BArr Z h a) (E : Ext h h') : BArr Z h' a := by obtain ⟨k, vs, d, A⟩ := F; exact ⟨k, vs, d, A.ext E⟩
theorem BArr.other {h' : Heap} {a b : Addr} {sl : Nat} {v : Value} (F : BArr Z h b) (W : Wr h h' a sl v) (q : b ≠ a) : BArr Z h' b := by obtain ⟨k, vs, d, A⟩ := F; exact ⟨k, vs, d, A.other W q⟩
theorem BArr.keep {h' : Heap} {a : Addr} {ws : List Addr} (F : BArr Z h a) (K : Keep h h' ws) (q : a ∉ ws) : BArr Z h' a := by obtain ⟨k, vs, d, A⟩ := F; exact ⟨k, vs, d, A.keep K q⟩
theorem byte_of_fits {v : Value} (q : fits .byte v = true) : ∃ w : Int32, v = .int w ∧ nar .byte w = w := by
  cases v with
  | int w =>
    refine ⟨w, rfl, ?_⟩
    have q : (decide ((-128 : Int32) ≤ w) && decide (w ≤ (127 : Int32))) = true := q
    rw [Bool.and_eq_true, decide_eq_true_eq, decide_eq_true_eq, Int32.le_iff_toInt_le, Int32.le_iff_toInt_le] at q
    have e1 : (-128 : Int32).toInt = -128 := by decide
    have e2 : (127 : Int32).toInt = 127 := by decide
    have r := c_i2b w
    show w.toInt8.toInt32 = w
    exact Int32.toInt_inj.mp (by omega)
  | _ => simp [fits] at q
theorem g_baloadU (C : Cx p l s m meth c Z x0 code maxL ret) (X : Stand p l e R s m args below meth c T locs cells slots) {a : Addr} {j : Int32} (eT : T.heap = h) (A : BArr Z h a) (h0 : 0 ≤ j.toInt ∧ j.toInt ≤ 99) {pc pc' : Nat} {Ls : Array Slot} {st : List Value} (hd : decode code pc = .ok (.baload, 1)) (hp : pc + 1 = pc')
    (K : ∀ w : Int32, nar .byte w = w → Go p.tables e below G T (mkF m pc' Ls (.int w :: st))) : Go p.tables e below G T (mkF m pc Ls (.int j :: .ref a :: st)) := by
  obtain ⟨k, vs, d, A⟩ := A
  have e1 : (100 : Int32).toInt = 100 := by decide
  have hin : j.toNatClampNeg < (100 : Int32).toNatClampNeg := by simp only [Int32.toNatClampNeg]; omega
  obtain ⟨c1, A1, q1, S, N, H, Gf⟩ := id A
  obtain ⟨w, ew, hw⟩ := byte_of_fits (Gf j.toNatClampNeg (by rw [S]; exact hin))
  exact g_baload C X (pc' := pc') eT A h0.1 (by omega) j.toNatClampNeg rfl ew hd hp (K w hw)
/-- getfield of an entry that is resolved already -/
theorem g_getFR (C : Cx p l s m meth c Z x0 code maxL ret) (X : Stand p l e R s m args below meth c T locs cells slots) {O n d : String} {index : Nat} (w : (Cond.fieldRef x0.cls index O n d).before a0 Z = true) (eT : T.heap = h) {a : Addr} {v : Value} (F : Fld Z h a O n d v) {pc pc' : Nat} {Ls : Array Slot} {rest : List Value} (hd : decode code pc = .ok (.getfield index, 3)) (hp : pc + 3 = pc')
    (K : Go p.tables e below G T (mkF m pc' Ls (v :: rest))) : Go p.tables e below G T (mkF m pc Ls (.ref a :: rest)) := by
  subst hp
  have hW : Z.Warmed39 T.vm := wtrans C.warm X.warmed
  have w' := Cond.fieldRef_warmed39 hW w
  obtain ⟨c1, k1, i1, f1, q1, q2⟩ := Cond.fieldRef_spec (s := Z.setVm T.vm) (cur := m.cls) (by show T.vm.findClass _ = _; rw [X.warmed.alike.findClass]; exact C.own) w'
  obtain ⟨cell, cf, k, i, f, h1, h2, h3, h4, -, -, h7⟩ := F
  obtain ⟨k', hi, -⟩ := State.fieldFound?_setVm (s := Z) hW.alike h2
  have e := q1.symm.trans hi
  simp only [Option.some.injEq, Prod.mk.injEq] at e
  obtain ⟨-, -, -, rfl⟩ := e
  exact go_trans (X.getfieldR C.exec (g := mkF m pc Ls (.ref a :: rest)) rfl q2 h3 rfl (by rw [eT]; exact h1) h4 h7 (C.at hd) (Steps.refl _)) K
/-- a superclass's method is her own, and she is no interface -/
theorem same_of {y y2 : MethodName} {cls : String} (w3 : (Cond.instanceMethod y).before a0 Z = true) (w5 : (Cond.selects cls y2 y2).before a0 Z = true) (hy2 : y2.cls = y.cls) (hy : y.cls ≠ "java/lang/invoke/MethodHandle" ∧ y.cls ≠ "java/lang/invoke/VarHandle") : (Cond.sameMethod y.cls y.cls y.name y.desc).before a0 Z = true := by
  obtain ⟨mk, methM, hn, -⟩ := Cond.instanceMethod_spec w3
  obtain ⟨c2, r2, m2, -, -, q3, -, kP, hkP, hkPi⟩ := Cond.selects_spec w5
  have e1 := findClass_of_methodNamed hn
  have e2 := findClass_of_methodNamed q3
  rw [hy2] at e2
  have e3 : mk.cls = m2.cls := Option.some.inj (e1.symm.trans e2)
  have hf := State.methodFound?_of_named hn hy
  have hn' : Z.methodNamed? ⟨y.cls, y.name, y.desc⟩ = some mk := hn
  rw [← e3] at hkP
  simp [Cond.before, Cond.holds, Cond.value, e1, hf, hn', hkP, hkPi]
/-- invokespecial of a superclass's method -/
theorem g_callU (C : Cx p l s m meth c Z x0 code maxL ret) (X : Stand p l e R s m args below meth c T locs cells slots) {index : Nat} {y y2 : MethodName} {cls cls2 : String} {bytes : ByteArray} {mL : Nat} {rt : Option FieldType} {rm : Room} {as : Array Value} {Q : Option Value → Heap → List Loc → Prop} (K0 : Con l Z y bytes mL rt rm as h Q)
    (w1 : (Cond.methodLink x0.cls index y).before a0 Z = true) (w6 : (Cond.instanceMethod y).before a0 Z = true) (w2 : (Cond.superclass x0.cls y.cls).before a0 Z = true) (w5 : (Cond.selects cls2 y2 y2).before a0 Z = true) (hy2 : y2.cls = y.cls) (w3 : (Cond.initialized y.cls).before a0 Z = true) (w4 : (Cond.code y bytes mL rt).before a0 Z = true)
    (hy : y.cls ≠ "java/lang/invoke/MethodHandle" ∧ y.cls ≠ "java/lang/invoke/VarHandle") (hni : y.name ≠ "<init>") (eT : T.heap = h) {a : Addr} (E : Exa Z h a cls) {pc pc' : Nat} {Ls : Array Slot} {st : List Value} (hd : decode code pc = .ok (.invokespecial index, 3)) (hsz : Ls.size = maxL)
    {ps : List FieldType} {r : Option FieldType} (hpd : parseMethodDescriptor y.desc = some ⟨ps, r⟩) (argsL rest : List Value) (hlen : argsL.length = ps.length) (has : (.ref a :: argsL).toArray = as) (hst : st = argsL.reverse ++ .ref a :: rest) (W : Nat) (hW : (rest.map fun v => v.category).sum = W)
    (hfr : rm.frames + 1 ≤ R.frames) (hlo : W + (mL + 11) + rm.locals ≤ R.locals) (hce : cells + rm.cells ≤ R.cells) (hsl : slots + rm.slots ≤ R.slots) (hp : pc + 3 = pc')
    (K : ∀ v T' L, Stand p l e R s m args below meth c T' (locs ++ L) (cells + rm.cells) (slots + rm.slots) → Q v T'.heap L → Go p.tables e below G T' (mkF m pc' Ls (v.toList ++ rest))) : Go p.tables e below G T (mkF m pc Ls st) := by
  subst hp has
  obtain ⟨v, _, ⟨T1, L1, k1, n1⟩, -, X1, ⟨Lc, hQ, q1, q2, q3⟩, st1⟩ := superBack X C.exec C.warm C.own w1 (same_of w6 w5 hy2 hy) w6 w2 hni (backOf (W := W) (K0 []) C.warm w4 w3 hfr hlo) eT (Ins.self E)
    (g := mkF m pc Ls st) rfl (by rw [C.maxl]; exact hsz) w4 (argsL := argsL) (rest := rest) (lenOf hpd hlen) hst (by show 2 * 0 + _ ≤ _; rw [hW]; omega) (C.at hd) (fun _ _ => ⟨rfl, eT, hce, hsl⟩)
  dsimp only [Pt.U, Pt.locs, Pt.cells, Pt.slots] at X1 q1 q2 q3 st1 hQ
  subst q1 q2 q3
  exact go_trans st1 (K v T1 Lc X1 hQ)
/-- a private method of the class's own, called virtually; the receiver is of a subclass -/
theorem g_callPS (C : Cx p l s m meth c Z x0 code maxL ret) (X : Stand p l e R s m args below meth c T locs cells slots) {index : Nat} {y : MethodName} {cls : String} {bytes : ByteArray} {mL : Nat} {rt : Option FieldType} {rm : Room} {as : Array Value} {Q : Option Value → Heap → List Loc → Prop} (K0 : Con l Z y bytes mL rt rm as h Q)
    (w1 : (Cond.methodLink x0.cls index y).before a0 Z = true) (wp : (Cond.privateMethod y).before a0 Z = true) (w5 : (Cond.selects cls y y).before a0 Z = true) (w6 : (Cond.instanceMethod y).before a0 Z = true) (w3 : (Cond.initialized y.cls).before a0 Z = true) (w4 : (Cond.code y bytes mL rt).before a0 Z = true)
    (hy : y.cls ≠ "java/lang/invoke/MethodHandle" ∧ y.cls ≠ "java/lang/invoke/VarHandle") (eT : T.heap = h) {a : Addr} (E : Exa Z h a cls) {pc pc' : Nat} {Ls : Array Slot} {st : List Value} (hd : decode code pc = .ok (.invokevirtual index, 3)) (hsz : Ls.size = maxL)
    {ps : List FieldType} {r : Option FieldType} (hpd : parseMethodDescriptor y.desc = some ⟨ps, r⟩) (argsL rest : List Value) (hlen : argsL.length = ps.length) (has : (.ref a :: argsL).toArray = as) (hst : st = argsL.reverse ++ .ref a :: rest) (W : Nat) (hW : (rest.map fun v => v.category).sum = W)
    (hfr : rm.frames + 1 ≤ R.frames) (hlo : W + (mL + 11) + rm.locals ≤ R.locals) (hce : cells + rm.cells ≤ R.cells) (hsl : slots + rm.slots ≤ R.slots) (hp : pc + 3 = pc')
    (K : ∀ v T' L, Stand p l e R s m args below meth c T' (locs ++ L) (cells + rm.cells) (slots + rm.slots) → Q v T'.heap L → Go p.tables e below G T' (mkF m pc' Ls (v.toList ++ rest))) : Go p.tables e below G T (mkF m pc Ls st) := by
  subst hp has
  have ws : (Cond.selects cls y y).before args s = true := mvT C.warm w5
  obtain ⟨c2, r2, m2, -, -, q3, -, kP, hkP, hkPi⟩ := Cond.selects_spec ws
  have hc := findClass_of_methodNamed q3
  have hpr := Cond.privateMethod_at (mvP (args := args) C.warm wp)
  have w6' : (Cond.instanceMethod y).before args s = true := mvT C.warm w6
  have hsel := selects_self_of_private hc hkP hkPi hpr w6' hy
  obtain ⟨cq, qa, qb⟩ := E.cell
  obtain ⟨v, _, ⟨T1, L1, k1, n1⟩, -, X1, ⟨Lc, hQ, q1, q2, q3'⟩, st1⟩ := X.privateBack C.exec (y := y) C.own (mvT C.warm w1) w6' hsel hpr (mvT C.warm w4) hy (backOf (W := W) (K0 []) C.warm w4 w3 hfr hlo)
    (g := mkF m pc Ls st) rfl (by rw [C.maxl]; exact hsz) (Steps.refl _) (by rw [eT]; exact qa) qb (argsL := argsL) (rest := rest) (lenOf hpd hlen) hst (by show 2 * 0 + _ ≤ _; rw [hW]; omega) (C.at hd) (fun _ _ => ⟨rfl, eT, hce, hsl⟩)
  dsimp only [Pt.U, Pt.locs, Pt.cells, Pt.slots] at X1 q1 q2 q3' st1 hQ
  subst q1 q2 q3'
  exact go_trans st1 (K v T1 Lc X1 hQ)
/-- a virtual call that a subclass's own method answers -/
theorem g_callVZ (C : Cx p l s m meth c Z x0 code maxL ret) (X : Stand p l e R s m args below meth c T locs cells slots) {index : Nat} {y z y2 : MethodName} {cls cls2 : String} {bytes : ByteArray} {mL : Nat} {rt : Option FieldType} {rm : Room} {as : Array Value} {Q : Option Value → Heap → List Loc → Prop} (K0 : Con l Z z bytes mL rt rm as h Q)
    (w1 : (Cond.methodLink x0.cls index y).before a0 Z = true) (w2 : (Cond.declares y).before a0 Z = true) (w5 : (Cond.selects cls y z).before a0 Z = true) (w6 : (Cond.instanceMethod z).before a0 Z = true) (w3 : (Cond.initialized z.cls).before a0 Z = true) (w4 : (Cond.code z bytes mL rt).before a0 Z = true) (w7 : (Cond.selects cls2 y2 y2).before a0 Z = true) (hy2 : y2.cls = y.cls)
    (hy : y.cls ≠ "java/lang/invoke/MethodHandle" ∧ y.cls ≠ "java/lang/invoke/VarHandle") (eT : T.heap = h) {a : Addr} (E : Exa Z h a cls) {pc pc' : Nat} {Ls : Array Slot} {st : List Value} (hd : decode code pc = .ok (.invokevirtual index, 3)) (hsz : Ls.size = maxL)
    {ps : List FieldType} {r : Option FieldType} (hpd : parseMethodDescriptor y.desc = some ⟨ps, r⟩) (argsL rest : List Value) (hlen : argsL.length = ps.length) (has : (.ref a :: argsL).toArray = as) (hst : st = argsL.reverse ++ .ref a :: rest) (W : Nat) (hW : (rest.map fun v => v.category).sum = W)
    (hfr : rm.frames + 1 ≤ R.frames) (hlo : W + (mL + 11) + rm.locals ≤ R.locals) (hce : cells + rm.cells ≤ R.cells) (hsl : slots + rm.slots ≤ R.slots) (hp : pc + 3 = pc')
    (K : ∀ v T' L, Stand p l e R s m args below meth c T' (locs ++ L) (cells + rm.cells) (slots + rm.slots) → Q v T'.heap L → Go p.tables e below G T' (mkF m pc' Ls (v.toList ++ rest))) : Go p.tables e below G T (mkF m pc Ls st) := by
  subst hp has
  obtain ⟨cq, kq, qa, qb, qc⟩ := isOf C.warm eT E
  have hnf : NotFace s y := fun r0 h0 => by
    have ws : (Cond.selects cls2 y2 y2).before args s = true := mvT C.warm w7
    obtain ⟨c2, r2, m2, -, -, q3, -, kP, hkP, hkPi⟩ := Cond.selects_spec ws
    have e1 := findClass_of_methodNamed h0
    have e2 := findClass_of_methodNamed q3
    rw [hy2] at e2
    have e3 : r0.cls = m2.cls := Option.some.inj (e1.symm.trans e2)
    exact ⟨kP, by rw [e3]; exact hkP, hkPi⟩
  obtain ⟨v, _, ⟨T1, L1, k1, n1⟩, -, X1, ⟨Lc, hQ, q1, q2, q3⟩, st1⟩ := X.virtualBack C.exec (y := y) (z := z) C.own (mvT C.warm w1) (mvT C.warm w2) hnf (mvT C.warm w5) (mvT C.warm w6) hy (backOf (W := W) (K0 []) C.warm w4 w3 hfr hlo) qa qc
    (g := mkF m pc Ls st) rfl (by rw [C.maxl]; exact hsz) (Steps.refl _) (argsL := argsL) (rest := rest) (lenOf hpd hlen) hst (by show 2 * 0 + _ ≤ _; rw [hW]; omega) (C.at hd) (fun _ _ => ⟨rfl, eT, hce, hsl⟩)
  dsimp only [Pt.U, Pt.locs, Pt.cells, Pt.slots] at X1 q1 q2 q3 st1 hQ
  subst q1 q2 q3
  exact go_trans st1 (K v T1 Lc X1 hQ)
/-- System.arraycopy of an array of numbers -/
theorem g_acopy (C : Cx p l s m meth c Z x0 code maxL ret) (X : Stand p l e R s m args below meth c T locs cells slots) {index : Nat} (w1 : (Cond.methodLink x0.cls index Jvm.Stand.acN).before a0 Z = true) (w2 : (Cond.native Jvm.Stand.acN).before a0 Z = true) (w3 : (Cond.static Jvm.Stand.acN).before a0 Z = true) (w4 : (Cond.initialized "java/lang/System").before a0 Z = true) (eT : T.heap = h)
    {a b : Addr} {k k' : ClassId} {ty : FieldType} {z z' sp dp nn : Int32} {vs vd : List Value} {dv dd : Value} (A : Arv Z h a k ty z vs dv) (B : Arv Z h b k' ty z' vd dd) (hty : refKind ty = false) (h1 : ¬ sp < 0) (h2 : ¬ dp < 0) (h3 : ¬ nn < 0)
    (h4 : sp.toNatClampNeg + nn.toNatClampNeg ≤ z.toNatClampNeg) (h5 : dp.toNatClampNeg + nn.toNatClampNeg ≤ z'.toNatClampNeg) (us : List Value) (hus : us = (List.range nn.toNatClampNeg).map fun i => vs.getD (sp.toNatClampNeg + i) dv) (hl : dp.toNatClampNeg + nn.toNatClampNeg ≤ vd.length) {n0 : Nat} (N : Fr n0 locs) (ge : n0 ≤ b)
    {pc pc' : Nat} {Ls : Array Slot} {rest : List Value} (hd : decode code pc = .ok (.invokestatic index, 3)) (hsz : Ls.size = maxL) (W : Nat) (hW : (rest.map fun v => v.category).sum = W) (hfr : 1 ≤ R.frames) (hlo : W + (nativeFrameWords "java/lang/System" "arraycopy" 5 + 11) ≤ R.locals) (hp : pc + 3 = pc')
    (K : ∀ T' h' L, Stand p l e R s m args below meth c T' L cells slots → T'.heap = h' → Fr n0 L → Keep h h' [b] → Arv Z h' b k' ty z' (vd.take dp.toNatClampNeg ++ us ++ vd.drop (dp.toNatClampNeg + nn.toNatClampNeg)) dd → Go p.tables e below G T' (mkF m pc' Ls rest)) :
    Go p.tables e below G T (mkF m pc Ls (.int nn :: .int dp :: .ref b :: .int sp :: .ref a :: rest)) := by
  subst hp
  obtain ⟨T1, h', L, X1, e1, N1, K1, B1, st1⟩ := cpA X C.exec C.warm C.own w1 w2 w3 w4 eT A B (Or.inl ⟨rfl, hty⟩) h1 h2 h3 h4 h5 hus hl N ge (g := mkF m pc Ls (.int nn :: .int dp :: .ref b :: .int sp :: .ref a :: rest)) rfl (by rw [C.maxl]; exact hsz) rfl (C.at hd) hfr (W := W) (by show 2 * 0 + _ ≤ _; rw [hW]; omega) hlo
  exact Go.step st1 (K T1 h' L X1 e1 N1 K1 B1)
theorem own_nb {x : Int32} {lo hi : Int} (q : lo ≤ x.toInt ∧ x.toInt ≤ hi) (q1 : -2147483647 ≤ lo) : -hi ≤ (-x).toInt ∧ (-x).toInt ≤ -lo := by
  have e := own_ineg (x := x) (by omega)
  omega
end Rows
end Jvm.OwnKit
namespace Jvm.OwnKit
open Sem ClassFile Op Lib Bundle Jvm.Stand Jvm.Free Jvm.LawKit Jvm.RoadKit Jvm.Free.SB Jvm.Free.SBG
section Rows2
variable {p : Program} {l : Launch} {e : Env} {R : Room} {s : State} {m : MethodId} {args : Array Value} {below : List Frame} {meth : Method} {c : Code} {T : State} {locs : List Loc} {cells slots : Nat} {Z : State} {a0 : Array Value} {h : Heap} {G : Outcome → State → Prop}
variable {x0 : MethodName} {code : ByteArray} {maxL : Nat} {ret : Option FieldType} {EL : List (String × Nat)} {vm : Vm}
/-- an int array of which nobody asks what it holds -/
def IArr (Z : State) (h : Heap) (a : Addr) (k : ClassId) (z : Int32) : Prop := ∃ vs, Arv Z h a k .int z vs (.int 0)
theorem IArr.lt {a : Addr} {k : ClassId} {z : Int32} (F : IArr Z h a k z) : a < h.size := by obtain ⟨_, A⟩ := F; exact A.lt
theorem IArr.nostat {a : Addr} {k : ClassId} {z : Int32} (F : IArr Z h a k z) : ∀ cl : Cell, h[a]? = some cl → cl.vm.isStatics = false := by obtain ⟨_, A⟩ := F; exact A.nostat
theorem IArr.ext {h' : Heap} {a : Addr} {k : ClassId} {z : Int32} (F : IArr Z h a k z) (E : Ext h h') : IArr Z h' a k z := by obtain ⟨vs, A⟩ := F; exact ⟨vs, A.ext E⟩
theorem IArr.other {h' : Heap} {a b : Addr} {k : ClassId} {z : Int32} {sl : Nat} {v : Value} (F : IArr Z h b k z) (W : Wr h h' a sl v) (q : b ≠ a) : IArr Z h' b k z := by obtain ⟨vs, A⟩ := F; exact ⟨vs, A.other W q⟩
theorem IArr.keep {h' : Heap} {a : Addr} {k : ClassId} {z : Int32} {ws : List Addr} (F : IArr Z h a k z) (K : Keep h h' ws) (q : a ∉ ws) : IArr Z h' a k z := by obtain ⟨vs, A⟩ := F; exact ⟨vs, A.keep K q⟩
/-- what a step did leaves every booked literal as it was -/
def CKeep (Z : State) (h h' : Heap) : Prop := ∀ EL vm, Z.vm.Alike vm → CHv Z EL vm h → CHr Z EL vm h vm h'
theorem CKeep.of {h' : Heap} {ws : List Addr} (K : Keep h h' ws) (q : ∀ EL vm, Z.vm.Alike vm → ∀ x ∈ ws, Safe Z EL vm h x) : CKeep Z h h' := fun EL vm al H => CHr.keep K (q EL vm al) H
theorem CKeep.trans {h1 h2 : Heap} (A : CKeep Z h h1) (B : CKeep Z h1 h2) : CKeep Z h h2 := fun EL vm al H => (A EL vm al H).trans (B EL vm al (A EL vm al H).1)
theorem CKeep.ext {h1 : Heap} (E : Ext h h1) : CKeep Z h h1 := fun _ _ _ H => CHr.ext E H
theorem CKeep.refl (h : Heap) : CKeep Z h h := fun _ _ _ H => CHr.refl H
theorem g_areturnH {vm1 : Vm} {k1 k n : Nat} {h0 : Heap} {Q : Option Value → Heap → List Loc → Prop} {s : State} {t : FieldType} (C : Cx p l (s.setVm vm1) m meth c Z x0 code maxL (some t)) (X : Stand p l e R (s.setVm vm1) m args below meth c T locs cells slots) (hS : s.Since vm1 k1) (eT : T.heap = h) (hk1 : Siz k1 h) (hEL : EW Z a0 EL) (hh : s.heap = h0) (H : CHr Z EL s.vm h0 vm1 h) {pc : Nat} {Ls : Array Slot} {st : List Value} {w : Value} (hd : decode code pc = .ok (.areturn, 1)) (ht : t.isReference = true) (hw : w.isRef = true) (hna : narrow t w = w)
    (hQ : Q (some w) T.heap locs) (hk : cells ≤ k) (hn : slots ≤ n) : Go p.tables e below (EndH Z EL s Q k n) T (mkF m pc Ls (w :: st)) := by
  subst hh eT
  obtain ⟨fs, hr, hrun, hended, hv, h1, h2, h3⟩ := X.leaveW hS hk1 (v := some w) (fun q => by rw [C.rets] at q; cases q) C.unlocked
  have A := H.trans (CHv.at X C.warm hEL H.1)
  exact ⟨_, _, retOut X C.exec C.rets hna (Or.inr (Or.inr (Or.inr (Or.inr ⟨rfl, ht, hw⟩)))) (C.at hd) hr, hrun, hended, _, locs, rfl, hQ, A, hv, h1, h2, h3.mono hk hn⟩
theorem g_callVH {vm0 : Vm} {s : State} {h0 : Heap} (C : Cx p l (s.setVm vm0) m meth c Z x0 code maxL ret) (X : Stand p l e R (s.setVm vm0) m args below meth c T locs cells slots) {k0 : Nat} (hS : s.Since vm0 k0) (hk0 : Siz k0 h) (hEL : EW Z a0 EL) (H : CHr Z EL s.vm h0 vm0 h)
    {index : Nat} {y : MethodName} {cls : String} {bytes : ByteArray} {mL : Nat} {rt : Option FieldType} {rm : Room} {as : Array Value} {Q : Option Value → Heap → List Loc → Prop} (K0 : ConH l Z EL y bytes mL rt rm as h Q)
    (w1 : (Cond.methodLink x0.cls index y).before a0 Z = true) (w2 : (Cond.declares y).before a0 Z = true) (w5 : (Cond.selects cls y y).before a0 Z = true) (w6 : (Cond.instanceMethod y).before a0 Z = true) (w3 : (Cond.initialized y.cls).before a0 Z = true) (w4 : (Cond.code y bytes mL rt).before a0 Z = true)
    (hy : y.cls ≠ "java/lang/invoke/MethodHandle" ∧ y.cls ≠ "java/lang/invoke/VarHandle") (eT : T.heap = h) {a : Addr} (E : Exa Z h a cls) {pc pc' : Nat} {Ls : Array Slot} {st : List Value} (hd : decode code pc = .ok (.invokevirtual index, 3)) (hsz : Ls.size = maxL)
    {ps : List FieldType} {r : Option FieldType} (hpd : parseMethodDescriptor y.desc = some ⟨ps, r⟩) (argsL rest : List Value) (hlen : argsL.length = ps.length) (has : (.ref a :: argsL).toArray = as) (hst : st = argsL.reverse ++ .ref a :: rest) (W : Nat) (hW : (rest.map fun v => v.category).sum = W)
    (hfr : rm.frames + 1 ≤ R.frames) (hlo : W + (mL + 11) + rm.locals ≤ R.locals) (hce : cells + rm.cells ≤ R.cells) (hsl : slots + rm.slots ≤ R.slots) (hp : pc + 3 = pc')
    (K : ∀ v T' L, Cx p l (s.setVm T'.vm) m meth c Z x0 code maxL ret → Stand p l e R (s.setVm T'.vm) m args below meth c T' (locs ++ L) (cells + rm.cells) (slots + rm.slots) → s.Since T'.vm T'.heap.size → CHr Z EL s.vm h0 T'.vm T'.heap → Q v T'.heap L → Go p.tables e below G T' (mkF m pc' Ls (v.toList ++ rest))) : Go p.tables e below G T (mkF m pc Ls st) := by
  subst hp has
  obtain ⟨cq, kq, qa, qb, qc⟩ := isOf C.warm eT E
  obtain ⟨v, _, ⟨T1, L1, k1, n1⟩, -, X1, S1, hgr, ⟨Lc, hQ, q1, q2, q3, q4⟩, st1⟩ := X.virtualBackS C.exec (y := y) (z := y) C.own (mvT C.warm w1) (mvT C.warm w2) (notFace_of_selects (args := #[]) (mvT C.warm w5)) (mvT C.warm w5) (mvT C.warm w6) hy (backOfSH (W := W) (K0 []) C.warm w4 w3 hfr hlo hEL H.1) qa qc
    (g := mkF m pc Ls st) rfl (by rw [C.maxl]; exact hsz) (Steps.refl _) (argsL := argsL) (rest := rest) (lenOf hpd hlen) hst (by show 2 * 0 + _ ≤ _; rw [hW]; omega) (C.at hd) (fun _ _ => ⟨rfl, eT, hce, hsl⟩)
  dsimp only [Pt.U, Pt.locs, Pt.cells, Pt.slots] at X1 q1 q2 q3 q4 st1 hQ S1 hgr
  subst q1 q2 q3
  have hk' : k0 ≤ T1.heap.size := Nat.le_trans hk0 (eT ▸ hgr)
  refine go_trans st1 (K v T1 Lc ⟨C.exec, State.Warmed39.trans (t := s.setVm vm0) C.warm S1.1, C.bytes, C.maxl, ?_, C.rets, C.unlocked, C.nm⟩ X1 (hS.trans S1 hk') (H.trans q4) hQ)
  show T1.vm.findClass x0.cls = some m.cls
  rw [S1.1.alike.findClass]
  exact C.own
/-- the literal's ldc, from the state at hand -/
theorem g_ldcH2 {vm0 : Vm} {s : State} (C : Cx p l (s.setVm vm0) m meth c Z x0 code maxL ret) (X : Stand p l e R (s.setVm vm0) m args below meth c T locs cells slots) {text : String} {index k0 : Nat} (hS : s.Since vm0 k0) (hk : Siz k0 h) (hEL : EW Z a0 EL) (hmem : (x0.cls, index) ∈ EL) (H : CHv Z EL vm0 h)
    (w : (Cond.stringLink x0.cls index text).before a0 Z = true) (wS : ∀ a ∈ Bundle.stringAtoms, a.before a0 Z = true) {vs : List Value} {z : Int32} (ht : (∀ c ∈ text.toList, c.toNat < 256) ∧ text.toList.map (fun c => Value.int (Jvm.Lit.byteI c.toNat.toUInt16)) = vs) (hz : ¬ z < 0) (hl : z.toNatClampNeg = vs.length)
    (eT : T.heap = h) {pc pc' : Nat} {Ls : Array Slot} {st : List Value} (hd : decode code pc = .ok (.ldc index, 2)) (n : Nat) (hn : 4 * text.toList.length ≤ n) (hbig : n ≤ 536870912) (hc : cells + 2 ≤ R.cells) (hl' : slots + (n + 4) ≤ R.slots) (hp : pc + 2 = pc')
    (K : ∀ a T' h' k1 b k, Cx p l (s.setVm T'.vm) m meth c Z x0 code maxL ret → Stand p l e R (s.setVm T'.vm) m args below meth c T' locs (cells + 2) (slots + (n + 4)) → T'.heap = h' → Ext h h' → s.Since T'.vm k1 → Siz k1 h' → CHr Z EL vm0 h T'.vm h' → Exa Z h' a "java/lang/String" → Fld Z h' a "java/lang/String" "coder" "B" (.int 0) → Fld Z h' a "java/lang/String" "value" "[B" (.ref b) → Arv Z h' b k .byte z vs (.int 0) → (∀ x, Safe Z EL T'.vm h' x → x ≠ a ∧ x ≠ b) → Go p.tables e below G T' (mkF m pc' Ls (.ref a :: st))) :
    Go p.tables e below G T (mkF m pc Ls st) := by
  subst hp
  obtain ⟨a, T', h', k1, b, k, X', e1, E1, S1, hk1, w1, o1, r1, r2, r3, r4, -, -, r7, -, r9, st1⟩ := ldcCH X C.exec C.warm C.own w wS eT hS hk hEL hmem H ht hz hl (g := mkF m pc Ls st) rfl (C.at hd) hn hbig hc hl'
  exact Go.step st1 (K a T' h' k1 b k ⟨C.exec, w1, C.bytes, C.maxl, o1, C.rets, C.unlocked, C.nm⟩ X' e1 E1 S1 hk1 r7 r1 r2 r3 r4 r9)
end Rows2
end Jvm.OwnKit
namespace Jvm.OwnKit
section Dbl
open Jvm.FP.Core Jvm.Free.Fl
theorem i2d_D (x : Int32) : DInt x.toInt (FP.i2d x) := i2d_int x
theorem l2d_D {x : Int64} (h : x.toInt.natAbs ≤ 2 ^ 53) : DInt x.toInt (FP.l2d x) := l2d_int h
theorem dadd_D {i j : Int} {a b : UInt64} (ha : DInt i a) (hb : DInt j b) (h : (i + j).natAbs ≤ 2 ^ 53) : DInt (i + j) (FP.dadd a b) := dadd_int ha hb h
theorem dsub_D {i j : Int} {a b : UInt64} (ha : DInt i a) (hb : DInt j b) (h : (i - j).natAbs ≤ 2 ^ 53) : DInt (i - j) (FP.dsub a b) := dsub_int ha hb h
theorem dmul_D {i j : Int} {a b : UInt64} (ha : DInt i a) (hb : DInt j b) (h : (i * j).natAbs ≤ 2 ^ 53) : DInt (i * j) (FP.dmul a b) := dmul_int ha hb h
theorem dint_one' : DInt 1 FP.dconst1 := dint_one
theorem dneg_int' {i : Int} {a : UInt64} (ha : DInt i a) : DInt (-i) (FP.dneg a) := by
  unfold DInt
  rw [FP.val64_dneg]
  exact whole_negate ha
theorem own_pow_cancel {c k d q1 q2 r1 r2 : Nat} {q r : Int} (hq : (q1 : Int) - q2 = q) (hr : (r1 : Int) - r2 = r) (h : c * 2 ^ (q1 + r2) = k * d * 2 ^ (q2 + r1)) : c * 2 ^ (q - r).toNat = k * d * 2 ^ (r - q).toNat := by
  obtain ⟨n, hn⟩ : ∃ n : Nat, n = min (q1 + r2) (q2 + r1) := ⟨_, rfl⟩
  have e1 : q1 + r2 = (q - r).toNat + n := by omega
  have e2 : q2 + r1 = (r - q).toNat + n := by omega
  rw [e1, e2, Nat.pow_add, Nat.pow_add, ← Nat.mul_assoc, ← Nat.mul_assoc] at h
  exact Nat.eq_of_mul_eq_mul_right (Nat.two_pow_pos n) h
theorem ddiv_int {i j k : Int} {a b : UInt64} (ha : DInt i a) (hb : DInt j b) (hj : j ≠ 0) (hk : i = k * j) (h : k.natAbs ≤ 2 ^ 53) : DInt k (FP.ddiv a b) := by
  unfold DInt at *
  show Whole k (val64 (ddiv a b))
  rw [val64_ddiv]
  cases hva : val64 a with
  | nan => rw [hva] at ha; exact ha.elim
  | inf => rw [hva] at ha; exact ha.elim
  | fin s c q =>
    cases hvb : val64 b with
    | nan => rw [hvb] at hb; exact hb.elim
    | inf => rw [hvb] at hb; exact hb.elim
    | fin t d r =>
      rw [hva] at ha
      rw [hvb] at hb
      have hd : d ≠ 0 := fun q => hj ((whole_zero hb).mp q)
      have h1 := whole_natAbs ha
      have h2 := whole_natAbs hb
      have e1 : quotient b64 (.fin s c q) (.fin t d r) = round b64 (.fin (s != t) k.natAbs 0) := by
        show (if d = 0 then _ else roundRatio b64 (s != t) c d (q - r)) = roundRatio b64 (s != t) k.natAbs 1 0
        rw [if_neg hd]
        refine roundRatio_congr (by omega) (by decide) ?_
        have e2 : c * 2 ^ (q.toNat + (-r).toNat) = k.natAbs * d * 2 ^ ((-q).toNat + r.toNat) := by
          rw [Nat.pow_add, Nat.pow_add, ← Nat.mul_assoc, h1, hk, Int.natAbs_mul]
          calc k.natAbs * j.natAbs * 2 ^ (-q).toNat * 2 ^ (-r).toNat = k.natAbs * 2 ^ (-q).toNat * (j.natAbs * 2 ^ (-r).toNat) := by ac_rfl
            _ = k.natAbs * 2 ^ (-q).toNat * (d * 2 ^ r.toNat) := by rw [h2]
            _ = k.natAbs * d * (2 ^ (-q).toNat * 2 ^ r.toNat) := by ac_rfl
        have e3 := own_pow_cancel (q := q) (r := r) (by omega) (by omega) e2
        rw [Nat.mul_one, show (q - r - 0).toNat = (q - r).toNat by omega, show (0 - (q - r)).toNat = (r - q).toNat by omega]
        exact e3
      rw [e1]
      refine whole_round good_b64 wide_b64 h ?_
      show signed (s != t) (k.natAbs * 2 ^ 0) = k * ((2 ^ 0 : Nat) : Int)
      rw [Nat.pow_zero, Nat.mul_one]
      by_cases hk0 : k = 0
      · subst hk0; exact signed_zero _
      · have hi : i ≠ 0 := by rw [hk]; exact Int.mul_ne_zero hk0 hj
        rw [whole_sign ha hi, whole_sign hb hj]
        unfold signed
        rcases Int.lt_or_gt_of_ne hj with q1 | q1 <;> rcases Int.lt_or_gt_of_ne hk0 with q2 | q2
        · have q3 := Int.mul_pos_of_neg_of_neg q2 q1
          rw [← hk] at q3
          simp [q1, show ¬ i < 0 by omega]; omega
        · have q3 := Int.mul_neg_of_pos_of_neg q2 q1
          rw [← hk] at q3
          simp [q1, q3]; omega
        · have q3 := Int.mul_neg_of_neg_of_pos q2 q1
          rw [← hk] at q3
          simp [show ¬ j < 0 by omega, q3]; omega
        · have q3 := Int.mul_pos q2 q1
          rw [← hk] at q3
          simp [show ¬ j < 0 by omega, show ¬ i < 0 by omega]; omega
end Dbl
end Jvm.OwnKit
namespace Jvm.OwnKit
section Dq
open Jvm.FP.Core Jvm.Free.Fl Op ClassFile
/-- the double a is i / 2^k -/
def DQ (k : Nat) (i : Int) (a : UInt64) : Prop := ∃ s c q, val64 a = .fin s c q ∧ Whole i (.fin s c (q + k))
theorem whole_up {s : Bool} {c : Nat} {q i : Int} (k : Nat) (h : Whole i (.fin s c q)) : Whole (i * ((2 ^ k : Nat) : Int)) (.fin s c (q + k)) := by
  show signed s (c * 2 ^ (q + k).toNat) = i * ((2 ^ k : Nat) : Int) * ((2 ^ (-(q + k)).toNat : Nat) : Int)
  have h : signed s (c * 2 ^ q.toNat) = i * ((2 ^ (-q).toNat : Nat) : Int) := h
  have p : ((2 ^ q.toNat : Nat) : Int) ≠ 0 := by have := Nat.two_pow_pos q.toNat; omega
  rw [signed_mul] at h ⊢
  refine Int.eq_of_mul_eq_mul_right p ?_
  calc signed s c * ((2 ^ (q + k).toNat : Nat) : Int) * ((2 ^ q.toNat : Nat) : Int) = signed s c * ((2 ^ q.toNat : Nat) : Int) * ((2 ^ (q + k).toNat : Nat) : Int) := by ac_rfl
    _ = i * (((2 ^ (-q).toNat : Nat) : Int) * ((2 ^ (q + k).toNat : Nat) : Int)) := by rw [h]; ac_rfl
    _ = i * (((2 ^ k : Nat) : Int) * ((2 ^ (-(q + k)).toNat : Nat) : Int) * ((2 ^ q.toNat : Nat) : Int)) := by
      congr 1
      rw [← Int.natCast_mul, ← Int.natCast_mul, ← Int.natCast_mul, ← Nat.pow_add, ← Nat.pow_add, ← Nat.pow_add]
      congr 2; omega
    _ = i * ((2 ^ k : Nat) : Int) * ((2 ^ (-(q + k)).toNat : Nat) : Int) * ((2 ^ q.toNat : Nat) : Int) := by ac_rfl
theorem whole_inj {s : Bool} {c : Nat} {q i j : Int} (h : Whole i (.fin s c q)) (h' : Whole j (.fin s c q)) : i = j := by
  have h : signed s (c * 2 ^ q.toNat) = i * ((2 ^ (-q).toNat : Nat) : Int) := h
  have h' : signed s (c * 2 ^ q.toNat) = j * ((2 ^ (-q).toNat : Nat) : Int) := h'
  have p : ((2 ^ (-q).toNat : Nat) : Int) ≠ 0 := by have := Nat.two_pow_pos (-q).toNat; omega
  exact Int.eq_of_mul_eq_mul_right p (h.symm.trans h')
theorem whole_down {s : Bool} {c : Nat} {q i : Int} (k : Nat) (h : Whole (i * ((2 ^ k : Nat) : Int)) (.fin s c (q + k))) : Whole i (.fin s c q) := by
  show signed s (c * 2 ^ q.toNat) = i * ((2 ^ (-q).toNat : Nat) : Int)
  have h : signed s (c * 2 ^ (q + k).toNat) = i * ((2 ^ k : Nat) : Int) * ((2 ^ (-(q + k)).toNat : Nat) : Int) := h
  have p : ((2 ^ (q + k).toNat : Nat) : Int) ≠ 0 := by have := Nat.two_pow_pos (q + k).toNat; omega
  rw [signed_mul] at h ⊢
  refine Int.eq_of_mul_eq_mul_right p ?_
  calc signed s c * ((2 ^ q.toNat : Nat) : Int) * ((2 ^ (q + k).toNat : Nat) : Int) = signed s c * ((2 ^ (q + k).toNat : Nat) : Int) * ((2 ^ q.toNat : Nat) : Int) := by ac_rfl
    _ = i * (((2 ^ k : Nat) : Int) * ((2 ^ (-(q + k)).toNat : Nat) : Int) * ((2 ^ q.toNat : Nat) : Int)) := by rw [h]; ac_rfl
    _ = i * (((2 ^ (-q).toNat : Nat) : Int) * ((2 ^ (q + k).toNat : Nat) : Int)) := by
      congr 1
      rw [← Int.natCast_mul, ← Int.natCast_mul, ← Int.natCast_mul, ← Nat.pow_add, ← Nat.pow_add, ← Nat.pow_add]
      congr 2; omega
    _ = i * ((2 ^ (-q).toNat : Nat) : Int) * ((2 ^ (q + k).toNat : Nat) : Int) := by ac_rfl
theorem DQ.of_int {i : Int} {a : UInt64} (k : Nat) (h : DInt i a) : DQ k (i * ((2 ^ k : Nat) : Int)) a := by
  unfold DInt at h
  cases hv : val64 a with
  | nan => rw [hv] at h; exact h.elim
  | inf => rw [hv] at h; exact h.elim
  | fin s c q => rw [hv] at h; exact ⟨s, c, q, hv, whole_up k h⟩
theorem DQ.int {i : Int} {a : UInt64} {k : Nat} (h : DQ k (i * ((2 ^ k : Nat) : Int)) a) : DInt i a := by
  obtain ⟨s, c, q, hv, hw⟩ := h
  unfold DInt
  rw [hv]
  exact whole_down k hw
theorem DQ.ne_nan {k : Nat} {i : Int} {a : UInt64} (h : DQ k i a) : val64 a ≠ .nan := by
  obtain ⟨s, c, q, hv, -⟩ := h
  rw [hv]; exact Datum.noConfusion
theorem nn_of_q {k : Nat} {i : Int} {a : UInt64} (h : DQ k i a) : NoNaN64 a := val64_no.mpr h.ne_nan
/-- a number of up to 53 digits over 2^k is a double -/
theorem q_round {k : Nat} (hk : k ≤ 1022) {s : Bool} {c : Nat} {q i : Int} (h : Whole i (.fin s c (q + k))) (hi : i.natAbs ≤ 2 ^ 53) : ∃ c' q', round b64 (.fin s c q) = .fin s c' q' ∧ Whole i (.fin s c' (q' + k)) := by
  by_cases h0 : i = 0
  · have hc : c = 0 := (whole_zero h).mpr h0
    subst hc h0
    refine ⟨0, b64.qmin, rfl, ?_⟩
    show signed s (0 * _) = 0 * _
    rw [Nat.zero_mul, Int.zero_mul]; exact signed_zero s
  · obtain ⟨c', q', hfit, hv⟩ := natFit good_b64 wide_b64 s (n := i.natAbs) hi
    have hpos : 0 < i.natAbs := Int.natAbs_pos.mpr h0
    have hv' : i.natAbs * 2 ^ (-q').toNat = c' * 2 ^ q'.toNat := by
      rw [show (0 - q').toNat = (-q').toNat by omega, show (q' - 0).toNat = q'.toNat by omega, Nat.mul_one] at hv
      exact hv
    obtain ⟨f1, f2, f3, f4⟩ := hfit
    have f1 : c' < 2 ^ 53 := f1
    have hq : -53 < q' := by
      refine Int.lt_of_not_ge fun hle => ?_
      have e1 : q'.toNat = 0 := by omega
      rw [e1, Nat.pow_zero, Nat.mul_one] at hv'
      have e2 : 2 ^ 53 ≤ 2 ^ (-q').toNat := Nat.pow_le_pow_right (by decide) (by omega)
      have e3 : 2 ^ (-q').toNat ≤ i.natAbs * 2 ^ (-q').toNat := Nat.le_mul_of_pos_left _ hpos
      omega
    have hqm : b64.qmin = -1074 := qmin_b64
    have f5 : b64.tails ≤ c' := by
      rcases f4 with f4 | f4
      · omega
      · exact f4
    have hfit' : FP.Core.fits b64 (.fin s c' (q' - k)) := ⟨f1, by omega, by omega, Or.inr f5⟩
    refine ⟨c', q' - k, ?_, ?_⟩
    · have hn := whole_natAbs h
      refine roundRatio_exact good_b64 (by decide) hfit' ?_
      rw [Nat.mul_one]
      -- c 2^(q+k)+ = |i| 2^(q+k)- and |i| 2^(-q')+ = c' 2^q'+
      have e1 : c * 2 ^ ((q + k).toNat + (-q').toNat) = c' * 1 * 2 ^ ((-(q + k)).toNat + q'.toNat) := by
        rw [Nat.pow_add, Nat.pow_add, ← Nat.mul_assoc, hn, Nat.mul_one]
        calc i.natAbs * 2 ^ (-(q + k)).toNat * 2 ^ (-q').toNat = i.natAbs * 2 ^ (-q').toNat * 2 ^ (-(q + k)).toNat := by ac_rfl
          _ = c' * (2 ^ (-(q + k)).toNat * 2 ^ q'.toNat) := by rw [hv']; ac_rfl
      have e2 := own_pow_cancel (q := q + k) (r := q') (by omega) (by omega) e1
      rw [Nat.mul_one] at e2
      rw [show (q - (q' - (k : Int))).toNat = (q + k - q').toNat by omega, show (q' - (k : Int) - q).toNat = (q' - (q + k)).toNat by omega]
      exact e2
    · rw [show q' - (k : Int) + k = q' by omega]
      show signed s (c' * 2 ^ q'.toNat) = i * ((2 ^ (-q').toNat : Nat) : Int)
      rw [← hv', signed_mul]
      congr 1
      rw [whole_sign h h0]
      unfold signed
      by_cases h : i < 0 <;> simp [h] <;> omega
theorem dadd_q {k : Nat} (hk : k ≤ 1022) {i j : Int} {a b : UInt64} (ha : DQ k i a) (hb : DQ k j b) (h : (i + j).natAbs ≤ 2 ^ 53) : DQ k (i + j) (FP.dadd a b) := by
  obtain ⟨s, c, q, hva, wa⟩ := ha
  obtain ⟨t, d, r, hvb, wb⟩ := hb
  have w := whole_sum wa wb
  have e : exactSum (.fin s c (q + k)) (.fin t d (r + k)) = .fin (sumSign s t (sumUnits s c q t d r (min q r))) (sumUnits s c q t d r (min q r)).natAbs (min q r + k) := by
    have e1 : min (q + k) (r + (k : Int)) = min q r + k := by omega
    have e2 : sumUnits s c (q + k) t d (r + k) (min q r + k) = sumUnits s c q t d r (min q r) := by
      unfold sumUnits inUnits
      rw [show (q + (k : Int) - (min q r + k)).toNat = (q - min q r).toNat by omega, show (r + (k : Int) - (min q r + k)).toNat = (r - min q r).toNat by omega]
    show Datum.fin _ _ _ = _
    rw [e1, e2]
  rw [e] at w
  obtain ⟨c', q', hr, hw⟩ := q_round hk w h
  refine ⟨_, c', q', ?_, hw⟩
  show val64 (dadd a b) = _
  rw [val64_dadd, hva, hvb]
  exact hr
theorem dneg_q {k : Nat} {i : Int} {a : UInt64} (ha : DQ k i a) : DQ k (-i) (FP.dneg a) := by
  obtain ⟨s, c, q, hva, wa⟩ := ha
  exact ⟨!s, c, q, by rw [FP.val64_dneg, hva]; rfl, whole_negate wa⟩
theorem dsub_q {k : Nat} (hk : k ≤ 1022) {i j : Int} {a b : UInt64} (ha : DQ k i a) (hb : DQ k j b) (h : (i - j).natAbs ≤ 2 ^ 53) : DQ k (i - j) (FP.dsub a b) := by
  obtain ⟨t, d, r, hvb, wb⟩ := hb
  have hb' : DQ k (-j) (FP.Core.dneg b) := ⟨!t, d, r, by rw [FP.Core.val64_dneg, hvb]; rfl, whole_negate wb⟩
  rw [show FP.dsub a b = FP.dadd a (FP.Core.dneg b) from dsub_eq a b]
  exact dadd_q hk ha hb' h
theorem dmul_q {k : Nat} (hk : k ≤ 1022) {i j n : Int} {a b : UInt64} (ha : DQ k i a) (hb : DQ k j b) (hn : i * j = n * ((2 ^ k : Nat) : Int)) (h : n.natAbs ≤ 2 ^ 53) : DQ k n (FP.dmul a b) := by
  obtain ⟨s, c, q, hva, wa⟩ := ha
  obtain ⟨t, d, r, hvb, wb⟩ := hb
  have w := whole_product wa wb
  rw [hn] at w
  have w' : Whole n (.fin (s != t) (c * d) (q + r + k)) := by
    refine whole_down k ?_
    rw [show q + r + (k : Int) + k = q + k + (r + k) by omega]
    exact w
  obtain ⟨c', q', hr, hw⟩ := q_round hk w' h
  refine ⟨_, c', q', ?_, hw⟩
  show val64 (dmul a b) = _
  rw [val64_dmul, hva, hvb]
  exact hr
theorem ddiv_q {k : Nat} (hk : k ≤ 1022) {i j n : Int} {a b : UInt64} (ha : DQ k i a) (hb : DQ k j b) (hj : j ≠ 0) (hn : i * ((2 ^ k : Nat) : Int) = n * j) (h : n.natAbs ≤ 2 ^ 53) : DQ k n (FP.ddiv a b) := by
  obtain ⟨s, c, q, hva, wa⟩ := ha
  obtain ⟨t, d, r, hvb, wb⟩ := hb
  have hd : d ≠ 0 := fun q => hj ((whole_zero wb).mp q)
  have h1 := whole_natAbs wa
  have h2 := whole_natAbs wb
  have h3 : i.natAbs * 2 ^ k = n.natAbs * j.natAbs := by
    have := congrArg Int.natAbs hn
    rw [Int.natAbs_mul, Int.natAbs_mul, Int.natAbs_natCast] at this
    exact this
  have w : Whole n (.fin (s != t) n.natAbs (-(k : Int) + k)) := by
    rw [show -(k : Int) + k = 0 by omega]
    show signed (s != t) (n.natAbs * 2 ^ 0) = n * ((2 ^ 0 : Nat) : Int)
    rw [Nat.pow_zero, Nat.mul_one]
    by_cases hn0 : n = 0
    · subst hn0; exact signed_zero _
    · have pk : (0 : Int) < ((2 ^ k : Nat) : Int) := by have := Nat.two_pow_pos k; omega
      have hi : i ≠ 0 := fun hi => by
        rw [hi, Int.zero_mul] at hn
        exact Int.mul_ne_zero hn0 hj hn.symm
      rw [whole_sign wa hi, whole_sign wb hj]
      have si : i < 0 ↔ n * j < 0 := by
        rw [← hn]
        constructor
        · intro q; exact Int.mul_neg_of_neg_of_pos q pk
        · intro q
          refine Int.lt_of_not_ge fun q2 => ?_
          have := Int.mul_nonneg q2 (Int.le_of_lt pk)
          omega
      unfold signed
      rcases Int.lt_or_gt_of_ne hj with q1 | q1 <;> rcases Int.lt_or_gt_of_ne hn0 with q2 | q2
      · have q3 := Int.mul_pos_of_neg_of_neg q2 q1
        simp [q1, show ¬ i < 0 by rw [si]; omega]; omega
      · have q3 := Int.mul_neg_of_pos_of_neg q2 q1
        simp [q1, si.mpr q3]; omega
      · have q3 := Int.mul_neg_of_neg_of_pos q2 q1
        simp [show ¬ j < 0 by omega, si.mpr q3]; omega
      · have q3 := Int.mul_pos q2 q1
        simp [show ¬ j < 0 by omega, show ¬ i < 0 by rw [si]; omega]; omega
  obtain ⟨c', q', hr, hw⟩ := q_round hk w h
  refine ⟨_, c', q', ?_, hw⟩
  show val64 (ddiv a b) = _
  rw [val64_ddiv, hva, hvb, ← hr]
  show (if d = 0 then _ else roundRatio b64 (s != t) c d (q - r)) = roundRatio b64 (s != t) n.natAbs 1 (-(k : Int))
  rw [if_neg hd]
  refine roundRatio_congr (by omega) (by decide) ?_
  rw [Nat.mul_one]
  have e2 : c * 2 ^ (((q + k).toNat + k) + (-(r + k)).toNat) = n.natAbs * d * 2 ^ ((-(q + k)).toNat + (r + k).toNat) := by
    calc c * 2 ^ (((q + k).toNat + k) + (-(r + k)).toNat) = c * 2 ^ (q + k).toNat * 2 ^ k * 2 ^ (-(r + k)).toNat := by rw [Nat.pow_add, Nat.pow_add]; ac_rfl
      _ = i.natAbs * 2 ^ k * 2 ^ (-(q + k)).toNat * 2 ^ (-(r + k)).toNat := by rw [h1]; ac_rfl
      _ = n.natAbs * 2 ^ (-(q + k)).toNat * (j.natAbs * 2 ^ (-(r + k)).toNat) := by rw [h3]; ac_rfl
      _ = n.natAbs * d * (2 ^ (-(q + k)).toNat * 2 ^ (r + k).toNat) := by rw [← h2]; ac_rfl
      _ = _ := by rw [Nat.pow_add]
  have e3 := own_pow_cancel (q := q + k + k) (r := r + k) (q1 := (q + k).toNat + k) (by omega) (by omega) e2
  rw [show (q - r - -(k : Int)).toNat = (q + k + k - (r + k)).toNat by omega, show (-(k : Int) - (q - r)).toNat = (r + k - (q + k + k)).toNat by omega]
  exact e3
theorem dcmp_q {k : Nat} {i j : Int} {a b : UInt64} (ha : DQ k i a) (hb : DQ k j b) : dcmp a b = some (compare i j) := by
  obtain ⟨s, c, q, hva, wa⟩ := ha
  obtain ⟨t, d, r, hvb, wb⟩ := hb
  have w := order_whole wa wb
  show order (val64 a) (val64 b) = _
  rw [hva, hvb, ← w]
  show some (compare _ _) = some (compare _ _)
  have e1 : min (q + k) (r + (k : Int)) = min q r + k := by omega
  rw [e1]
  unfold inUnits
  rw [show (q + (k : Int) - (min q r + k)).toNat = (q - min q r).toNat by omega, show (r + (k : Int) - (min q r + k)).toNat = (r - min q r).toNat by omega]
theorem dcmp_cmpQ {k : Nat} {i j : Int} {a b : UInt64} (ha : DQ k i a) (hb : DQ k j b) (o : CmpOp) : cmpValue (FP.dcmp a b) o = cmpI i j := cmpV_of (dcmp_q ha hb) o
end Dq
end Jvm.OwnKit
namespace Jvm.OwnKit
section Q2
open Jvm.FP.Core Jvm.Free.Fl Op ClassFile
theorem q_zero (k : Nat) : DQ k 0 (0 : UInt64) := ⟨false, 0, -1074, by decide +kernel, by show signed false (0 * _) = 0 * _; rw [Nat.zero_mul, Int.zero_mul]; rfl⟩
theorem dneg_qc {k : Nat} {i : Int} {a : UInt64} (ha : DQ k i a) : DQ k (-i) (FP.Core.dneg a) := by
  obtain ⟨s, c, q, hv, hw⟩ := ha
  exact ⟨!s, c, q, by rw [FP.Core.val64_dneg, hv]; rfl, whole_negate hw⟩
theorem abs_q {k : Nat} {i : Int} {a : UInt64} (h : DQ k i a) : DQ k (i.natAbs : Int) (a &&& 0x7fffffffffffffff) := by
  have c := dcmp_q h (q_zero k)
  rcases Int.lt_trichotomy i 0 with q | q | q
  · have e : compare i 0 = .lt := by simp [compare, compareOfLessAndEq, q]
    rw [e] at c
    rw [abs_neg c, show ((i.natAbs : Nat) : Int) = -i by omega]
    exact dneg_qc h
  · subst q
    rw [abs_zero c]
    exact q_zero k
  · have e : compare i 0 = .gt := by simp [compare, compareOfLessAndEq, show ¬ i < 0 by omega, show ¬ i = 0 by omega]
    rw [e] at c
    rw [abs_pos c, show ((i.natAbs : Nat) : Int) = i by omega]
    exact h
theorem i2d_q (x : Int32) : DQ 2 (4 * x.toInt) (FP.i2d x) := by
  have := DQ.of_int 2 (i2d_D x)
  rwa [show x.toInt * ((2 ^ 2 : Nat) : Int) = 4 * x.toInt from Int.mul_comm _ _] at this
theorem addQ {i j n : Int} {a b : UInt64} (ha : DQ 2 i a) (hb : DQ 2 j b) (e : i + j = n) (h : n.natAbs ≤ 9007199254740992) : DQ 2 n (FP.dadd a b) := by
  subst e; exact dadd_q (by decide) ha hb h
theorem subQ {i j n : Int} {a b : UInt64} (ha : DQ 2 i a) (hb : DQ 2 j b) (e : i - j = n) (h : n.natAbs ≤ 9007199254740992) : DQ 2 n (FP.dsub a b) := by
  subst e; exact dsub_q (by decide) ha hb h
theorem mulQ {i j n : Int} {a b : UInt64} (ha : DQ 2 i a) (hb : DQ 2 j b) (e : i * j = n * 4) (h : n.natAbs ≤ 9007199254740992) : DQ 2 n (FP.dmul a b) := dmul_q (by decide) ha hb e h
theorem divQ {i j n : Int} {a b : UInt64} (ha : DQ 2 i a) (hb : DQ 2 j b) (hj : j ≠ 0) (e : i * 4 = n * j) (h : n.natAbs ≤ 9007199254740992) : DQ 2 n (FP.ddiv a b) := ddiv_q (by decide) ha hb hj e h
theorem own_piv {k u : Int} (hk : -3 ≤ k ∧ k ≤ 3) (hu : u ≠ 0) : (k * u).natAbs < (4 * u).natAbs := by
  rw [Int.natAbs_mul, Int.natAbs_mul]
  exact Nat.mul_lt_mul_of_pos_right (by show k.natAbs < 4; omega) (by omega)
theorem own_l7 (y : Int64) : 0 ≤ ((y &&& 7).toInt32).toInt ∧ ((y &&& 7).toInt32).toInt ≤ 7 := by
  have h1 := RoadKit.c_maskL y 7 3 (by decide) (by decide)
  have h2 := RoadKit.c_l2i (y &&& 7)
  have h3 := RoadKit.rng32 (y &&& 7).toInt32
  rw [h1] at h2
  have h4 : ((2 ^ 3 : Nat) : Int) = 8 := by decide
  rw [h4] at h2
  omega
theorem own_l3 (y : Int64) : 0 ≤ ((y &&& 3).toInt32).toInt ∧ ((y &&& 3).toInt32).toInt ≤ 3 := by
  have h1 := RoadKit.c_maskL y 3 2 (by decide) (by decide)
  have h2 := RoadKit.c_l2i (y &&& 3)
  have h3 := RoadKit.rng32 (y &&& 3).toInt32
  rw [h1] at h2
  have h4 : ((2 ^ 2 : Nat) : Int) = 4 := by decide
  rw [h4] at h2
  omega
theorem own_l255 (y : Int64) : 0 ≤ ((y &&& 255).toInt32).toInt ∧ ((y &&& 255).toInt32).toInt ≤ 255 := by
  have h1 := RoadKit.c_maskL y 255 8 (by decide) (by decide)
  have h2 := RoadKit.c_l2i (y &&& 255)
  have h3 := RoadKit.rng32 (y &&& 255).toInt32
  rw [h1] at h2
  have h4 : ((2 ^ 8 : Nat) : Int) = 256 := by decide
  rw [h4] at h2
  omega
theorem own_qk (y : Int64) : -3 ≤ ((y &&& 7).toInt32 % 7 - 3).toInt ∧ ((y &&& 7).toInt32 % 7 - 3).toInt ≤ 3 := by
  have h1 := own_l7 y
  have h2 := (RoadKit.c_irem (y &&& 7).toInt32 7 7 (by decide)).1 h1.1
  have h3 := RoadKit.c_isub ((y &&& 7).toInt32 % 7) 3
  have h4 := RoadKit.rng32 ((y &&& 7).toInt32 % 7 - 3)
  have h5 : (3 : Int32).toInt = 3 := by decide
  omega
end Q2
end Jvm.OwnKit
namespace Jvm.Pilot.@@N@@
open Jvm Jvm.ClassFile Sem Op Lib Jvm.Free Jvm.Stand Jvm.LawKit Jvm.RoadKit Jvm.OwnKit Bundle Jvm.Pilot.@@N@@.Jvm.D
theorem pn0 : plainName x.cls = true := by first | (simp [x, plainName, overriddenIn]; done) | decide +kernel
theorem nat0 : (0 : Int32).toNatClampNeg = 0 := by decide
theorem tn (x : Int32) : x.toNatClampNeg = x.toInt.toNat := rfl
theorem copy_list (L : List Value) (d : Value) (n m : Nat) (hm : m ≤ n) (hL : m = n ∨ L.length ≤ m) : ∀ i, i < n → L.getD i d = ((([] ++ List.replicate n d).take 0 ++ (List.range m).map (fun i => L.getD (0 + i) d)) ++ ([] ++ List.replicate n d).drop (0 + m)).getD i d := by
  intro i hi
  simp only [List.take_zero, List.nil_append, Nat.zero_add]
  simp only [List.getD_eq_getElem?_getD, List.getElem?_append, List.length_map, List.length_range]
  by_cases q : i < m
  · simp [q]
  · have q2 : L.length ≤ i := by omega
    simp only [q, if_false]
    rw [List.getElem?_eq_none q2, List.getElem?_drop, List.getElem?_replicate]
    split <;> rfl
theorem l2_get (N : Nat) (d x y : Value) (i j q : Nat) (hi : i < N) (hj : j < N) : ((([] ++ List.replicate N d).set i x ++ List.replicate 0 d).set j y).getD q d = if q = j then y else if q = i then x else d := by
  simp only [List.getD_eq_getElem?_getD, List.replicate_zero, List.append_nil, List.nil_append, List.getElem?_set, List.length_set, List.length_replicate, List.getElem?_replicate]
  by_cases h1 : q = j
  · subst h1; simp [hj]
  · by_cases h2 : q = i
    · subst h2; simp [hi, h1, Ne.symm h1, fun e : j = q => h1 e.symm]
    · have h1' : ¬ j = q := fun e => h1 e.symm
      have h2' : ¬ i = q := fun e => h2 e.symm
      simp only [h1, h2, h1', h2', if_false]
      split <;> rfl
/-- a double that Double.isFinite takes -/
def Fin (w : UInt64) : Prop := Jvm.Free.Fl.NoNaN64 w ∧ ¬ 0 < (cmpValue (FP.dcmp (w &&& 0x7fffffffffffffff) (9218868437227405311 : UInt64)) .g).toInt
theorem q_max : DQ 2 (4 * (9007199254740991 * 2 ^ 971)) (9218868437227405311 : UInt64) := ⟨false, 9007199254740991, 971, by decide +kernel, by show FP.Core.signed _ _ = _; decide +kernel⟩
theorem fin_q {i : Int} {w : UInt64} (q : DQ 2 i w) (b : i.natAbs ≤ 36028797018963968) : Fin w := by
  refine ⟨nn_of_q q, ?_⟩
  rw [dcmp_cmpQ (abs_q q) q_max]
  intro r
  have r2 := (cmpI_gt _ _).mp r
  have r3 : (36028797018963968 : Int) < 4 * (9007199254740991 * 2 ^ 971) := by decide +kernel
  omega
theorem fin_zero : Fin (0 : UInt64) := fin_q (q_zero 2) (by decide)
theorem fin_i2d (x : Int32) : Fin (FP.i2d x) := fin_q (i2d_q x) (by have := rng32 x; omega)
theorem d9_0 : decode jdk_41_method_11_code 0 = .ok (.iload_n 0, 1) := by decide +kernel
theorem d9_1 : decode jdk_41_method_11_code 1 = .ok (.ifCond .lt 8, 3) := by decide +kernel
theorem d9_4 : decode jdk_41_method_11_code 4 = .ok (.iload_n 0, 1) := by decide +kernel
theorem d9_5 : decode jdk_41_method_11_code 5 = .ok (.iload_n 1, 1) := by decide +kernel
theorem d9_6 : decode jdk_41_method_11_code 6 = .ok (.if_icmp .lt 10, 3) := by decide +kernel
theorem d9_9 : decode jdk_41_method_11_code 9 = .ok (.aload_n 2, 1) := by decide +kernel
theorem d9_10 : decode jdk_41_method_11_code 10 = .ok (.iload_n 0, 1) := by decide +kernel
theorem d9_11 : decode jdk_41_method_11_code 11 = .ok (.iload_n 1, 1) := by decide +kernel
theorem d9_12 : decode jdk_41_method_11_code 12 = .ok (.invokestatic 95, 3) := by decide +kernel
theorem d9_15 : decode jdk_41_method_11_code 15 = .ok (.athrow, 1) := by decide +kernel
theorem d9_16 : decode jdk_41_method_11_code 16 = .ok (.iload_n 0, 1) := by decide +kernel
theorem d9_17 : decode jdk_41_method_11_code 17 = .ok (.ireturn, 1) := by decide +kernel
theorem kk_0 : plainFor (⟨"jdk/internal/util/Preconditions", "checkIndex", "(IILjava/util/function/BiFunction;)I"⟩ : MethodName) = true := by decide +kernel
theorem kk_1 (m : MethodId) (x0 : Int32) (x1 : Int32) : entryFrame m #[(.int x0), (.int x1), .null] 3 = mkF m 0 #[.val (.int x0), .val (.int x1), .val .null] [] := by first | (simp [entryFrame, mkF, argsToLocals, Value.category]; done) | rfl
set_option maxRecDepth 65536 in
set_option maxHeartbeats 40000000 in
theorem c_pci (l : Launch) (Z : State) (a0 : Array Value) (hw : ∀ d ∈ tables_1, d.before a0 Z = true) (h : Heap) (n0 : Nat) (Z0 : n0 ≤ h.size) (i z : Int32) (h1 : 0 ≤ i.toInt) (h2 : i.toInt < z.toInt) :
    Con l Z (⟨"jdk/internal/util/Preconditions", "checkIndex", "(IILjava/util/function/BiFunction;)I"⟩ : MethodName) jdk_41_method_11_code 3 (some .int) ⟨0, 0, 0, 0⟩ #[(.int i), (.int z), .null] h (fun v h' L => v = some (.int i) ∧ L = [] ∧ h' = h) := by
  refine con_of_goF kk_0 (fun m => kk_1 m i z) ?_
  intro p e s m below meth c T0 C X0 e0
  refine g_iloadN C X0 (pc' := 1) d9_0 rfl rfl ?_
  refine g_if C X0 d9_1 (pc' := 9) (pc'' := 4) (by decide) (by decide) rfl (fun c1 => ?_) (fun c1 => ?_)
  · have c1 : i.toInt < 0 := c1
    exfalso; omega
  · have c1 : ¬ (i.toInt < 0) := c1
    refine g_iloadN C X0 (pc' := 5) d9_4 rfl rfl ?_
    refine g_iloadN C X0 (pc' := 6) d9_5 rfl rfl ?_
    refine g_icmp C X0 d9_6 (pc' := 16) (pc'' := 9) (by decide) (by decide) rfl (fun c6 => ?_) (fun c6 => ?_)
    · have c6 : i.toInt < z.toInt := c6
      refine g_iloadN C X0 (pc' := 17) d9_16 rfl rfl ?_
      exact g_ireturn C X0 d9_17 ⟨rfl, rfl, e0⟩ (by decide) (by decide)
    · have c6 : ¬ (i.toInt < z.toInt) := c6
      exfalso; omega
theorem d8_0 : decode jdk_31_method_17_code 0 = .ok (.iload_n 0, 1) := by decide +kernel
theorem d8_1 : decode jdk_31_method_17_code 1 = .ok (.iload_n 1, 1) := by decide +kernel
theorem d8_2 : decode jdk_31_method_17_code 2 = .ok (.aconst_null, 1) := by decide +kernel
theorem d8_3 : decode jdk_31_method_17_code 3 = .ok (.invokestatic 105, 3) := by decide +kernel
theorem d8_6 : decode jdk_31_method_17_code 6 = .ok (.ireturn, 1) := by decide +kernel
theorem kk_2 : parseMethodDescriptor "(IILjava/util/function/BiFunction;)I" = some ⟨[.int, .int, (.object "java/util/function/BiFunction")], (some .int)⟩ := by decide +kernel
theorem kk_3 : plainFor (⟨"java/util/Objects", "checkIndex", "(II)I"⟩ : MethodName) = true := by decide +kernel
theorem kk_4 (m : MethodId) (x0 : Int32) (x1 : Int32) : entryFrame m #[(.int x0), (.int x1)] 2 = mkF m 0 #[.val (.int x0), .val (.int x1)] [] := by first | (simp [entryFrame, mkF, argsToLocals, Value.category]; done) | rfl
set_option maxRecDepth 65536 in
set_option maxHeartbeats 40000000 in
theorem c_oci (l : Launch) (Z : State) (a0 : Array Value) (hw : ∀ d ∈ tables_1, d.before a0 Z = true) (h : Heap) (n0 : Nat) (Z0 : n0 ≤ h.size) (i z : Int32) (h1 : 0 ≤ i.toInt) (h2 : i.toInt < z.toInt) :
    Con l Z (⟨"java/util/Objects", "checkIndex", "(II)I"⟩ : MethodName) jdk_31_method_17_code 2 (some .int) ⟨1, 0, 0, 14⟩ #[(.int i), (.int z)] h (fun v h' L => v = some (.int i) ∧ L = [] ∧ h' = h) := by
  refine con_of_goF kk_3 (fun m => kk_4 m i z) ?_
  intro p e s m below meth c T0 C X0 e0
  refine g_iloadN C X0 (pc' := 1) d8_0 rfl rfl ?_
  refine g_iloadN C X0 (pc' := 2) d8_1 rfl rfl ?_
  refine g_aconstNull C X0 (pc' := 3) d8_2 rfl ?_
  refine g_callS C X0 (c_pci l Z a0 hw h n0 Z0 i z h1 h2) (hw _ (List.mem_of_getElem? (i := 56) rfl)) (hw _ (List.mem_of_getElem? (i := 57) rfl)) (hw _ (List.mem_of_getElem? (i := 58) rfl)) (hw _ (List.mem_of_getElem? (i := 59) rfl)) (by decide) e0 d8_3 rfl kk_2 [(.int i), (.int z), .null] [] rfl rfl rfl 0 rfl (by decide) (by decide) (by decide) (by decide) rfl ?_
  rintro _ T1 _ X1 ⟨rfl, rfl, e1⟩
  rw [List.append_nil] at X1
  show Go p.tables e below _ T1 (mkF m 6 #[.val (.int i), .val (.int z)] [(.int i)])
  exact g_ireturn C X1 d8_6 ⟨rfl, rfl, e1⟩ (by decide) (by decide)
theorem d15_0 : decode jdk_65_method_30_code 0 = .ok (.iload_n 1, 1) := by decide +kernel
theorem d15_1 : decode jdk_65_method_30_code 1 = .ok (.iload_n 2, 1) := by decide +kernel
theorem d15_2 : decode jdk_65_method_30_code 2 = .ok (.if_icmp .le 44, 3) := by decide +kernel
theorem d15_5 : decode jdk_65_method_30_code 5 = .ok (.new 43, 3) := by decide +kernel
theorem d15_8 : decode jdk_65_method_30_code 8 = .ok (.dup, 1) := by decide +kernel
theorem d15_9 : decode jdk_65_method_30_code 9 = .ok (.new 45, 3) := by decide +kernel
theorem d15_12 : decode jdk_65_method_30_code 12 = .ok (.dup, 1) := by decide +kernel
theorem d15_13 : decode jdk_65_method_30_code 13 = .ok (.invokespecial 47, 3) := by decide +kernel
theorem d15_16 : decode jdk_65_method_30_code 16 = .ok (.ldc 48, 2) := by decide +kernel
theorem d15_18 : decode jdk_65_method_30_code 18 = .ok (.invokevirtual 50, 3) := by decide +kernel
theorem d15_21 : decode jdk_65_method_30_code 21 = .ok (.iload_n 1, 1) := by decide +kernel
theorem d15_22 : decode jdk_65_method_30_code 22 = .ok (.invokevirtual 54, 3) := by decide +kernel
theorem d15_25 : decode jdk_65_method_30_code 25 = .ok (.ldc 57, 2) := by decide +kernel
theorem d15_27 : decode jdk_65_method_30_code 27 = .ok (.invokevirtual 50, 3) := by decide +kernel
theorem d15_30 : decode jdk_65_method_30_code 30 = .ok (.iload_n 2, 1) := by decide +kernel
theorem d15_31 : decode jdk_65_method_30_code 31 = .ok (.invokevirtual 54, 3) := by decide +kernel
theorem d15_34 : decode jdk_65_method_30_code 34 = .ok (.ldc 59, 2) := by decide +kernel
theorem d15_36 : decode jdk_65_method_30_code 36 = .ok (.invokevirtual 50, 3) := by decide +kernel
theorem d15_39 : decode jdk_65_method_30_code 39 = .ok (.invokevirtual 61, 3) := by decide +kernel
theorem d15_42 : decode jdk_65_method_30_code 42 = .ok (.invokespecial 65, 3) := by decide +kernel
theorem d15_45 : decode jdk_65_method_30_code 45 = .ok (.athrow, 1) := by decide +kernel
theorem d15_46 : decode jdk_65_method_30_code 46 = .ok (.iload_n 1, 1) := by decide +kernel
theorem d15_47 : decode jdk_65_method_30_code 47 = .ok (.ifCond .ge 12, 3) := by decide +kernel
theorem d15_50 : decode jdk_65_method_30_code 50 = .ok (.new 68, 3) := by decide +kernel
theorem d15_53 : decode jdk_65_method_30_code 53 = .ok (.dup, 1) := by decide +kernel
theorem d15_54 : decode jdk_65_method_30_code 54 = .ok (.iload_n 1, 1) := by decide +kernel
theorem d15_55 : decode jdk_65_method_30_code 55 = .ok (.invokespecial 70, 3) := by decide +kernel
theorem d15_58 : decode jdk_65_method_30_code 58 = .ok (.athrow, 1) := by decide +kernel
theorem d15_59 : decode jdk_65_method_30_code 59 = .ok (.iload_n 2, 1) := by decide +kernel
theorem d15_60 : decode jdk_65_method_30_code 60 = .ok (.iload_n 0, 1) := by decide +kernel
theorem d15_61 : decode jdk_65_method_30_code 61 = .ok (.if_icmp .le 12, 3) := by decide +kernel
theorem d15_64 : decode jdk_65_method_30_code 64 = .ok (.new 68, 3) := by decide +kernel
theorem d15_67 : decode jdk_65_method_30_code 67 = .ok (.dup, 1) := by decide +kernel
theorem d15_68 : decode jdk_65_method_30_code 68 = .ok (.iload_n 2, 1) := by decide +kernel
theorem d15_69 : decode jdk_65_method_30_code 69 = .ok (.invokespecial 70, 3) := by decide +kernel
theorem d15_72 : decode jdk_65_method_30_code 72 = .ok (.athrow, 1) := by decide +kernel
theorem d15_73 : decode jdk_65_method_30_code 73 = .ok (.return_, 1) := by decide +kernel
theorem kk_5 : plainFor (⟨"java/util/Arrays", "rangeCheck", "(III)V"⟩ : MethodName) = true := by decide +kernel
theorem kk_6 (m : MethodId) (x0 : Int32) (x1 : Int32) (x2 : Int32) : entryFrame m #[(.int x0), (.int x1), (.int x2)] 3 = mkF m 0 #[.val (.int x0), .val (.int x1), .val (.int x2)] [] := by first | (simp [entryFrame, mkF, argsToLocals, Value.category]; done) | rfl
set_option maxRecDepth 65536 in
set_option maxHeartbeats 40000000 in
theorem c_range (l : Launch) (Z : State) (a0 : Array Value) (hw : ∀ d ∈ tables_1, d.before a0 Z = true) (h : Heap) (n0 : Nat) (Z0 : n0 ≤ h.size) (z i j : Int32) (h1 : 0 ≤ i.toInt) (h2 : i.toInt ≤ j.toInt) (h3 : j.toInt ≤ z.toInt) :
    Con l Z (⟨"java/util/Arrays", "rangeCheck", "(III)V"⟩ : MethodName) jdk_65_method_30_code 3 none ⟨0, 0, 0, 0⟩ #[(.int z), (.int i), (.int j)] h (fun v h' L => v = none ∧ L = [] ∧ h' = h) := by
  refine con_of_goF kk_5 (fun m => kk_6 m z i j) ?_
  intro p e s m below meth c T0 C X0 e0
  refine g_iloadN C X0 (pc' := 1) d15_0 rfl rfl ?_
  refine g_iloadN C X0 (pc' := 2) d15_1 rfl rfl ?_
  refine g_icmp C X0 d15_2 (pc' := 46) (pc'' := 5) (by decide) (by decide) rfl (fun c2 => ?_) (fun c2 => ?_)
  · have c2 : ¬ (j.toInt < i.toInt) := c2
    refine g_iloadN C X0 (pc' := 47) d15_46 rfl rfl ?_
    refine g_if C X0 d15_47 (pc' := 59) (pc'' := 50) (by decide) (by decide) rfl (fun c47 => ?_) (fun c47 => ?_)
    · have c47 : ¬ (i.toInt < 0) := c47
      refine g_iloadN C X0 (pc' := 60) d15_59 rfl rfl ?_
      refine g_iloadN C X0 (pc' := 61) d15_60 rfl rfl ?_
      refine g_icmp C X0 d15_61 (pc' := 73) (pc'' := 64) (by decide) (by decide) rfl (fun c61 => ?_) (fun c61 => ?_)
      · have c61 : ¬ (z.toInt < j.toInt) := c61
        exact g_return C X0 d15_73 ⟨rfl, rfl, e0⟩ (by decide) (by decide)
      · have c61 : z.toInt < j.toInt := Decidable.not_not.mp c61
        exfalso; omega
    · have c47 : i.toInt < 0 := Decidable.not_not.mp c47
      exfalso; omega
  · have c2 : j.toInt < i.toInt := Decidable.not_not.mp c2
    exfalso; omega
theorem d14_0 : decode jdk_65_method_104_code 0 = .ok (.aload_n 0, 1) := by decide +kernel
theorem d14_1 : decode jdk_65_method_104_code 1 = .ok (.arraylength, 1) := by decide +kernel
theorem d14_2 : decode jdk_65_method_104_code 2 = .ok (.iload_n 1, 1) := by decide +kernel
theorem d14_3 : decode jdk_65_method_104_code 3 = .ok (.iload_n 2, 1) := by decide +kernel
theorem d14_4 : decode jdk_65_method_104_code 4 = .ok (.invokestatic 13, 3) := by decide +kernel
theorem d14_7 : decode jdk_65_method_104_code 7 = .ok (.iload_n 1, 1) := by decide +kernel
theorem d14_8 : decode jdk_65_method_104_code 8 = .ok (.istore 4, 2) := by decide +kernel
theorem d14_10 : decode jdk_65_method_104_code 10 = .ok (.iload 4, 2) := by decide +kernel
theorem d14_12 : decode jdk_65_method_104_code 12 = .ok (.iload_n 2, 1) := by decide +kernel
theorem d14_13 : decode jdk_65_method_104_code 13 = .ok (.if_icmp .ge 14, 3) := by decide +kernel
theorem d14_16 : decode jdk_65_method_104_code 16 = .ok (.aload_n 0, 1) := by decide +kernel
theorem d14_17 : decode jdk_65_method_104_code 17 = .ok (.iload 4, 2) := by decide +kernel
theorem d14_19 : decode jdk_65_method_104_code 19 = .ok (.iload_n 3, 1) := by decide +kernel
theorem d14_20 : decode jdk_65_method_104_code 20 = .ok (.iastore, 1) := by decide +kernel
theorem d14_21 : decode jdk_65_method_104_code 21 = .ok (.iinc 4 1, 3) := by decide +kernel
theorem d14_24 : decode jdk_65_method_104_code 24 = .ok (.goto (-14), 3) := by decide +kernel
theorem d14_27 : decode jdk_65_method_104_code 27 = .ok (.return_, 1) := by decide +kernel
set_option maxRecDepth 65536 in
set_option maxHeartbeats 40000000 in
theorem fill_loop (l : Launch) (Z : State) {p : Program} {e : Env} {R : Room} {s : State} {m : MethodId} {args : Array Value} {below : List Frame} {meth : Method} {c : Code} {cells slots : Nat} {G : Outcome → State → Prop} (C : Cx p l s m meth c Z (⟨"java/util/Arrays", "fill", "([IIII)V"⟩ : MethodName) jdk_65_method_104_code 5 none) (h : Heap) (n0 : Nat) (a : Addr) (k : ClassId) (z fr to v : Int32) (z_a : n0 ≤ a) (h3 : to.toInt ≤ z.toInt)
    (K : ∀ j T1 L1 h1, Stand p l e R s m args below meth c T1 L1 cells slots → T1.heap = h1 → Fr n0 L1 → Keep h h1 [a] → IArr Z h1 a k z → Go p.tables e below G T1 (mkF m 27 #[.val (.ref a), .val (.int fr), .val (.int to), .val (.int v), .val (.int j)] [])) :
    ∀ (n : Nat) (j : Int32) (T1 : State) (L1 : List Loc) (h1 : Heap), j.toInt + n = to.toInt → 0 ≤ j.toInt → Stand p l e R s m args below meth c T1 L1 cells slots → T1.heap = h1 → Fr n0 L1 → Keep h h1 [a] → IArr Z h1 a k z → Go p.tables e below G T1 (mkF m 10 #[.val (.ref a), .val (.int fr), .val (.int to), .val (.int v), .val (.int j)] []) := by
  intro n
  induction n with
  | zero =>
    intro j T1 L1 h1 hj hj0 X0 e0 N0 P0 F
    refine g_iload C X0 (pc' := 12) d14_10 rfl rfl ?_
    refine g_iloadN C X0 (pc' := 13) d14_12 rfl rfl ?_
    refine g_icmp C X0 d14_13 (pc' := 27) (pc'' := 16) (by decide) (by decide) rfl (fun c13 => ?_) (fun c13 => ?_)
    · have c13 : ¬ (j.toInt < to.toInt) := c13
      exact K j T1 L1 h1 X0 e0 N0 P0 F
    · have c13 : j.toInt < to.toInt := Decidable.not_not.mp c13
      exfalso; omega
  | succ n ih =>
    intro j T1 L1 h1 hj hj0 X0 e0 N0 P0 F
    obtain ⟨vs0, F0⟩ := F
    refine g_iload C X0 (pc' := 12) d14_10 rfl rfl ?_
    refine g_iloadN C X0 (pc' := 13) d14_12 rfl rfl ?_
    refine g_icmp C X0 d14_13 (pc' := 27) (pc'' := 16) (by decide) (by decide) rfl (fun c13 => ?_) (fun c13 => ?_)
    · have c13 : ¬ (j.toInt < to.toInt) := c13
      exfalso; omega
    · have c13 : j.toInt < to.toInt := Decidable.not_not.mp c13
      refine g_aloadN C X0 (pc' := 17) d14_16 rfl rfl rfl ?_
      refine g_iload C X0 (pc' := 19) d14_17 rfl rfl ?_
      refine g_iloadN C X0 (pc' := 20) d14_19 rfl rfl ?_
      refine g_iastore C X0 (pc' := 21) e0 F0 (by omega) (by omega) j.toNatClampNeg z.toNatClampNeg rfl (by rw [tn, tn]; omega) d14_20 rfl ?_
      intro T2 h2 X2 e2 W2 A2
      have P2 := P0.wr W2 (Or.inl (List.mem_of_getElem? (i := 0) rfl))
      have N2 := Fr.snoc X2 N0 z_a
      obtain ⟨i1, e_i1⟩ : ∃ z : Int32, z = j + Int32.ofInt (1) := ⟨_, rfl⟩
      refine g_iinc C X2 (pc' := 24) d14_21 rfl (z := i1) e_i1 (l' := #[.val (.ref a), .val (.int fr), .val (.int to), .val (.int v), .val (.int i1)]) rfl rfl ?_
      refine g_goto C X2 d14_24 (pc' := 10) (by decide) (by decide) ?_
      have hj1 : i1.toInt = j.toInt + 1 := by
        have q1 : (Int32.ofInt 1).toInt = 1 := by decide
        have q2 := rng32 z
        rw [e_i1, own_iadd (by omega) (by omega), q1]
      exact ih i1 T2 _ h2 (by omega) (by omega) X2 e2 N2 P2 ⟨_, A2⟩
theorem kk_7 : parseMethodDescriptor "(III)V" = some ⟨[.int, .int, .int], none⟩ := by decide +kernel
theorem kk_8 : plainFor (⟨"java/util/Arrays", "fill", "([IIII)V"⟩ : MethodName) = true := by decide +kernel
theorem kk_9 (m : MethodId) (x0 : Addr) (x1 : Int32) (x2 : Int32) (x3 : Int32) : entryFrame m #[(.ref x0), (.int x1), (.int x2), (.int x3)] 5 = mkF m 0 #[.val (.ref x0), .val (.int x1), .val (.int x2), .val (.int x3), .unset] [] := by first | (simp [entryFrame, mkF, argsToLocals, Value.category]; done) | rfl
set_option maxRecDepth 65536 in
set_option maxHeartbeats 40000000 in
theorem c_fill (l : Launch) (Z : State) (a0 : Array Value) (hw : ∀ d ∈ tables_1, d.before a0 Z = true) (h : Heap) (n0 : Nat) (Z0 : n0 ≤ h.size) (a : Addr) (k : ClassId) (z fr to v : Int32) (z_a : n0 ≤ a) (h1 : 0 ≤ fr.toInt) (h2 : fr.toInt ≤ to.toInt) (h3 : to.toInt ≤ z.toInt) (F : IArr Z h a k z) :
    Con l Z (⟨"java/util/Arrays", "fill", "([IIII)V"⟩ : MethodName) jdk_65_method_104_code 5 none ⟨1, 0, 0, 14⟩ #[(.ref a), (.int fr), (.int to), (.int v)] h (fun v h' L => v = none ∧ Fr n0 L ∧ Keep h h' [a] ∧ IArr Z h' a k z) := by
  refine con_of_goF kk_8 (fun m => kk_9 m a fr to v) ?_
  intro p e s m below meth c T0 C X0 e0
  obtain ⟨vs0, F0⟩ := F
  refine g_aloadN C X0 (pc' := 1) d14_0 rfl rfl rfl ?_
  refine g_len C X0 (pc' := 2) e0 F0 d14_1 rfl ?_
  refine g_iloadN C X0 (pc' := 3) d14_2 rfl rfl ?_
  refine g_iloadN C X0 (pc' := 4) d14_3 rfl rfl ?_
  refine g_callS C X0 (c_range l Z a0 hw h n0 Z0 z fr to h1 h2 h3) (hw _ (List.mem_of_getElem? (i := 96) rfl)) (hw _ (List.mem_of_getElem? (i := 97) rfl)) (hw _ (List.mem_of_getElem? (i := 79) rfl)) (hw _ (List.mem_of_getElem? (i := 98) rfl)) (by decide) e0 d14_4 rfl kk_7 [(.int z), (.int fr), (.int to)] [] rfl rfl rfl 0 rfl (by decide) (by decide) (by decide) (by decide) rfl ?_
  rintro _ T1 _ X1 ⟨rfl, rfl, e1⟩
  rw [List.append_nil] at X1
  show Go p.tables e below _ T1 (mkF m 7 #[.val (.ref a), .val (.int fr), .val (.int to), .val (.int v), .unset] [])
  refine g_iloadN C X1 (pc' := 8) d14_7 rfl rfl ?_
  refine g_istore C X1 (pc' := 10) d14_8 (x := fr) rfl (l' := #[.val (.ref a), .val (.int fr), .val (.int to), .val (.int v), .val (.int fr)]) rfl rfl ?_
  refine fill_loop l Z C h n0 a k z fr to v z_a h3 ?_ (to.toInt - fr.toInt).toNat fr T1 [] h (by omega) h1 X1 e1 (Fr.nil n0) (Keep.refl h [a]) ⟨_, F0⟩
  intro j T9 L9 h9 X9 e9 N9 P9 F9
  exact g_return C X9 d14_27 ⟨rfl, N9, by rw [e9]; exact P9, by rw [e9]; exact F9⟩ (by decide) (by decide)
theorem d16_0 : decode jdk_65_method_127_code 0 = .ok (.iload_n 1, 1) := by decide +kernel
theorem d16_1 : decode jdk_65_method_127_code 1 = .ok (.aload_n 0, 1) := by decide +kernel
theorem d16_2 : decode jdk_65_method_127_code 2 = .ok (.arraylength, 1) := by decide +kernel
theorem d16_3 : decode jdk_65_method_127_code 3 = .ok (.if_icmp .ne 11, 3) := by decide +kernel
theorem d16_6 : decode jdk_65_method_127_code 6 = .ok (.aload_n 0, 1) := by decide +kernel
theorem d16_7 : decode jdk_65_method_127_code 7 = .ok (.invokevirtual 328, 3) := by decide +kernel
theorem d16_10 : decode jdk_65_method_127_code 10 = .ok (.checkcast 329, 3) := by decide +kernel
theorem d16_13 : decode jdk_65_method_127_code 13 = .ok (.areturn, 1) := by decide +kernel
theorem d16_14 : decode jdk_65_method_127_code 14 = .ok (.iload_n 1, 1) := by decide +kernel
theorem d16_15 : decode jdk_65_method_127_code 15 = .ok (.newarray .double, 2) := by decide +kernel
theorem d16_17 : decode jdk_65_method_127_code 17 = .ok (.astore_n 2, 1) := by decide +kernel
theorem d16_18 : decode jdk_65_method_127_code 18 = .ok (.aload_n 0, 1) := by decide +kernel
theorem d16_19 : decode jdk_65_method_127_code 19 = .ok (.iconst 0, 1) := by decide +kernel
theorem d16_20 : decode jdk_65_method_127_code 20 = .ok (.aload_n 2, 1) := by decide +kernel
theorem d16_21 : decode jdk_65_method_127_code 21 = .ok (.iconst 0, 1) := by decide +kernel
theorem d16_22 : decode jdk_65_method_127_code 22 = .ok (.aload_n 0, 1) := by decide +kernel
theorem d16_23 : decode jdk_65_method_127_code 23 = .ok (.arraylength, 1) := by decide +kernel
theorem d16_24 : decode jdk_65_method_127_code 24 = .ok (.iload_n 1, 1) := by decide +kernel
theorem d16_25 : decode jdk_65_method_127_code 25 = .ok (.invokestatic 304, 3) := by decide +kernel
theorem d16_28 : decode jdk_65_method_127_code 28 = .ok (.invokestatic 150, 3) := by decide +kernel
theorem d16_31 : decode jdk_65_method_127_code 31 = .ok (.aload_n 2, 1) := by decide +kernel
theorem d16_32 : decode jdk_65_method_127_code 32 = .ok (.areturn, 1) := by decide +kernel
theorem d13_0 : decode jdk_29_method_69_code 0 = .ok (.iload_n 0, 1) := by decide +kernel
theorem d13_1 : decode jdk_29_method_69_code 1 = .ok (.iload_n 1, 1) := by decide +kernel
theorem d13_2 : decode jdk_29_method_69_code 2 = .ok (.if_icmp .gt 7, 3) := by decide +kernel
theorem d13_5 : decode jdk_29_method_69_code 5 = .ok (.iload_n 0, 1) := by decide +kernel
theorem d13_6 : decode jdk_29_method_69_code 6 = .ok (.goto 4, 3) := by decide +kernel
theorem d13_9 : decode jdk_29_method_69_code 9 = .ok (.iload_n 1, 1) := by decide +kernel
theorem d13_10 : decode jdk_29_method_69_code 10 = .ok (.ireturn, 1) := by decide +kernel
theorem kk_10 (m : MethodId) (x0 : Int32) (x1 : Int32) : entryFrame m #[(.int x0), (.int x1)] 2 = mkF m 0 #[.val (.int x0), .val (.int x1)] [] := by first | (simp [entryFrame, mkF, argsToLocals, Value.category]; done) | rfl
theorem kk_11 : plainFor (⟨"java/lang/Math", "min", "(II)I"⟩ : MethodName) = true := by decide +kernel
set_option maxRecDepth 65536 in
set_option maxHeartbeats 40000000 in
theorem k1_min (l : Launch) (Z : State) (a0 : Array Value) (hw : ∀ d ∈ tables_1, d.before a0 Z = true) (h : Heap) (n0 : Nat) (Z0 : n0 ≤ h.size) (qi1 : Int32) (qi2 : Int32) :
    Con l Z (⟨"java/lang/Math", "min", "(II)I"⟩ : MethodName) jdk_29_method_69_code 2 (some .int) ⟨0, 0, 0, 0⟩ #[(.int qi1), (.int qi2)] h (fun v h' L => (v = some (.int qi2) ∧ L = [] ∧ h' = h ∧ qi2.toInt < qi1.toInt) ∨ (v = some (.int qi1) ∧ L = [] ∧ h' = h ∧ (¬ (qi2.toInt < qi1.toInt)))) := by
  refine con_of_goF kk_11 (fun m => kk_10 m qi1 qi2) ?_
  intro p e s m below meth c T0 C X0 e0
  refine g_iloadN C X0 (pc' := 1) d13_0 rfl rfl ?_
  refine g_iloadN C X0 (pc' := 2) d13_1 rfl rfl ?_
  refine g_icmp C X0 d13_2 (pc' := 9) (pc'' := 5) (by decide) (by decide) rfl (fun c2 => ?_) (fun c2 => ?_)
  · have c2 : qi2.toInt < qi1.toInt := c2
    refine g_iloadN C X0 (pc' := 10) d13_9 rfl rfl ?_
    exact g_ireturn C X0 d13_10 (Or.inl ⟨rfl, rfl, e0, c2⟩) (by decide) (by decide)
  · have c2 : ¬ (qi2.toInt < qi1.toInt) := c2
    refine g_iloadN C X0 (pc' := 6) d13_5 rfl rfl ?_
    refine g_goto C X0 d13_6 (pc' := 10) (by decide) (by decide) ?_
    exact g_ireturn C X0 d13_10 (Or.inr ⟨rfl, rfl, e0, c2⟩) (by decide) (by decide)
theorem kk_12 : parseMethodDescriptor "(II)I" = some ⟨[.int, .int], (some .int)⟩ := by decide +kernel
theorem kk_13 : plainFor (⟨"java/util/Arrays", "copyOf", "([DI)[D"⟩ : MethodName) = true := by decide +kernel
theorem kk_14 (m : MethodId) (x0 : Addr) (x1 : Int32) : entryFrame m #[(.ref x0), (.int x1)] 3 = mkF m 0 #[.val (.ref x0), .val (.int x1), .unset] [] := by first | (simp [entryFrame, mkF, argsToLocals, Value.category]; done) | rfl
set_option maxRecDepth 65536 in
set_option maxHeartbeats 40000000 in
theorem c_copyD (l : Launch) (Z : State) (a0 : Array Value) (hw : ∀ d ∈ tables_1, d.before a0 Z = true) (h : Heap) (n0 : Nat) (Z0 : n0 ≤ h.size) (a : Addr) (ka : ClassId) (z n : Int32) (Lq : List Value) (hz : 0 ≤ z.toInt ∧ z.toInt ≤ 94) (hn : 0 ≤ n.toInt ∧ n.toInt ≤ 94) (hL : Lq.length ≤ z.toNatClampNeg) (A0 : Arv Z h a ka .double z Lq (.double (0 : UInt64))) (XA : Exa Z h a "[D") :
    Con l Z (⟨"java/util/Arrays", "copyOf", "([DI)[D"⟩ : MethodName) jdk_65_method_127_code 3 (some (.array .double)) ⟨1, 1, 94, 40⟩ #[(.ref a), (.int n)] h (fun v h' L => ∃ (b : Addr) (kb : ClassId), v = some (.ref b) ∧ Fr n0 L ∧ Keep h h' [] ∧ h.size ≤ b ∧ Arv Z h' b kb .double n Lq (.double (0 : UInt64)) ∧ Exa Z h' b "[D") := by
  refine con_of_goF kk_13 (fun m => kk_14 m a n) ?_
  intro p e s m below meth c T0 C X0 e0
  refine g_iloadN C X0 (pc' := 1) d16_0 rfl rfl ?_
  refine g_aloadN C X0 (pc' := 2) d16_1 rfl rfl rfl ?_
  refine g_len C X0 (pc' := 3) e0 A0 d16_2 rfl ?_
  refine g_icmp C X0 d16_3 (pc' := 14) (pc'' := 6) (by decide) (by decide) rfl (fun c3 => ?_) (fun c3 => ?_)
  · have c3 : ¬ (n.toInt = z.toInt) := c3
    refine g_iloadN C X0 (pc' := 15) d16_14 rfl rfl ?_
    refine g_newPE C X0 (aty := .double) (ad := "[D") (by decide) (hw _ (List.mem_of_getElem? (i := 14) rfl)) e0 d16_15 (bn_nneg hn (by decide)) 94 (bn_cap hn (by decide)) (by decide) (by decide) (by decide) rfl ?_
    intro T1 h1 a1 k1 g1 X1 e1 E1 A1 B1
    have ne_a_a1 : a ≠ a1 := Nat.ne_of_lt (by rw [g1]; exact A0.lt)
    have z_a1 : n0 ≤ a1 := by rw [g1]; exact Z0
    have y_a1 : h.size ≤ a1 := by rw [g1]; exact (Keep.refl h []).1
    have A0 := A0.ext E1
    have XA := XA.ext E1
    have P1 := (Keep.refl h []).ext E1
    have Z1 : n0 ≤ h1.size := Nat.le_trans Z0 E1.1
    have A1 : Arv Z h1 a1 k1 .double n [] (.double (0 : UInt64)) := A1
    refine g_astoreN C X1 (pc' := 18) d16_17 rfl (l' := #[.val (.ref a), .val (.int n), .val (.ref a1)]) rfl rfl ?_
    refine g_aloadN C X1 (pc' := 19) d16_18 rfl rfl rfl ?_
    refine g_iconst C X1 (pc' := 20) d16_19 (v := (0 : Int32)) (by decide) rfl ?_
    refine g_aloadN C X1 (pc' := 21) d16_20 rfl rfl rfl ?_
    refine g_iconst C X1 (pc' := 22) d16_21 (v := (0 : Int32)) (by decide) rfl ?_
    refine g_aloadN C X1 (pc' := 23) d16_22 rfl rfl rfl ?_
    refine g_len C X1 (pc' := 24) e1 A0 d16_23 rfl ?_
    refine g_iloadN C X1 (pc' := 25) d16_24 rfl rfl ?_
    refine g_callS C X1 (k1_min l Z a0 hw h1 n0 Z1  z n    ) (hw _ (List.mem_of_getElem? (i := 81) rfl)) (hw _ (List.mem_of_getElem? (i := 82) rfl)) (hw _ (List.mem_of_getElem? (i := 27) rfl)) (hw _ (List.mem_of_getElem? (i := 83) rfl)) (by decide) e1 d16_25 rfl kk_12 [(.int z), (.int n)] [(.int (0 : Int32)), (.ref a1), (.int (0 : Int32)), (.ref a)] rfl rfl rfl 4 rfl (by decide) (by decide) (by decide) (by decide) rfl ?_
    rintro w2 T2 L2 X2 Q2
    rcases Q2 with ⟨rfl, rfl, e2, cc1⟩ | ⟨rfl, rfl, e2, cc2⟩
    · rw [List.append_nil] at X2
      show Go p.tables e below _ T2 (mkF m 28 #[.val (.ref a), .val (.int n), .val (.ref a1)] [(.int n), (.int (0 : Int32)), (.ref a1), (.int (0 : Int32)), (.ref a)])
      have B0 := Arv.pad A1 (pad_rep [] (.double (0 : UInt64)) n.toNatClampNeg)
      refine g_acopy C X2 (hw _ (List.mem_of_getElem? (i := 84) rfl)) (hw _ (List.mem_of_getElem? (i := 87) rfl)) (hw _ (List.mem_of_getElem? (i := 85) rfl)) (hw _ (List.mem_of_getElem? (i := 86) rfl)) e2 A0 B0 rfl (by decide) (by decide) (bn_nneg hn (by decide)) (by rw [nat0]; have q1 := tn n; have q2 := tn z; omega) (by rw [nat0]; have q1 := tn n; have q2 := tn z; omega) _ rfl (by rw [nat0]; simp only [List.nil_append, List.length_replicate]; have q1 := tn n; have q2 := tn z; omega) (Fr.nil n0) z_a1 d16_28 rfl 0 rfl (by decide) (by decide) rfl ?_
      intro T3 h3 L3 X3 e3 N3 K3 Aq
      have B1 := B1.keep K3
      have P3 := P1.trans K3 (alc (Or.inr y_a1) al0)
      have Ar := arv_alike (vs' := Lq) Aq (by rw [nat0]; exact copy_list Lq (.double (0 : UInt64)) n.toNatClampNeg n.toNatClampNeg (by have q1 := tn n; have q2 := tn z; omega) (by have q1 := tn n; have q2 := tn z; omega))
      refine g_aloadN C X3 (pc' := 32) d16_31 rfl rfl rfl ?_
      exact g_areturn C X3 d16_32 rfl rfl rfl ⟨a1, k1, rfl, N3, by rw [e3]; exact P3, y_a1, by rw [e3]; exact Ar, by rw [e3]; exact B1⟩ (by decide) (by decide)
    · rw [List.append_nil] at X2
      show Go p.tables e below _ T2 (mkF m 28 #[.val (.ref a), .val (.int n), .val (.ref a1)] [(.int z), (.int (0 : Int32)), (.ref a1), (.int (0 : Int32)), (.ref a)])
      have B0 := Arv.pad A1 (pad_rep [] (.double (0 : UInt64)) n.toNatClampNeg)
      refine g_acopy C X2 (hw _ (List.mem_of_getElem? (i := 84) rfl)) (hw _ (List.mem_of_getElem? (i := 87) rfl)) (hw _ (List.mem_of_getElem? (i := 85) rfl)) (hw _ (List.mem_of_getElem? (i := 86) rfl)) e2 A0 B0 rfl (by decide) (by decide) (bn_nneg hz (by decide)) (by rw [nat0]; have q1 := tn n; have q2 := tn z; omega) (by rw [nat0]; have q1 := tn n; have q2 := tn z; omega) _ rfl (by rw [nat0]; simp only [List.nil_append, List.length_replicate]; have q1 := tn n; have q2 := tn z; omega) (Fr.nil n0) z_a1 d16_28 rfl 0 rfl (by decide) (by decide) rfl ?_
      intro T4 h4 L4 X4 e4 N4 K4 Aq
      have B1 := B1.keep K4
      have P4 := P1.trans K4 (alc (Or.inr y_a1) al0)
      have Ar := arv_alike (vs' := Lq) Aq (by rw [nat0]; exact copy_list Lq (.double (0 : UInt64)) n.toNatClampNeg z.toNatClampNeg (by have q1 := tn n; have q2 := tn z; omega) (by have q1 := tn n; have q2 := tn z; omega))
      refine g_aloadN C X4 (pc' := 32) d16_31 rfl rfl rfl ?_
      exact g_areturn C X4 d16_32 rfl rfl rfl ⟨a1, k1, rfl, N4, by rw [e4]; exact P4, y_a1, by rw [e4]; exact Ar, by rw [e4]; exact B1⟩ (by decide) (by decide)
  · have c3 : n.toInt = z.toInt := Decidable.not_not.mp c3
    refine g_aloadN C X0 (pc' := 7) d16_6 rfl rfl rfl ?_
    refine g_clone C X0 (hw _ (List.mem_of_getElem? (i := 275) rfl)) (hw _ (List.mem_of_getElem? (i := 276) rfl)) (hw _ (List.mem_of_getElem? (i := 280) rfl)) (hw _ (List.mem_of_getElem? (i := 278) rfl)) (hw _ (List.mem_of_getElem? (i := 279) rfl)) (hw _ (List.mem_of_getElem? (i := 281) rfl)) e0 A0 XA d16_7 rfl 0 rfl (by decide) (by decide) 94 (bn_cap hz (by decide)) (by decide) (by decide) rfl ?_
    intro T5 h5 a5 g5 X5 e5 E5 A5 B5
    have ne_a_a5 : a ≠ a5 := Nat.ne_of_lt (by rw [g5]; exact A0.lt)
    have z_a5 : n0 ≤ a5 := by rw [g5]; exact Z0
    have y_a5 : h.size ≤ a5 := by rw [g5]; exact (Keep.refl h []).1
    have A0 := A0.ext E5
    have XA := XA.ext E5
    have P5 := (Keep.refl h []).ext E5
    have Z5 : n0 ≤ h5.size := Nat.le_trans Z0 E5.1
    refine g_cast C X5 (hw _ (List.mem_of_getElem? (i := 282) rfl)) e5 (Ins.of_exa B5 (hw _ (List.mem_of_getElem? (i := 283) rfl))) d16_10 rfl ?_
    intro T6 X6 e6
    have ez : z = n := Int32.toInt_inj.mp c3.symm
    exact g_areturn C X6 d16_13 rfl rfl rfl ⟨a5, ka, rfl, (Fr.nil n0), by rw [e6]; exact P5, y_a5, ez ▸ (by rw [e6]; exact A5), by rw [e6]; exact B5⟩ (by decide) (by decide)
theorem d6_0 : decode prog_4_method_8_code 0 = .ok (.iload_n 1, 1) := by decide +kernel
theorem d6_1 : decode prog_4_method_8_code 1 = .ok (.aload_n 0, 1) := by decide +kernel
theorem d6_2 : decode prog_4_method_8_code 2 = .ok (.arraylength, 1) := by decide +kernel
theorem d6_3 : decode prog_4_method_8_code 3 = .ok (.if_icmp .gt 7, 3) := by decide +kernel
theorem d6_6 : decode prog_4_method_8_code 6 = .ok (.aload_n 0, 1) := by decide +kernel
theorem d6_7 : decode prog_4_method_8_code 7 = .ok (.goto 10, 3) := by decide +kernel
theorem d6_10 : decode prog_4_method_8_code 10 = .ok (.aload_n 0, 1) := by decide +kernel
theorem d6_11 : decode prog_4_method_8_code 11 = .ok (.iconst 2, 1) := by decide +kernel
theorem d6_12 : decode prog_4_method_8_code 12 = .ok (.iload_n 1, 1) := by decide +kernel
theorem d6_13 : decode prog_4_method_8_code 13 = .ok (.imul, 1) := by decide +kernel
theorem d6_14 : decode prog_4_method_8_code 14 = .ok (.invokestatic 120, 3) := by decide +kernel
theorem d6_17 : decode prog_4_method_8_code 17 = .ok (.areturn, 1) := by decide +kernel
theorem kk_15 : parseMethodDescriptor "([DI)[D" = some ⟨[(.array .double), .int], (some (.array .double))⟩ := by decide +kernel
theorem kk_16 : plainFor (⟨"com/example/fleetloom/fleetloom/ChainedProgramme$Builder", "grow", "([DI)[D"⟩ : MethodName) = true := by decide +kernel
theorem kk_17 (m : MethodId) (x0 : Addr) (x1 : Int32) : entryFrame m #[(.ref x0), (.int x1)] 2 = mkF m 0 #[.val (.ref x0), .val (.int x1)] [] := by first | (simp [entryFrame, mkF, argsToLocals, Value.category]; done) | rfl
set_option maxRecDepth 65536 in
set_option maxHeartbeats 40000000 in
theorem c_growD (l : Launch) (Z : State) (a0 : Array Value) (hw : ∀ d ∈ tables_1, d.before a0 Z = true) (h : Heap) (n0 : Nat) (Z0 : n0 ≤ h.size) (a : Addr) (ka : ClassId) (z n : Int32) (Lq : List Value) (hz : 0 ≤ z.toInt ∧ z.toInt ≤ 94) (hn : 0 ≤ n.toInt ∧ n.toInt ≤ 47) (hL : Lq.length ≤ z.toNatClampNeg) (A0 : Arv Z h a ka .double z Lq (.double (0 : UInt64))) (XA : Exa Z h a "[D") :
    Con l Z (⟨"com/example/fleetloom/fleetloom/ChainedProgramme$Builder", "grow", "([DI)[D"⟩ : MethodName) prog_4_method_8_code 2 (some (.array .double)) ⟨2, 1, 94, 60⟩ #[(.ref a), (.int n)] h (fun v h' L => (v = some (.ref a) ∧ L = [] ∧ h' = h ∧ n.toInt ≤ z.toInt) ∨ (∃ (b : Addr) (kb : ClassId) (n2 : Int32), v = some (.ref b) ∧ Fr n0 L ∧ Keep h h' [] ∧ h.size ≤ b ∧ Arv Z h' b kb .double n2 Lq (.double (0 : UInt64)) ∧ Exa Z h' b "[D" ∧ n2.toInt = 2 * n.toInt ∧ z.toInt < n.toInt)) := by
  refine con_of_goF kk_16 (fun m => kk_17 m a n) ?_
  intro p e s m below meth c T0 C X0 e0
  refine g_iloadN C X0 (pc' := 1) d6_0 rfl rfl ?_
  refine g_aloadN C X0 (pc' := 2) d6_1 rfl rfl rfl ?_
  refine g_len C X0 (pc' := 3) e0 A0 d6_2 rfl ?_
  refine g_icmp C X0 d6_3 (pc' := 10) (pc'' := 6) (by decide) (by decide) rfl (fun c3 => ?_) (fun c3 => ?_)
  · have c3 : z.toInt < n.toInt := c3
    refine g_aloadN C X0 (pc' := 11) d6_10 rfl rfl rfl ?_
    refine g_iconst C X0 (pc' := 12) d6_11 (v := (2 : Int32)) (by decide) rfl ?_
    refine g_iloadN C X0 (pc' := 13) d6_12 rfl rfl ?_
    refine g_imul C X0 (pc' := 14) d6_13 rfl ?_
    obtain ⟨n2, e_n2⟩ : ∃ z : Int32, z = (2 : Int32) * n := ⟨_, rfl⟩
    rw [← e_n2]
    have hn2 : n2.toInt = 2 * n.toInt := by
      have q1 : (2 : Int32).toInt = 2 := by decide
      rw [e_n2, own_imul (by rw [q1]; omega) (by rw [q1]; omega), q1]
    refine g_callS C X0 (c_copyD l Z a0 hw h n0 Z0 a ka z n2 Lq (by omega) (by omega) hL A0 XA) (hw _ (List.mem_of_getElem? (i := 285) rfl)) (hw _ (List.mem_of_getElem? (i := 110) rfl)) (hw _ (List.mem_of_getElem? (i := 79) rfl)) (hw _ (List.mem_of_getElem? (i := 111) rfl)) (by decide) e0 d6_14 rfl kk_15 [(.ref a), (.int n2)] [] rfl rfl rfl 0 rfl (by decide) (by decide) (by decide) (by decide) rfl ?_
    rintro _ T1 L1 X1 ⟨b, kb, rfl, M1, K1, y_b, Ab, Xb⟩
    show Go p.tables e below _ T1 (mkF m 17 #[.val (.ref a), .val (.int n)] [(.ref b)])
    exact g_areturn C X1 d6_17 rfl rfl rfl (Or.inr ⟨_, _, n2, rfl, Fr.app (Fr.nil n0) M1, K1, y_b, Ab, Xb, hn2, c3⟩) (by decide) (by decide)
  · have c3 : ¬ (z.toInt < n.toInt) := c3
    refine g_aloadN C X0 (pc' := 7) d6_6 rfl rfl rfl ?_
    refine g_goto C X0 d6_7 (pc' := 17) (by decide) (by decide) ?_
    exact g_areturn C X0 d6_17 rfl rfl rfl (Or.inl ⟨rfl, rfl, e0, by omega⟩) (by decide) (by decide)
def BS (Z : State) (h : Heap) (n0 : Nat) (bu : Addr) (dense rows ch : Int32) (cl : List Value) (zz : Int32) (Lq : List Value) : Prop :=
  ∃ (rb ad1 ad2 ad3 ad4 ad5 : Addr) (kb kd1 kd2 kd3 kd4 kd5 : ClassId), Exa Z h bu "com/example/fleetloom/fleetloom/ChainedProgramme$Builder" ∧ Fld Z h bu "com/example/fleetloom/fleetloom/ChainedProgramme$Builder" "denseRows" "I" (.int dense) ∧ Fld Z h bu "com/example/fleetloom/fleetloom/ChainedProgramme$Builder" "rows" "I" (.int rows) ∧ Fld Z h bu "com/example/fleetloom/fleetloom/ChainedProgramme$Builder" "chains" "I" (.int ch) ∧ Fld Z h bu "com/example/fleetloom/fleetloom/ChainedProgramme$Builder" "columns" "I" (.int (0 : Int32)) ∧ Fld Z h bu "com/example/fleetloom/fleetloom/ChainedProgramme$Builder" "entries" "I" (.int (0 : Int32)) ∧ Fld Z h bu "com/example/fleetloom/fleetloom/ChainedProgramme$Builder" "chainStart" "[I" (.ref ad1) ∧ Fld Z h bu "com/example/fleetloom/fleetloom/ChainedProgramme$Builder" "columnStart" "[I" (.ref ad2) ∧ Fld Z h bu "com/example/fleetloom/fleetloom/ChainedProgramme$Builder" "entryRow" "[I" (.ref ad3) ∧ Fld Z h bu "com/example/fleetloom/fleetloom/ChainedProgramme$Builder" "entryValue" "[D" (.ref ad4) ∧ Fld Z h bu "com/example/fleetloom/fleetloom/ChainedProgramme$Builder" "cost" "[D" (.ref ad5) ∧ Fld Z h bu "com/example/fleetloom/fleetloom/ChainedProgramme$Builder" "rhs" "[D" (.ref rb) ∧ Arv Z h ad1 kd1 .int (16 : Int32) cl (.int (0 : Int32)) ∧ Arv Z h ad2 kd2 .int (16 : Int32) [] (.int (0 : Int32)) ∧ Arv Z h ad3 kd3 .int (16 : Int32) [] (.int (0 : Int32)) ∧ Arv Z h ad4 kd4 .double (16 : Int32) [] (.double (0 : UInt64)) ∧ Arv Z h ad5 kd5 .double (16 : Int32) [] (.double (0 : UInt64)) ∧ Arv Z h rb kb .double zz Lq (.double (0 : UInt64)) ∧ Exa Z h rb "[D" ∧ bu ≠ rb ∧ bu ≠ ad1 ∧ bu ≠ ad2 ∧ bu ≠ ad3 ∧ bu ≠ ad4 ∧ bu ≠ ad5 ∧ rb ≠ ad1 ∧ rb ≠ ad2 ∧ rb ≠ ad3 ∧ rb ≠ ad4 ∧ rb ≠ ad5 ∧ ad1 ≠ ad2 ∧ ad1 ≠ ad3 ∧ ad1 ≠ ad4 ∧ ad1 ≠ ad5 ∧ n0 ≤ bu ∧ n0 ≤ rb ∧ n0 ≤ ad1
/-- what the digits' tables and the switch of compact Strings are -/
def SP (Z : State) (h : Heap) (cs : Int32) (dg1 dg2 : Addr) : Prop := Sta Z h "java/lang/String" "COMPACT_STRINGS" "Z" (.int cs) ∧ Sta Z h "java/lang/Integer" "DigitOnes" "[B" (.ref dg1) ∧ Sta Z h "java/lang/Integer" "DigitTens" "[B" (.ref dg2) ∧ BArr Z h dg1 ∧ BArr Z h dg2
def SKeep (Z : State) (n0 : Nat) (h h' : Heap) : Prop := ∀ cs dg1 dg2, dg1 < n0 → dg2 < n0 → SP Z h cs dg1 dg2 → SP Z h' cs dg1 dg2
theorem SKeep.of {Z : State} {n0 : Nat} {h h' : Heap} {ws : List Addr} (K : Keep h h' ws) (q1 : ∀ x ∈ ws, n0 ≤ x) (q2 : ∀ x ∈ ws, ∀ cl : Cell, h[x]? = some cl → cl.vm.isStatics = false) : SKeep Z n0 h h' := fun cs dg1 dg2 l1 l2 ⟨s1, s2, s3, b1, b2⟩ =>
  ⟨staKeep s1 K q2, staKeep s2 K q2, staKeep s3 K q2, b1.keep K (fun m => absurd (q1 _ m) (by omega)), b2.keep K (fun m => absurd (q1 _ m) (by omega))⟩
theorem SKeep.trans {Z : State} {n0 : Nat} {h h1 h2 : Heap} (A : SKeep Z n0 h h1) (B : SKeep Z n0 h1 h2) : SKeep Z n0 h h2 := fun cs d1 d2 l1 l2 s => B cs d1 d2 l1 l2 (A cs d1 d2 l1 l2 s)
theorem d1_0 : decode prog_4_method_1_code 0 = .ok (.aload_n 0, 1) := by decide +kernel
theorem d1_1 : decode prog_4_method_1_code 1 = .ok (.invokespecial 1, 3) := by decide +kernel
theorem d1_4 : decode prog_4_method_1_code 4 = .ok (.aload_n 0, 1) := by decide +kernel
theorem d1_5 : decode prog_4_method_1_code 5 = .ok (.bipush 16, 2) := by decide +kernel
theorem d1_7 : decode prog_4_method_1_code 7 = .ok (.newarray .int, 2) := by decide +kernel
theorem d1_9 : decode prog_4_method_1_code 9 = .ok (.putfield 7, 3) := by decide +kernel
theorem d1_12 : decode prog_4_method_1_code 12 = .ok (.aload_n 0, 1) := by decide +kernel
theorem d1_13 : decode prog_4_method_1_code 13 = .ok (.bipush 16, 2) := by decide +kernel
theorem d1_15 : decode prog_4_method_1_code 15 = .ok (.newarray .int, 2) := by decide +kernel
theorem d1_17 : decode prog_4_method_1_code 17 = .ok (.putfield 13, 3) := by decide +kernel
theorem d1_20 : decode prog_4_method_1_code 20 = .ok (.aload_n 0, 1) := by decide +kernel
theorem d1_21 : decode prog_4_method_1_code 21 = .ok (.bipush 16, 2) := by decide +kernel
theorem d1_23 : decode prog_4_method_1_code 23 = .ok (.newarray .double, 2) := by decide +kernel
theorem d1_25 : decode prog_4_method_1_code 25 = .ok (.putfield 16, 3) := by decide +kernel
theorem d1_28 : decode prog_4_method_1_code 28 = .ok (.aload_n 0, 1) := by decide +kernel
theorem d1_29 : decode prog_4_method_1_code 29 = .ok (.bipush 16, 2) := by decide +kernel
theorem d1_31 : decode prog_4_method_1_code 31 = .ok (.newarray .int, 2) := by decide +kernel
theorem d1_33 : decode prog_4_method_1_code 33 = .ok (.putfield 20, 3) := by decide +kernel
theorem d1_36 : decode prog_4_method_1_code 36 = .ok (.aload_n 0, 1) := by decide +kernel
theorem d1_37 : decode prog_4_method_1_code 37 = .ok (.bipush 16, 2) := by decide +kernel
theorem d1_39 : decode prog_4_method_1_code 39 = .ok (.newarray .double, 2) := by decide +kernel
theorem d1_41 : decode prog_4_method_1_code 41 = .ok (.putfield 23, 3) := by decide +kernel
theorem d1_44 : decode prog_4_method_1_code 44 = .ok (.aload_n 0, 1) := by decide +kernel
theorem d1_45 : decode prog_4_method_1_code 45 = .ok (.iload_n 1, 1) := by decide +kernel
theorem d1_46 : decode prog_4_method_1_code 46 = .ok (.putfield 26, 3) := by decide +kernel
theorem d1_49 : decode prog_4_method_1_code 49 = .ok (.aload_n 0, 1) := by decide +kernel
theorem d1_50 : decode prog_4_method_1_code 50 = .ok (.iload_n 1, 1) := by decide +kernel
theorem d1_51 : decode prog_4_method_1_code 51 = .ok (.putfield 30, 3) := by decide +kernel
theorem d1_54 : decode prog_4_method_1_code 54 = .ok (.aload_n 0, 1) := by decide +kernel
theorem d1_55 : decode prog_4_method_1_code 55 = .ok (.bipush 16, 2) := by decide +kernel
theorem d1_57 : decode prog_4_method_1_code 57 = .ok (.iload_n 1, 1) := by decide +kernel
theorem d1_58 : decode prog_4_method_1_code 58 = .ok (.invokestatic 33, 3) := by decide +kernel
theorem d1_61 : decode prog_4_method_1_code 61 = .ok (.newarray .double, 2) := by decide +kernel
theorem d1_63 : decode prog_4_method_1_code 63 = .ok (.putfield 39, 3) := by decide +kernel
theorem d1_66 : decode prog_4_method_1_code 66 = .ok (.return_, 1) := by decide +kernel
theorem d3_0 : decode jdk_29_method_65_code 0 = .ok (.iload_n 0, 1) := by decide +kernel
theorem d3_1 : decode jdk_29_method_65_code 1 = .ok (.iload_n 1, 1) := by decide +kernel
theorem d3_2 : decode jdk_29_method_65_code 2 = .ok (.if_icmp .lt 7, 3) := by decide +kernel
theorem d3_5 : decode jdk_29_method_65_code 5 = .ok (.iload_n 0, 1) := by decide +kernel
theorem d3_6 : decode jdk_29_method_65_code 6 = .ok (.goto 4, 3) := by decide +kernel
theorem d3_9 : decode jdk_29_method_65_code 9 = .ok (.iload_n 1, 1) := by decide +kernel
theorem d3_10 : decode jdk_29_method_65_code 10 = .ok (.ireturn, 1) := by decide +kernel
theorem kk_18 (m : MethodId) (x0 : Int32) (x1 : Int32) : entryFrame m #[(.int x0), (.int x1)] 2 = mkF m 0 #[.val (.int x0), .val (.int x1)] [] := by first | (simp [entryFrame, mkF, argsToLocals, Value.category]; done) | rfl
theorem kk_19 : plainFor (⟨"java/lang/Math", "max", "(II)I"⟩ : MethodName) = true := by decide +kernel
set_option maxRecDepth 65536 in
set_option maxHeartbeats 40000000 in
theorem k2_max (l : Launch) (Z : State) (a0 : Array Value) (hw : ∀ d ∈ tables_1, d.before a0 Z = true) (h : Heap) (n0 : Nat) (Z0 : n0 ≤ h.size) (qi1 : Int32) :
    Con l Z (⟨"java/lang/Math", "max", "(II)I"⟩ : MethodName) jdk_29_method_65_code 2 (some .int) ⟨0, 0, 0, 0⟩ #[(.int (16 : Int32)), (.int qi1)] h (fun v h' L => (v = some (.int qi1) ∧ L = [] ∧ h' = h ∧ 16 < qi1.toInt) ∨ (v = some (.int (16 : Int32)) ∧ L = [] ∧ h' = h ∧ (¬ (16 < qi1.toInt)))) := by
  refine con_of_goF kk_19 (fun m => kk_18 m (16 : Int32) qi1) ?_
  intro p e s m below meth c T0 C X0 e0
  refine g_iloadN C X0 (pc' := 1) d3_0 rfl rfl ?_
  refine g_iloadN C X0 (pc' := 2) d3_1 rfl rfl ?_
  refine g_icmp C X0 d3_2 (pc' := 9) (pc'' := 5) (by decide) (by decide) rfl (fun c2 => ?_) (fun c2 => ?_)
  · have c2 : 16 < qi1.toInt := c2
    refine g_iloadN C X0 (pc' := 10) d3_9 rfl rfl ?_
    exact g_ireturn C X0 d3_10 (Or.inl ⟨rfl, rfl, e0, c2⟩) (by decide) (by decide)
  · have c2 : ¬ (16 < qi1.toInt) := c2
    refine g_iloadN C X0 (pc' := 6) d3_5 rfl rfl ?_
    refine g_goto C X0 d3_6 (pc' := 10) (by decide) (by decide) ?_
    exact g_ireturn C X0 d3_10 (Or.inr ⟨rfl, rfl, e0, c2⟩) (by decide) (by decide)
theorem kk_20 : plainFor (⟨"com/example/fleetloom/fleetloom/ChainedProgramme$Builder", "<init>", "(I)V"⟩ : MethodName) = true := by decide +kernel
theorem kk_21 (m : MethodId) (x0 : Addr) (x1 : Int32) : entryFrame m #[(.ref x0), (.int x1)] 2 = mkF m 0 #[.val (.ref x0), .val (.int x1)] [] := by first | (simp [entryFrame, mkF, argsToLocals, Value.category]; done) | rfl
set_option maxRecDepth 65536 in
set_option maxHeartbeats 40000000 in
theorem c_bi (l : Launch) (Z : State) (a0 : Array Value) (hw : ∀ d ∈ tables_1, d.before a0 Z = true) (h : Heap) (n0 : Nat) (Z0 : n0 ≤ h.size) (bu : Addr) (dense : Int32) (z_bu : n0 ≤ bu) (hd : 0 ≤ dense.toInt ∧ dense.toInt ≤ 31) (XB : Exa Z h bu "com/example/fleetloom/fleetloom/ChainedProgramme$Builder") (G0 : Fld Z h bu "com/example/fleetloom/fleetloom/ChainedProgramme$Builder" "denseRows" "I" (.int (0 : Int32))) (G1 : Fld Z h bu "com/example/fleetloom/fleetloom/ChainedProgramme$Builder" "rows" "I" (.int (0 : Int32))) (G2 : Fld Z h bu "com/example/fleetloom/fleetloom/ChainedProgramme$Builder" "chains" "I" (.int (0 : Int32))) (G3 : Fld Z h bu "com/example/fleetloom/fleetloom/ChainedProgramme$Builder" "columns" "I" (.int (0 : Int32))) (G4 : Fld Z h bu "com/example/fleetloom/fleetloom/ChainedProgramme$Builder" "entries" "I" (.int (0 : Int32))) (G5 : Fld Z h bu "com/example/fleetloom/fleetloom/ChainedProgramme$Builder" "chainStart" "[I" .null) (G6 : Fld Z h bu "com/example/fleetloom/fleetloom/ChainedProgramme$Builder" "columnStart" "[I" .null) (G7 : Fld Z h bu "com/example/fleetloom/fleetloom/ChainedProgramme$Builder" "entryRow" "[I" .null) (G8 : Fld Z h bu "com/example/fleetloom/fleetloom/ChainedProgramme$Builder" "entryValue" "[D" .null) (G9 : Fld Z h bu "com/example/fleetloom/fleetloom/ChainedProgramme$Builder" "cost" "[D" .null) (G10 : Fld Z h bu "com/example/fleetloom/fleetloom/ChainedProgramme$Builder" "rhs" "[D" .null) :
    Con l Z (⟨"com/example/fleetloom/fleetloom/ChainedProgramme$Builder", "<init>", "(I)V"⟩ : MethodName) prog_4_method_1_code 2 none ⟨1, 6, 111, 30⟩ #[(.ref bu), (.int dense)] h (fun v h' L => v = none ∧ Fr n0 L ∧ SKeep Z n0 h h' ∧ CKeep Z h h' ∧ ∃ zz : Int32, (16 ≤ zz.toInt ∧ zz.toInt ≤ 31 ∧ dense.toInt ≤ zz.toInt) ∧ BS Z h' n0 bu dense dense 0 [] zz []) := by
  refine con_of_goF kk_20 (fun m => kk_21 m bu dense) ?_
  intro p e s m below meth c T0 C X0 e0
  have e16 : (16 : Int32).toInt = 16 := by decide
  have XB0 := XB
  refine g_aloadN C X0 (pc' := 1) d1_0 rfl rfl rfl ?_
  refine g_initO C X0 (hw _ (List.mem_of_getElem? (i := 6) rfl)) (hw _ (List.mem_of_getElem? (i := 7) rfl)) (hw _ (List.mem_of_getElem? (i := 8) rfl)) e0 d1_1 rfl 0 rfl (by decide) (by decide) rfl ?_
  intro T1 X1 e1
  refine g_aloadN C X1 (pc' := 5) d1_4 rfl rfl rfl ?_
  refine g_bipush C X1 (pc' := 7) d1_5 (v := (16 : Int32)) (by decide) rfl ?_
  refine g_newPE C X1 (aty := .int) (ad := "[I") (by decide) (hw _ (List.mem_of_getElem? (i := 9) rfl)) e1 d1_7 (by decide) 16 (by decide) (by decide) (by decide) (by decide) rfl ?_
  intro T2 h2 a2 k2 g2 X2 e2 E2 A2 B2
  have ne_bu_a2 : bu ≠ a2 := Nat.ne_of_lt (by rw [g2]; exact XB.lt)
  have z_a2 : n0 ≤ a2 := by rw [g2]; exact Z0
  have y_a2 : h.size ≤ a2 := by rw [g2]; exact (Keep.refl h [bu]).1
  have XB := XB.ext E2
  have G0 := G0.ext E2
  have G1 := G1.ext E2
  have G2 := G2.ext E2
  have G3 := G3.ext E2
  have G4 := G4.ext E2
  have G5 := G5.ext E2
  have G6 := G6.ext E2
  have G7 := G7.ext E2
  have G8 := G8.ext E2
  have G9 := G9.ext E2
  have G10 := G10.ext E2
  have P2 := (Keep.refl h [bu]).ext E2
  have Z2 : n0 ≤ h2.size := Nat.le_trans Z0 E2.1
  have A2 : Arv Z h2 a2 k2 .int (16 : Int32) [] (.int (0 : Int32)) := A2
  refine g_putF C X2 (host := "") (Or.inl (hw _ (List.mem_of_getElem? (i := 10) rfl))) Via.refl e2 G5 XB (Or.inl (hw _ (List.mem_of_getElem? (i := 11) rfl))) (hw _ (List.mem_of_getElem? (i := 1) rfl)) (ty := (.array .int)) (by decide) rfl rfl d1_9 rfl ?_
  intro T3 h3 X3 e3 W3
  have XB := XB.wr W3
  have G0 := G0.other W3 (Or.inr (slot_ne (Or.inr (hw _ (List.mem_of_getElem? (i := 22) rfl))) (Or.inl (hw _ (List.mem_of_getElem? (i := 11) rfl))) (by decide) rfl rfl))
  have G1 := G1.other W3 (Or.inr (slot_ne (Or.inl (hw _ (List.mem_of_getElem? (i := 24) rfl))) (Or.inl (hw _ (List.mem_of_getElem? (i := 11) rfl))) (by decide) rfl rfl))
  have G2 := G2.other W3 (Or.inr (slot_ne (Or.inl (hw _ (List.mem_of_getElem? (i := 39) rfl))) (Or.inl (hw _ (List.mem_of_getElem? (i := 11) rfl))) (by decide) rfl rfl))
  have G3 := G3.other W3 (Or.inr (slot_ne (Or.inl (hw _ (List.mem_of_getElem? (i := 37) rfl))) (Or.inl (hw _ (List.mem_of_getElem? (i := 11) rfl))) (by decide) rfl rfl))
  have G4 := G4.other W3 (Or.inr (slot_ne (Or.inl (hw _ (List.mem_of_getElem? (i := 104) rfl))) (Or.inl (hw _ (List.mem_of_getElem? (i := 11) rfl))) (by decide) rfl rfl))
  have G5 := G5.same W3
  have G6 := G6.other W3 (Or.inr (slot_ne (Or.inl (hw _ (List.mem_of_getElem? (i := 13) rfl))) (Or.inl (hw _ (List.mem_of_getElem? (i := 11) rfl))) (by decide) rfl rfl))
  have G7 := G7.other W3 (Or.inr (slot_ne (Or.inl (hw _ (List.mem_of_getElem? (i := 18) rfl))) (Or.inl (hw _ (List.mem_of_getElem? (i := 11) rfl))) (by decide) rfl rfl))
  have G8 := G8.other W3 (Or.inr (slot_ne (Or.inl (hw _ (List.mem_of_getElem? (i := 20) rfl))) (Or.inl (hw _ (List.mem_of_getElem? (i := 11) rfl))) (by decide) rfl rfl))
  have G9 := G9.other W3 (Or.inr (slot_ne (Or.inl (hw _ (List.mem_of_getElem? (i := 16) rfl))) (Or.inl (hw _ (List.mem_of_getElem? (i := 11) rfl))) (by decide) rfl rfl))
  have G10 := G10.other W3 (Or.inr (slot_ne (Or.inl (hw _ (List.mem_of_getElem? (i := 30) rfl))) (Or.inl (hw _ (List.mem_of_getElem? (i := 11) rfl))) (by decide) rfl rfl))
  have A2 := A2.other W3 (Ne.symm ne_bu_a2)
  have B2 := B2.wr W3
  have Z3 : n0 ≤ h3.size := by rw [W3.size]; exact Z2
  have N3 := Fr.snoc X3 (Fr.nil n0) z_bu
  have P3 := P2.wr W3 (Or.inl (List.mem_of_getElem? (i := 0) rfl))
  refine g_aloadN C X3 (pc' := 13) d1_12 rfl rfl rfl ?_
  refine g_bipush C X3 (pc' := 15) d1_13 (v := (16 : Int32)) (by decide) rfl ?_
  refine g_newPE C X3 (aty := .int) (ad := "[I") (by decide) (hw _ (List.mem_of_getElem? (i := 9) rfl)) e3 d1_15 (by decide) 16 (by decide) (by decide) (by decide) (by decide) rfl ?_
  intro T4 h4 a4 k4 g4 X4 e4 E4 A4 B4
  have ne_a2_a4 : a2 ≠ a4 := Nat.ne_of_lt (by rw [g4]; exact A2.lt)
  have ne_bu_a4 : bu ≠ a4 := Nat.ne_of_lt (by rw [g4]; exact XB.lt)
  have z_a4 : n0 ≤ a4 := by rw [g4]; exact Z3
  have y_a4 : h.size ≤ a4 := by rw [g4]; exact P3.1
  have XB := XB.ext E4
  have G0 := G0.ext E4
  have G1 := G1.ext E4
  have G2 := G2.ext E4
  have G3 := G3.ext E4
  have G4 := G4.ext E4
  have G5 := G5.ext E4
  have G6 := G6.ext E4
  have G7 := G7.ext E4
  have G8 := G8.ext E4
  have G9 := G9.ext E4
  have G10 := G10.ext E4
  have A2 := A2.ext E4
  have B2 := B2.ext E4
  have P4 := P3.ext E4
  have Z4 : n0 ≤ h4.size := Nat.le_trans Z3 E4.1
  have A4 : Arv Z h4 a4 k4 .int (16 : Int32) [] (.int (0 : Int32)) := A4
  refine g_putF C X4 (host := "") (Or.inl (hw _ (List.mem_of_getElem? (i := 12) rfl))) Via.refl e4 G6 XB (Or.inl (hw _ (List.mem_of_getElem? (i := 13) rfl))) (hw _ (List.mem_of_getElem? (i := 1) rfl)) (ty := (.array .int)) (by decide) rfl rfl d1_17 rfl ?_
  intro T5 h5 X5 e5 W5
  have XB := XB.wr W5
  have G0 := G0.other W5 (Or.inr (slot_ne (Or.inr (hw _ (List.mem_of_getElem? (i := 22) rfl))) (Or.inl (hw _ (List.mem_of_getElem? (i := 13) rfl))) (by decide) rfl rfl))
  have G1 := G1.other W5 (Or.inr (slot_ne (Or.inl (hw _ (List.mem_of_getElem? (i := 24) rfl))) (Or.inl (hw _ (List.mem_of_getElem? (i := 13) rfl))) (by decide) rfl rfl))
  have G2 := G2.other W5 (Or.inr (slot_ne (Or.inl (hw _ (List.mem_of_getElem? (i := 39) rfl))) (Or.inl (hw _ (List.mem_of_getElem? (i := 13) rfl))) (by decide) rfl rfl))
  have G3 := G3.other W5 (Or.inr (slot_ne (Or.inl (hw _ (List.mem_of_getElem? (i := 37) rfl))) (Or.inl (hw _ (List.mem_of_getElem? (i := 13) rfl))) (by decide) rfl rfl))
  have G4 := G4.other W5 (Or.inr (slot_ne (Or.inl (hw _ (List.mem_of_getElem? (i := 104) rfl))) (Or.inl (hw _ (List.mem_of_getElem? (i := 13) rfl))) (by decide) rfl rfl))
  have G5 := G5.other W5 (Or.inr (slot_ne (Or.inl (hw _ (List.mem_of_getElem? (i := 11) rfl))) (Or.inl (hw _ (List.mem_of_getElem? (i := 13) rfl))) (by decide) rfl rfl))
  have G6 := G6.same W5
  have G7 := G7.other W5 (Or.inr (slot_ne (Or.inl (hw _ (List.mem_of_getElem? (i := 18) rfl))) (Or.inl (hw _ (List.mem_of_getElem? (i := 13) rfl))) (by decide) rfl rfl))
  have G8 := G8.other W5 (Or.inr (slot_ne (Or.inl (hw _ (List.mem_of_getElem? (i := 20) rfl))) (Or.inl (hw _ (List.mem_of_getElem? (i := 13) rfl))) (by decide) rfl rfl))
  have G9 := G9.other W5 (Or.inr (slot_ne (Or.inl (hw _ (List.mem_of_getElem? (i := 16) rfl))) (Or.inl (hw _ (List.mem_of_getElem? (i := 13) rfl))) (by decide) rfl rfl))
  have G10 := G10.other W5 (Or.inr (slot_ne (Or.inl (hw _ (List.mem_of_getElem? (i := 30) rfl))) (Or.inl (hw _ (List.mem_of_getElem? (i := 13) rfl))) (by decide) rfl rfl))
  have A2 := A2.other W5 (Ne.symm ne_bu_a2)
  have B2 := B2.wr W5
  have A4 := A4.other W5 (Ne.symm ne_bu_a4)
  have B4 := B4.wr W5
  have Z5 : n0 ≤ h5.size := by rw [W5.size]; exact Z4
  have N5 := Fr.snoc X5 N3 z_bu
  have P5 := P4.wr W5 (Or.inl (List.mem_of_getElem? (i := 0) rfl))
  refine g_aloadN C X5 (pc' := 21) d1_20 rfl rfl rfl ?_
  refine g_bipush C X5 (pc' := 23) d1_21 (v := (16 : Int32)) (by decide) rfl ?_
  refine g_newPE C X5 (aty := .double) (ad := "[D") (by decide) (hw _ (List.mem_of_getElem? (i := 14) rfl)) e5 d1_23 (by decide) 16 (by decide) (by decide) (by decide) (by decide) rfl ?_
  intro T6 h6 a6 k6 g6 X6 e6 E6 A6 B6
  have ne_a2_a6 : a2 ≠ a6 := Nat.ne_of_lt (by rw [g6]; exact A2.lt)
  have ne_a4_a6 : a4 ≠ a6 := Nat.ne_of_lt (by rw [g6]; exact A4.lt)
  have ne_bu_a6 : bu ≠ a6 := Nat.ne_of_lt (by rw [g6]; exact XB.lt)
  have z_a6 : n0 ≤ a6 := by rw [g6]; exact Z5
  have y_a6 : h.size ≤ a6 := by rw [g6]; exact P5.1
  have XB := XB.ext E6
  have G0 := G0.ext E6
  have G1 := G1.ext E6
  have G2 := G2.ext E6
  have G3 := G3.ext E6
  have G4 := G4.ext E6
  have G5 := G5.ext E6
  have G6 := G6.ext E6
  have G7 := G7.ext E6
  have G8 := G8.ext E6
  have G9 := G9.ext E6
  have G10 := G10.ext E6
  have A2 := A2.ext E6
  have B2 := B2.ext E6
  have A4 := A4.ext E6
  have B4 := B4.ext E6
  have P6 := P5.ext E6
  have Z6 : n0 ≤ h6.size := Nat.le_trans Z5 E6.1
  have A6 : Arv Z h6 a6 k6 .double (16 : Int32) [] (.double (0 : UInt64)) := A6
  refine g_putF C X6 (host := "") (Or.inl (hw _ (List.mem_of_getElem? (i := 15) rfl))) Via.refl e6 G9 XB (Or.inl (hw _ (List.mem_of_getElem? (i := 16) rfl))) (hw _ (List.mem_of_getElem? (i := 1) rfl)) (ty := (.array .double)) (by decide) rfl rfl d1_25 rfl ?_
  intro T7 h7 X7 e7 W7
  have XB := XB.wr W7
  have G0 := G0.other W7 (Or.inr (slot_ne (Or.inr (hw _ (List.mem_of_getElem? (i := 22) rfl))) (Or.inl (hw _ (List.mem_of_getElem? (i := 16) rfl))) (by decide) rfl rfl))
  have G1 := G1.other W7 (Or.inr (slot_ne (Or.inl (hw _ (List.mem_of_getElem? (i := 24) rfl))) (Or.inl (hw _ (List.mem_of_getElem? (i := 16) rfl))) (by decide) rfl rfl))
  have G2 := G2.other W7 (Or.inr (slot_ne (Or.inl (hw _ (List.mem_of_getElem? (i := 39) rfl))) (Or.inl (hw _ (List.mem_of_getElem? (i := 16) rfl))) (by decide) rfl rfl))
  have G3 := G3.other W7 (Or.inr (slot_ne (Or.inl (hw _ (List.mem_of_getElem? (i := 37) rfl))) (Or.inl (hw _ (List.mem_of_getElem? (i := 16) rfl))) (by decide) rfl rfl))
  have G4 := G4.other W7 (Or.inr (slot_ne (Or.inl (hw _ (List.mem_of_getElem? (i := 104) rfl))) (Or.inl (hw _ (List.mem_of_getElem? (i := 16) rfl))) (by decide) rfl rfl))
  have G5 := G5.other W7 (Or.inr (slot_ne (Or.inl (hw _ (List.mem_of_getElem? (i := 11) rfl))) (Or.inl (hw _ (List.mem_of_getElem? (i := 16) rfl))) (by decide) rfl rfl))
  have G6 := G6.other W7 (Or.inr (slot_ne (Or.inl (hw _ (List.mem_of_getElem? (i := 13) rfl))) (Or.inl (hw _ (List.mem_of_getElem? (i := 16) rfl))) (by decide) rfl rfl))
  have G7 := G7.other W7 (Or.inr (slot_ne (Or.inl (hw _ (List.mem_of_getElem? (i := 18) rfl))) (Or.inl (hw _ (List.mem_of_getElem? (i := 16) rfl))) (by decide) rfl rfl))
  have G8 := G8.other W7 (Or.inr (slot_ne (Or.inl (hw _ (List.mem_of_getElem? (i := 20) rfl))) (Or.inl (hw _ (List.mem_of_getElem? (i := 16) rfl))) (by decide) rfl rfl))
  have G9 := G9.same W7
  have G10 := G10.other W7 (Or.inr (slot_ne (Or.inl (hw _ (List.mem_of_getElem? (i := 30) rfl))) (Or.inl (hw _ (List.mem_of_getElem? (i := 16) rfl))) (by decide) rfl rfl))
  have A2 := A2.other W7 (Ne.symm ne_bu_a2)
  have B2 := B2.wr W7
  have A4 := A4.other W7 (Ne.symm ne_bu_a4)
  have B4 := B4.wr W7
  have A6 := A6.other W7 (Ne.symm ne_bu_a6)
  have B6 := B6.wr W7
  have Z7 : n0 ≤ h7.size := by rw [W7.size]; exact Z6
  have N7 := Fr.snoc X7 N5 z_bu
  have P7 := P6.wr W7 (Or.inl (List.mem_of_getElem? (i := 0) rfl))
  refine g_aloadN C X7 (pc' := 29) d1_28 rfl rfl rfl ?_
  refine g_bipush C X7 (pc' := 31) d1_29 (v := (16 : Int32)) (by decide) rfl ?_
  refine g_newPE C X7 (aty := .int) (ad := "[I") (by decide) (hw _ (List.mem_of_getElem? (i := 9) rfl)) e7 d1_31 (by decide) 16 (by decide) (by decide) (by decide) (by decide) rfl ?_
  intro T8 h8 a8 k8 g8 X8 e8 E8 A8 B8
  have ne_a2_a8 : a2 ≠ a8 := Nat.ne_of_lt (by rw [g8]; exact A2.lt)
  have ne_a4_a8 : a4 ≠ a8 := Nat.ne_of_lt (by rw [g8]; exact A4.lt)
  have ne_a6_a8 : a6 ≠ a8 := Nat.ne_of_lt (by rw [g8]; exact A6.lt)
  have ne_bu_a8 : bu ≠ a8 := Nat.ne_of_lt (by rw [g8]; exact XB.lt)
  have z_a8 : n0 ≤ a8 := by rw [g8]; exact Z7
  have y_a8 : h.size ≤ a8 := by rw [g8]; exact P7.1
  have XB := XB.ext E8
  have G0 := G0.ext E8
  have G1 := G1.ext E8
  have G2 := G2.ext E8
  have G3 := G3.ext E8
  have G4 := G4.ext E8
  have G5 := G5.ext E8
  have G6 := G6.ext E8
  have G7 := G7.ext E8
  have G8 := G8.ext E8
  have G9 := G9.ext E8
  have G10 := G10.ext E8
  have A2 := A2.ext E8
  have B2 := B2.ext E8
  have A4 := A4.ext E8
  have B4 := B4.ext E8
  have A6 := A6.ext E8
  have B6 := B6.ext E8
  have P8 := P7.ext E8
  have Z8 : n0 ≤ h8.size := Nat.le_trans Z7 E8.1
  have A8 : Arv Z h8 a8 k8 .int (16 : Int32) [] (.int (0 : Int32)) := A8
  refine g_putF C X8 (host := "") (Or.inl (hw _ (List.mem_of_getElem? (i := 17) rfl))) Via.refl e8 G7 XB (Or.inl (hw _ (List.mem_of_getElem? (i := 18) rfl))) (hw _ (List.mem_of_getElem? (i := 1) rfl)) (ty := (.array .int)) (by decide) rfl rfl d1_33 rfl ?_
  intro T9 h9 X9 e9 W9
  have XB := XB.wr W9
  have G0 := G0.other W9 (Or.inr (slot_ne (Or.inr (hw _ (List.mem_of_getElem? (i := 22) rfl))) (Or.inl (hw _ (List.mem_of_getElem? (i := 18) rfl))) (by decide) rfl rfl))
  have G1 := G1.other W9 (Or.inr (slot_ne (Or.inl (hw _ (List.mem_of_getElem? (i := 24) rfl))) (Or.inl (hw _ (List.mem_of_getElem? (i := 18) rfl))) (by decide) rfl rfl))
  have G2 := G2.other W9 (Or.inr (slot_ne (Or.inl (hw _ (List.mem_of_getElem? (i := 39) rfl))) (Or.inl (hw _ (List.mem_of_getElem? (i := 18) rfl))) (by decide) rfl rfl))
  have G3 := G3.other W9 (Or.inr (slot_ne (Or.inl (hw _ (List.mem_of_getElem? (i := 37) rfl))) (Or.inl (hw _ (List.mem_of_getElem? (i := 18) rfl))) (by decide) rfl rfl))
  have G4 := G4.other W9 (Or.inr (slot_ne (Or.inl (hw _ (List.mem_of_getElem? (i := 104) rfl))) (Or.inl (hw _ (List.mem_of_getElem? (i := 18) rfl))) (by decide) rfl rfl))
  have G5 := G5.other W9 (Or.inr (slot_ne (Or.inl (hw _ (List.mem_of_getElem? (i := 11) rfl))) (Or.inl (hw _ (List.mem_of_getElem? (i := 18) rfl))) (by decide) rfl rfl))
  have G6 := G6.other W9 (Or.inr (slot_ne (Or.inl (hw _ (List.mem_of_getElem? (i := 13) rfl))) (Or.inl (hw _ (List.mem_of_getElem? (i := 18) rfl))) (by decide) rfl rfl))
  have G7 := G7.same W9
  have G8 := G8.other W9 (Or.inr (slot_ne (Or.inl (hw _ (List.mem_of_getElem? (i := 20) rfl))) (Or.inl (hw _ (List.mem_of_getElem? (i := 18) rfl))) (by decide) rfl rfl))
  have G9 := G9.other W9 (Or.inr (slot_ne (Or.inl (hw _ (List.mem_of_getElem? (i := 16) rfl))) (Or.inl (hw _ (List.mem_of_getElem? (i := 18) rfl))) (by decide) rfl rfl))
  have G10 := G10.other W9 (Or.inr (slot_ne (Or.inl (hw _ (List.mem_of_getElem? (i := 30) rfl))) (Or.inl (hw _ (List.mem_of_getElem? (i := 18) rfl))) (by decide) rfl rfl))
  have A2 := A2.other W9 (Ne.symm ne_bu_a2)
  have B2 := B2.wr W9
  have A4 := A4.other W9 (Ne.symm ne_bu_a4)
  have B4 := B4.wr W9
  have A6 := A6.other W9 (Ne.symm ne_bu_a6)
  have B6 := B6.wr W9
  have A8 := A8.other W9 (Ne.symm ne_bu_a8)
  have B8 := B8.wr W9
  have Z9 : n0 ≤ h9.size := by rw [W9.size]; exact Z8
  have N9 := Fr.snoc X9 N7 z_bu
  have P9 := P8.wr W9 (Or.inl (List.mem_of_getElem? (i := 0) rfl))
  refine g_aloadN C X9 (pc' := 37) d1_36 rfl rfl rfl ?_
  refine g_bipush C X9 (pc' := 39) d1_37 (v := (16 : Int32)) (by decide) rfl ?_
  refine g_newPE C X9 (aty := .double) (ad := "[D") (by decide) (hw _ (List.mem_of_getElem? (i := 14) rfl)) e9 d1_39 (by decide) 16 (by decide) (by decide) (by decide) (by decide) rfl ?_
  intro T10 h10 a10 k10 g10 X10 e10 E10 A10 B10
  have ne_a2_a10 : a2 ≠ a10 := Nat.ne_of_lt (by rw [g10]; exact A2.lt)
  have ne_a4_a10 : a4 ≠ a10 := Nat.ne_of_lt (by rw [g10]; exact A4.lt)
  have ne_a6_a10 : a6 ≠ a10 := Nat.ne_of_lt (by rw [g10]; exact A6.lt)
  have ne_a8_a10 : a8 ≠ a10 := Nat.ne_of_lt (by rw [g10]; exact A8.lt)
  have ne_bu_a10 : bu ≠ a10 := Nat.ne_of_lt (by rw [g10]; exact XB.lt)
  have z_a10 : n0 ≤ a10 := by rw [g10]; exact Z9
  have y_a10 : h.size ≤ a10 := by rw [g10]; exact P9.1
  have XB := XB.ext E10
  have G0 := G0.ext E10
  have G1 := G1.ext E10
  have G2 := G2.ext E10
  have G3 := G3.ext E10
  have G4 := G4.ext E10
  have G5 := G5.ext E10
  have G6 := G6.ext E10
  have G7 := G7.ext E10
  have G8 := G8.ext E10
  have G9 := G9.ext E10
  have G10 := G10.ext E10
  have A2 := A2.ext E10
  have B2 := B2.ext E10
  have A4 := A4.ext E10
  have B4 := B4.ext E10
  have A6 := A6.ext E10
  have B6 := B6.ext E10
  have A8 := A8.ext E10
  have B8 := B8.ext E10
  have P10 := P9.ext E10
  have Z10 : n0 ≤ h10.size := Nat.le_trans Z9 E10.1
  have A10 : Arv Z h10 a10 k10 .double (16 : Int32) [] (.double (0 : UInt64)) := A10
  refine g_putF C X10 (host := "") (Or.inl (hw _ (List.mem_of_getElem? (i := 19) rfl))) Via.refl e10 G8 XB (Or.inl (hw _ (List.mem_of_getElem? (i := 20) rfl))) (hw _ (List.mem_of_getElem? (i := 1) rfl)) (ty := (.array .double)) (by decide) rfl rfl d1_41 rfl ?_
  intro T11 h11 X11 e11 W11
  have XB := XB.wr W11
  have G0 := G0.other W11 (Or.inr (slot_ne (Or.inr (hw _ (List.mem_of_getElem? (i := 22) rfl))) (Or.inl (hw _ (List.mem_of_getElem? (i := 20) rfl))) (by decide) rfl rfl))
  have G1 := G1.other W11 (Or.inr (slot_ne (Or.inl (hw _ (List.mem_of_getElem? (i := 24) rfl))) (Or.inl (hw _ (List.mem_of_getElem? (i := 20) rfl))) (by decide) rfl rfl))
  have G2 := G2.other W11 (Or.inr (slot_ne (Or.inl (hw _ (List.mem_of_getElem? (i := 39) rfl))) (Or.inl (hw _ (List.mem_of_getElem? (i := 20) rfl))) (by decide) rfl rfl))
  have G3 := G3.other W11 (Or.inr (slot_ne (Or.inl (hw _ (List.mem_of_getElem? (i := 37) rfl))) (Or.inl (hw _ (List.mem_of_getElem? (i := 20) rfl))) (by decide) rfl rfl))
  have G4 := G4.other W11 (Or.inr (slot_ne (Or.inl (hw _ (List.mem_of_getElem? (i := 104) rfl))) (Or.inl (hw _ (List.mem_of_getElem? (i := 20) rfl))) (by decide) rfl rfl))
  have G5 := G5.other W11 (Or.inr (slot_ne (Or.inl (hw _ (List.mem_of_getElem? (i := 11) rfl))) (Or.inl (hw _ (List.mem_of_getElem? (i := 20) rfl))) (by decide) rfl rfl))
  have G6 := G6.other W11 (Or.inr (slot_ne (Or.inl (hw _ (List.mem_of_getElem? (i := 13) rfl))) (Or.inl (hw _ (List.mem_of_getElem? (i := 20) rfl))) (by decide) rfl rfl))
  have G7 := G7.other W11 (Or.inr (slot_ne (Or.inl (hw _ (List.mem_of_getElem? (i := 18) rfl))) (Or.inl (hw _ (List.mem_of_getElem? (i := 20) rfl))) (by decide) rfl rfl))
  have G8 := G8.same W11
  have G9 := G9.other W11 (Or.inr (slot_ne (Or.inl (hw _ (List.mem_of_getElem? (i := 16) rfl))) (Or.inl (hw _ (List.mem_of_getElem? (i := 20) rfl))) (by decide) rfl rfl))
  have G10 := G10.other W11 (Or.inr (slot_ne (Or.inl (hw _ (List.mem_of_getElem? (i := 30) rfl))) (Or.inl (hw _ (List.mem_of_getElem? (i := 20) rfl))) (by decide) rfl rfl))
  have A2 := A2.other W11 (Ne.symm ne_bu_a2)
  have B2 := B2.wr W11
  have A4 := A4.other W11 (Ne.symm ne_bu_a4)
  have B4 := B4.wr W11
  have A6 := A6.other W11 (Ne.symm ne_bu_a6)
  have B6 := B6.wr W11
  have A8 := A8.other W11 (Ne.symm ne_bu_a8)
  have B8 := B8.wr W11
  have A10 := A10.other W11 (Ne.symm ne_bu_a10)
  have B10 := B10.wr W11
  have Z11 : n0 ≤ h11.size := by rw [W11.size]; exact Z10
  have N11 := Fr.snoc X11 N9 z_bu
  have P11 := P10.wr W11 (Or.inl (List.mem_of_getElem? (i := 0) rfl))
  refine g_aloadN C X11 (pc' := 45) d1_44 rfl rfl rfl ?_
  refine g_iloadN C X11 (pc' := 46) d1_45 rfl rfl ?_
  refine g_putF C X11 (host := "") (Or.inl (hw _ (List.mem_of_getElem? (i := 21) rfl))) Via.refl e11 G0 XB (Or.inr ⟨(hw _ (List.mem_of_getElem? (i := 22) rfl)), rfl, rfl⟩) (hw _ (List.mem_of_getElem? (i := 1) rfl)) (ty := .int) (by decide) rfl rfl d1_46 rfl ?_
  intro T12 h12 X12 e12 W12
  have XB := XB.wr W12
  have G0 := G0.same W12
  have G1 := G1.other W12 (Or.inr (slot_ne (Or.inl (hw _ (List.mem_of_getElem? (i := 24) rfl))) (Or.inr (hw _ (List.mem_of_getElem? (i := 22) rfl))) (by decide) rfl rfl))
  have G2 := G2.other W12 (Or.inr (slot_ne (Or.inl (hw _ (List.mem_of_getElem? (i := 39) rfl))) (Or.inr (hw _ (List.mem_of_getElem? (i := 22) rfl))) (by decide) rfl rfl))
  have G3 := G3.other W12 (Or.inr (slot_ne (Or.inl (hw _ (List.mem_of_getElem? (i := 37) rfl))) (Or.inr (hw _ (List.mem_of_getElem? (i := 22) rfl))) (by decide) rfl rfl))
  have G4 := G4.other W12 (Or.inr (slot_ne (Or.inl (hw _ (List.mem_of_getElem? (i := 104) rfl))) (Or.inr (hw _ (List.mem_of_getElem? (i := 22) rfl))) (by decide) rfl rfl))
  have G5 := G5.other W12 (Or.inr (slot_ne (Or.inl (hw _ (List.mem_of_getElem? (i := 11) rfl))) (Or.inr (hw _ (List.mem_of_getElem? (i := 22) rfl))) (by decide) rfl rfl))
  have G6 := G6.other W12 (Or.inr (slot_ne (Or.inl (hw _ (List.mem_of_getElem? (i := 13) rfl))) (Or.inr (hw _ (List.mem_of_getElem? (i := 22) rfl))) (by decide) rfl rfl))
  have G7 := G7.other W12 (Or.inr (slot_ne (Or.inl (hw _ (List.mem_of_getElem? (i := 18) rfl))) (Or.inr (hw _ (List.mem_of_getElem? (i := 22) rfl))) (by decide) rfl rfl))
  have G8 := G8.other W12 (Or.inr (slot_ne (Or.inl (hw _ (List.mem_of_getElem? (i := 20) rfl))) (Or.inr (hw _ (List.mem_of_getElem? (i := 22) rfl))) (by decide) rfl rfl))
  have G9 := G9.other W12 (Or.inr (slot_ne (Or.inl (hw _ (List.mem_of_getElem? (i := 16) rfl))) (Or.inr (hw _ (List.mem_of_getElem? (i := 22) rfl))) (by decide) rfl rfl))
  have G10 := G10.other W12 (Or.inr (slot_ne (Or.inl (hw _ (List.mem_of_getElem? (i := 30) rfl))) (Or.inr (hw _ (List.mem_of_getElem? (i := 22) rfl))) (by decide) rfl rfl))
  have A2 := A2.other W12 (Ne.symm ne_bu_a2)
  have B2 := B2.wr W12
  have A4 := A4.other W12 (Ne.symm ne_bu_a4)
  have B4 := B4.wr W12
  have A6 := A6.other W12 (Ne.symm ne_bu_a6)
  have B6 := B6.wr W12
  have A8 := A8.other W12 (Ne.symm ne_bu_a8)
  have B8 := B8.wr W12
  have A10 := A10.other W12 (Ne.symm ne_bu_a10)
  have B10 := B10.wr W12
  have Z12 : n0 ≤ h12.size := by rw [W12.size]; exact Z11
  have N12 := Fr.snoc X12 N11 z_bu
  have P12 := P11.wr W12 (Or.inl (List.mem_of_getElem? (i := 0) rfl))
  refine g_aloadN C X12 (pc' := 50) d1_49 rfl rfl rfl ?_
  refine g_iloadN C X12 (pc' := 51) d1_50 rfl rfl ?_
  refine g_putF C X12 (host := "") (Or.inl (hw _ (List.mem_of_getElem? (i := 23) rfl))) Via.refl e12 G1 XB (Or.inl (hw _ (List.mem_of_getElem? (i := 24) rfl))) (hw _ (List.mem_of_getElem? (i := 1) rfl)) (ty := .int) (by decide) rfl rfl d1_51 rfl ?_
  intro T13 h13 X13 e13 W13
  have XB := XB.wr W13
  have G0 := G0.other W13 (Or.inr (slot_ne (Or.inr (hw _ (List.mem_of_getElem? (i := 22) rfl))) (Or.inl (hw _ (List.mem_of_getElem? (i := 24) rfl))) (by decide) rfl rfl))
  have G1 := G1.same W13
  have G2 := G2.other W13 (Or.inr (slot_ne (Or.inl (hw _ (List.mem_of_getElem? (i := 39) rfl))) (Or.inl (hw _ (List.mem_of_getElem? (i := 24) rfl))) (by decide) rfl rfl))
  have G3 := G3.other W13 (Or.inr (slot_ne (Or.inl (hw _ (List.mem_of_getElem? (i := 37) rfl))) (Or.inl (hw _ (List.mem_of_getElem? (i := 24) rfl))) (by decide) rfl rfl))
  have G4 := G4.other W13 (Or.inr (slot_ne (Or.inl (hw _ (List.mem_of_getElem? (i := 104) rfl))) (Or.inl (hw _ (List.mem_of_getElem? (i := 24) rfl))) (by decide) rfl rfl))
  have G5 := G5.other W13 (Or.inr (slot_ne (Or.inl (hw _ (List.mem_of_getElem? (i := 11) rfl))) (Or.inl (hw _ (List.mem_of_getElem? (i := 24) rfl))) (by decide) rfl rfl))
  have G6 := G6.other W13 (Or.inr (slot_ne (Or.inl (hw _ (List.mem_of_getElem? (i := 13) rfl))) (Or.inl (hw _ (List.mem_of_getElem? (i := 24) rfl))) (by decide) rfl rfl))
  have G7 := G7.other W13 (Or.inr (slot_ne (Or.inl (hw _ (List.mem_of_getElem? (i := 18) rfl))) (Or.inl (hw _ (List.mem_of_getElem? (i := 24) rfl))) (by decide) rfl rfl))
  have G8 := G8.other W13 (Or.inr (slot_ne (Or.inl (hw _ (List.mem_of_getElem? (i := 20) rfl))) (Or.inl (hw _ (List.mem_of_getElem? (i := 24) rfl))) (by decide) rfl rfl))
  have G9 := G9.other W13 (Or.inr (slot_ne (Or.inl (hw _ (List.mem_of_getElem? (i := 16) rfl))) (Or.inl (hw _ (List.mem_of_getElem? (i := 24) rfl))) (by decide) rfl rfl))
  have G10 := G10.other W13 (Or.inr (slot_ne (Or.inl (hw _ (List.mem_of_getElem? (i := 30) rfl))) (Or.inl (hw _ (List.mem_of_getElem? (i := 24) rfl))) (by decide) rfl rfl))
  have A2 := A2.other W13 (Ne.symm ne_bu_a2)
  have B2 := B2.wr W13
  have A4 := A4.other W13 (Ne.symm ne_bu_a4)
  have B4 := B4.wr W13
  have A6 := A6.other W13 (Ne.symm ne_bu_a6)
  have B6 := B6.wr W13
  have A8 := A8.other W13 (Ne.symm ne_bu_a8)
  have B8 := B8.wr W13
  have A10 := A10.other W13 (Ne.symm ne_bu_a10)
  have B10 := B10.wr W13
  have Z13 : n0 ≤ h13.size := by rw [W13.size]; exact Z12
  have N13 := Fr.snoc X13 N12 z_bu
  have P13 := P12.wr W13 (Or.inl (List.mem_of_getElem? (i := 0) rfl))
  refine g_aloadN C X13 (pc' := 55) d1_54 rfl rfl rfl ?_
  refine g_bipush C X13 (pc' := 57) d1_55 (v := (16 : Int32)) (by decide) rfl ?_
  refine g_iloadN C X13 (pc' := 58) d1_57 rfl rfl ?_
  refine g_callS C X13 (k2_max l Z a0 hw h13 n0 Z13  dense    ) (hw _ (List.mem_of_getElem? (i := 25) rfl)) (hw _ (List.mem_of_getElem? (i := 26) rfl)) (hw _ (List.mem_of_getElem? (i := 27) rfl)) (hw _ (List.mem_of_getElem? (i := 28) rfl)) (by decide) e13 d1_58 rfl kk_12 [(.int (16 : Int32)), (.int dense)] [(.ref bu)] rfl rfl rfl 1 rfl (by decide) (by decide) (by decide) (by decide) rfl ?_
  rintro w14 T14 L14 X14 Q14
  rcases Q14 with ⟨rfl, rfl, e14, cc1⟩ | ⟨rfl, rfl, e14, cc2⟩
  · rw [List.append_nil] at X14
    show Go p.tables e below _ T14 (mkF m 61 #[.val (.ref bu), .val (.int dense)] [(.int dense), (.ref bu)])
    refine g_newPE C X14 (aty := .double) (ad := "[D") (by decide) (hw _ (List.mem_of_getElem? (i := 14) rfl)) e14 d1_61 (bn_nneg hd (by decide)) 31 (bn_cap hd (by decide)) (by decide) (by decide) (by decide) rfl ?_
    intro T15 h15 a15 k15 g15 X15 e15 E15 A15 B15
    have ne_a10_a15 : a10 ≠ a15 := Nat.ne_of_lt (by rw [g15]; exact A10.lt)
    have ne_a2_a15 : a2 ≠ a15 := Nat.ne_of_lt (by rw [g15]; exact A2.lt)
    have ne_a4_a15 : a4 ≠ a15 := Nat.ne_of_lt (by rw [g15]; exact A4.lt)
    have ne_a6_a15 : a6 ≠ a15 := Nat.ne_of_lt (by rw [g15]; exact A6.lt)
    have ne_a8_a15 : a8 ≠ a15 := Nat.ne_of_lt (by rw [g15]; exact A8.lt)
    have ne_bu_a15 : bu ≠ a15 := Nat.ne_of_lt (by rw [g15]; exact XB.lt)
    have z_a15 : n0 ≤ a15 := by rw [g15]; exact Z13
    have y_a15 : h.size ≤ a15 := by rw [g15]; exact P13.1
    have XB := XB.ext E15
    have G0 := G0.ext E15
    have G1 := G1.ext E15
    have G2 := G2.ext E15
    have G3 := G3.ext E15
    have G4 := G4.ext E15
    have G5 := G5.ext E15
    have G6 := G6.ext E15
    have G7 := G7.ext E15
    have G8 := G8.ext E15
    have G9 := G9.ext E15
    have G10 := G10.ext E15
    have A2 := A2.ext E15
    have B2 := B2.ext E15
    have A4 := A4.ext E15
    have B4 := B4.ext E15
    have A6 := A6.ext E15
    have B6 := B6.ext E15
    have A8 := A8.ext E15
    have B8 := B8.ext E15
    have A10 := A10.ext E15
    have B10 := B10.ext E15
    have P15 := P13.ext E15
    have Z15 : n0 ≤ h15.size := Nat.le_trans Z13 E15.1
    have A15 : Arv Z h15 a15 k15 .double dense [] (.double (0 : UInt64)) := A15
    refine g_putF C X15 (host := "") (Or.inl (hw _ (List.mem_of_getElem? (i := 29) rfl))) Via.refl e15 G10 XB (Or.inl (hw _ (List.mem_of_getElem? (i := 30) rfl))) (hw _ (List.mem_of_getElem? (i := 1) rfl)) (ty := (.array .double)) (by decide) rfl rfl d1_63 rfl ?_
    intro T16 h16 X16 e16 W16
    have XB := XB.wr W16
    have G0 := G0.other W16 (Or.inr (slot_ne (Or.inr (hw _ (List.mem_of_getElem? (i := 22) rfl))) (Or.inl (hw _ (List.mem_of_getElem? (i := 30) rfl))) (by decide) rfl rfl))
    have G1 := G1.other W16 (Or.inr (slot_ne (Or.inl (hw _ (List.mem_of_getElem? (i := 24) rfl))) (Or.inl (hw _ (List.mem_of_getElem? (i := 30) rfl))) (by decide) rfl rfl))
    have G2 := G2.other W16 (Or.inr (slot_ne (Or.inl (hw _ (List.mem_of_getElem? (i := 39) rfl))) (Or.inl (hw _ (List.mem_of_getElem? (i := 30) rfl))) (by decide) rfl rfl))
    have G3 := G3.other W16 (Or.inr (slot_ne (Or.inl (hw _ (List.mem_of_getElem? (i := 37) rfl))) (Or.inl (hw _ (List.mem_of_getElem? (i := 30) rfl))) (by decide) rfl rfl))
    have G4 := G4.other W16 (Or.inr (slot_ne (Or.inl (hw _ (List.mem_of_getElem? (i := 104) rfl))) (Or.inl (hw _ (List.mem_of_getElem? (i := 30) rfl))) (by decide) rfl rfl))
    have G5 := G5.other W16 (Or.inr (slot_ne (Or.inl (hw _ (List.mem_of_getElem? (i := 11) rfl))) (Or.inl (hw _ (List.mem_of_getElem? (i := 30) rfl))) (by decide) rfl rfl))
    have G6 := G6.other W16 (Or.inr (slot_ne (Or.inl (hw _ (List.mem_of_getElem? (i := 13) rfl))) (Or.inl (hw _ (List.mem_of_getElem? (i := 30) rfl))) (by decide) rfl rfl))
    have G7 := G7.other W16 (Or.inr (slot_ne (Or.inl (hw _ (List.mem_of_getElem? (i := 18) rfl))) (Or.inl (hw _ (List.mem_of_getElem? (i := 30) rfl))) (by decide) rfl rfl))
    have G8 := G8.other W16 (Or.inr (slot_ne (Or.inl (hw _ (List.mem_of_getElem? (i := 20) rfl))) (Or.inl (hw _ (List.mem_of_getElem? (i := 30) rfl))) (by decide) rfl rfl))
    have G9 := G9.other W16 (Or.inr (slot_ne (Or.inl (hw _ (List.mem_of_getElem? (i := 16) rfl))) (Or.inl (hw _ (List.mem_of_getElem? (i := 30) rfl))) (by decide) rfl rfl))
    have G10 := G10.same W16
    have A2 := A2.other W16 (Ne.symm ne_bu_a2)
    have B2 := B2.wr W16
    have A4 := A4.other W16 (Ne.symm ne_bu_a4)
    have B4 := B4.wr W16
    have A6 := A6.other W16 (Ne.symm ne_bu_a6)
    have B6 := B6.wr W16
    have A8 := A8.other W16 (Ne.symm ne_bu_a8)
    have B8 := B8.wr W16
    have A10 := A10.other W16 (Ne.symm ne_bu_a10)
    have B10 := B10.wr W16
    have A15 := A15.other W16 (Ne.symm ne_bu_a15)
    have B15 := B15.wr W16
    have Z16 : n0 ≤ h16.size := by rw [W16.size]; exact Z15
    have N16 := Fr.snoc X16 N13 z_bu
    have P16 := P15.wr W16 (Or.inl (List.mem_of_getElem? (i := 0) rfl))
    exact g_return C X16 d1_66 ⟨rfl, N16, SKeep.of (by rw [e16]; exact P16) (alc z_bu al0) (alc XB0.nostat al0), CKeep.of (by rw [e16]; exact P16) (fun EL vm al => (sfS (Safe.exa al XB0 (by decide) (by decide)) sf0)), dense, by omega, ⟨a15, a2, a4, a8, a10, a6, k15, k2, k4, k8, k10, k6, by rw [e16]; exact XB, by rw [e16]; exact G0, by rw [e16]; exact G1, by rw [e16]; exact G2, by rw [e16]; exact G3, by rw [e16]; exact G4, by rw [e16]; exact G5, by rw [e16]; exact G6, by rw [e16]; exact G7, by rw [e16]; exact G8, by rw [e16]; exact G9, by rw [e16]; exact G10, by rw [e16]; exact A2, by rw [e16]; exact A4, by rw [e16]; exact A8, by rw [e16]; exact A10, by rw [e16]; exact A6, by rw [e16]; exact A15, by rw [e16]; exact B15, ne_bu_a15, ne_bu_a2, ne_bu_a4, ne_bu_a8, ne_bu_a10, ne_bu_a6, (Ne.symm ne_a2_a15), (Ne.symm ne_a4_a15), (Ne.symm ne_a8_a15), (Ne.symm ne_a10_a15), (Ne.symm ne_a6_a15), ne_a2_a4, ne_a2_a8, ne_a2_a10, ne_a2_a6, z_bu, z_a15, z_a2⟩⟩ (by decide) (by decide)
  · rw [List.append_nil] at X14
    show Go p.tables e below _ T14 (mkF m 61 #[.val (.ref bu), .val (.int dense)] [(.int (16 : Int32)), (.ref bu)])
    refine g_newPE C X14 (aty := .double) (ad := "[D") (by decide) (hw _ (List.mem_of_getElem? (i := 14) rfl)) e14 d1_61 (by decide) 16 (by decide) (by decide) (by decide) (by decide) rfl ?_
    intro T17 h17 a17 k17 g17 X17 e17 E17 A17 B17
    have ne_a10_a17 : a10 ≠ a17 := Nat.ne_of_lt (by rw [g17]; exact A10.lt)
    have ne_a2_a17 : a2 ≠ a17 := Nat.ne_of_lt (by rw [g17]; exact A2.lt)
    have ne_a4_a17 : a4 ≠ a17 := Nat.ne_of_lt (by rw [g17]; exact A4.lt)
    have ne_a6_a17 : a6 ≠ a17 := Nat.ne_of_lt (by rw [g17]; exact A6.lt)
    have ne_a8_a17 : a8 ≠ a17 := Nat.ne_of_lt (by rw [g17]; exact A8.lt)
    have ne_bu_a17 : bu ≠ a17 := Nat.ne_of_lt (by rw [g17]; exact XB.lt)
    have z_a17 : n0 ≤ a17 := by rw [g17]; exact Z13
    have y_a17 : h.size ≤ a17 := by rw [g17]; exact P13.1
    have XB := XB.ext E17
    have G0 := G0.ext E17
    have G1 := G1.ext E17
    have G2 := G2.ext E17
    have G3 := G3.ext E17
    have G4 := G4.ext E17
    have G5 := G5.ext E17
    have G6 := G6.ext E17
    have G7 := G7.ext E17
    have G8 := G8.ext E17
    have G9 := G9.ext E17
    have G10 := G10.ext E17
    have A2 := A2.ext E17
    have B2 := B2.ext E17
    have A4 := A4.ext E17
    have B4 := B4.ext E17
    have A6 := A6.ext E17
    have B6 := B6.ext E17
    have A8 := A8.ext E17
    have B8 := B8.ext E17
    have A10 := A10.ext E17
    have B10 := B10.ext E17
    have P17 := P13.ext E17
    have Z17 : n0 ≤ h17.size := Nat.le_trans Z13 E17.1
    have A17 : Arv Z h17 a17 k17 .double (16 : Int32) [] (.double (0 : UInt64)) := A17
    refine g_putF C X17 (host := "") (Or.inl (hw _ (List.mem_of_getElem? (i := 29) rfl))) Via.refl e17 G10 XB (Or.inl (hw _ (List.mem_of_getElem? (i := 30) rfl))) (hw _ (List.mem_of_getElem? (i := 1) rfl)) (ty := (.array .double)) (by decide) rfl rfl d1_63 rfl ?_
    intro T18 h18 X18 e18 W18
    have XB := XB.wr W18
    have G0 := G0.other W18 (Or.inr (slot_ne (Or.inr (hw _ (List.mem_of_getElem? (i := 22) rfl))) (Or.inl (hw _ (List.mem_of_getElem? (i := 30) rfl))) (by decide) rfl rfl))
    have G1 := G1.other W18 (Or.inr (slot_ne (Or.inl (hw _ (List.mem_of_getElem? (i := 24) rfl))) (Or.inl (hw _ (List.mem_of_getElem? (i := 30) rfl))) (by decide) rfl rfl))
    have G2 := G2.other W18 (Or.inr (slot_ne (Or.inl (hw _ (List.mem_of_getElem? (i := 39) rfl))) (Or.inl (hw _ (List.mem_of_getElem? (i := 30) rfl))) (by decide) rfl rfl))
    have G3 := G3.other W18 (Or.inr (slot_ne (Or.inl (hw _ (List.mem_of_getElem? (i := 37) rfl))) (Or.inl (hw _ (List.mem_of_getElem? (i := 30) rfl))) (by decide) rfl rfl))
    have G4 := G4.other W18 (Or.inr (slot_ne (Or.inl (hw _ (List.mem_of_getElem? (i := 104) rfl))) (Or.inl (hw _ (List.mem_of_getElem? (i := 30) rfl))) (by decide) rfl rfl))
    have G5 := G5.other W18 (Or.inr (slot_ne (Or.inl (hw _ (List.mem_of_getElem? (i := 11) rfl))) (Or.inl (hw _ (List.mem_of_getElem? (i := 30) rfl))) (by decide) rfl rfl))
    have G6 := G6.other W18 (Or.inr (slot_ne (Or.inl (hw _ (List.mem_of_getElem? (i := 13) rfl))) (Or.inl (hw _ (List.mem_of_getElem? (i := 30) rfl))) (by decide) rfl rfl))
    have G7 := G7.other W18 (Or.inr (slot_ne (Or.inl (hw _ (List.mem_of_getElem? (i := 18) rfl))) (Or.inl (hw _ (List.mem_of_getElem? (i := 30) rfl))) (by decide) rfl rfl))
    have G8 := G8.other W18 (Or.inr (slot_ne (Or.inl (hw _ (List.mem_of_getElem? (i := 20) rfl))) (Or.inl (hw _ (List.mem_of_getElem? (i := 30) rfl))) (by decide) rfl rfl))
    have G9 := G9.other W18 (Or.inr (slot_ne (Or.inl (hw _ (List.mem_of_getElem? (i := 16) rfl))) (Or.inl (hw _ (List.mem_of_getElem? (i := 30) rfl))) (by decide) rfl rfl))
    have G10 := G10.same W18
    have A2 := A2.other W18 (Ne.symm ne_bu_a2)
    have B2 := B2.wr W18
    have A4 := A4.other W18 (Ne.symm ne_bu_a4)
    have B4 := B4.wr W18
    have A6 := A6.other W18 (Ne.symm ne_bu_a6)
    have B6 := B6.wr W18
    have A8 := A8.other W18 (Ne.symm ne_bu_a8)
    have B8 := B8.wr W18
    have A10 := A10.other W18 (Ne.symm ne_bu_a10)
    have B10 := B10.wr W18
    have A17 := A17.other W18 (Ne.symm ne_bu_a17)
    have B17 := B17.wr W18
    have Z18 : n0 ≤ h18.size := by rw [W18.size]; exact Z17
    have N18 := Fr.snoc X18 N13 z_bu
    have P18 := P17.wr W18 (Or.inl (List.mem_of_getElem? (i := 0) rfl))
    exact g_return C X18 d1_66 ⟨rfl, N18, SKeep.of (by rw [e18]; exact P18) (alc z_bu al0) (alc XB0.nostat al0), CKeep.of (by rw [e18]; exact P18) (fun EL vm al => (sfS (Safe.exa al XB0 (by decide) (by decide)) sf0)), (16 : Int32), by omega, ⟨a17, a2, a4, a8, a10, a6, k17, k2, k4, k8, k10, k6, by rw [e18]; exact XB, by rw [e18]; exact G0, by rw [e18]; exact G1, by rw [e18]; exact G2, by rw [e18]; exact G3, by rw [e18]; exact G4, by rw [e18]; exact G5, by rw [e18]; exact G6, by rw [e18]; exact G7, by rw [e18]; exact G8, by rw [e18]; exact G9, by rw [e18]; exact G10, by rw [e18]; exact A2, by rw [e18]; exact A4, by rw [e18]; exact A8, by rw [e18]; exact A10, by rw [e18]; exact A6, by rw [e18]; exact A17, by rw [e18]; exact B17, ne_bu_a17, ne_bu_a2, ne_bu_a4, ne_bu_a8, ne_bu_a10, ne_bu_a6, (Ne.symm ne_a2_a17), (Ne.symm ne_a4_a17), (Ne.symm ne_a8_a17), (Ne.symm ne_a10_a17), (Ne.symm ne_a6_a17), ne_a2_a4, ne_a2_a8, ne_a2_a10, ne_a2_a6, z_bu, z_a17, z_a2⟩⟩ (by decide) (by decide)
theorem d4_0 : decode prog_4_method_2_code 0 = .ok (.aload_n 0, 1) := by decide +kernel
theorem d4_1 : decode prog_4_method_2_code 1 = .ok (.getfield 42, 3) := by decide +kernel
theorem d4_4 : decode prog_4_method_2_code 4 = .ok (.ifCond .le 13, 3) := by decide +kernel
theorem d4_7 : decode prog_4_method_2_code 7 = .ok (.new 45, 3) := by decide +kernel
theorem d4_10 : decode prog_4_method_2_code 10 = .ok (.dup, 1) := by decide +kernel
theorem d4_11 : decode prog_4_method_2_code 11 = .ok (.ldc 47, 2) := by decide +kernel
theorem d4_13 : decode prog_4_method_2_code 13 = .ok (.invokespecial 49, 3) := by decide +kernel
theorem d4_16 : decode prog_4_method_2_code 16 = .ok (.athrow, 1) := by decide +kernel
theorem d4_17 : decode prog_4_method_2_code 17 = .ok (.iload_n 1, 1) := by decide +kernel
theorem d4_18 : decode prog_4_method_2_code 18 = .ok (.iconst 1, 1) := by decide +kernel
theorem d4_19 : decode prog_4_method_2_code 19 = .ok (.if_icmp .ge 35, 3) := by decide +kernel
theorem d4_22 : decode prog_4_method_2_code 22 = .ok (.new 52, 3) := by decide +kernel
theorem d4_25 : decode prog_4_method_2_code 25 = .ok (.dup, 1) := by decide +kernel
theorem d4_26 : decode prog_4_method_2_code 26 = .ok (.new 54, 3) := by decide +kernel
theorem d4_29 : decode prog_4_method_2_code 29 = .ok (.dup, 1) := by decide +kernel
theorem d4_30 : decode prog_4_method_2_code 30 = .ok (.invokespecial 56, 3) := by decide +kernel
theorem d4_33 : decode prog_4_method_2_code 33 = .ok (.ldc 57, 2) := by decide +kernel
theorem d4_35 : decode prog_4_method_2_code 35 = .ok (.invokevirtual 59, 3) := by decide +kernel
theorem d4_38 : decode prog_4_method_2_code 38 = .ok (.iload_n 1, 1) := by decide +kernel
theorem d4_39 : decode prog_4_method_2_code 39 = .ok (.invokevirtual 63, 3) := by decide +kernel
theorem d4_42 : decode prog_4_method_2_code 42 = .ok (.ldc 66, 2) := by decide +kernel
theorem d4_44 : decode prog_4_method_2_code 44 = .ok (.invokevirtual 59, 3) := by decide +kernel
theorem d4_47 : decode prog_4_method_2_code 47 = .ok (.invokevirtual 68, 3) := by decide +kernel
theorem d4_50 : decode prog_4_method_2_code 50 = .ok (.invokespecial 72, 3) := by decide +kernel
theorem d4_53 : decode prog_4_method_2_code 53 = .ok (.athrow, 1) := by decide +kernel
theorem d4_54 : decode prog_4_method_2_code 54 = .ok (.aload_n 0, 1) := by decide +kernel
theorem d4_55 : decode prog_4_method_2_code 55 = .ok (.aload_n 0, 1) := by decide +kernel
theorem d4_56 : decode prog_4_method_2_code 56 = .ok (.getfield 7, 3) := by decide +kernel
theorem d4_59 : decode prog_4_method_2_code 59 = .ok (.aload_n 0, 1) := by decide +kernel
theorem d4_60 : decode prog_4_method_2_code 60 = .ok (.getfield 73, 3) := by decide +kernel
theorem d4_63 : decode prog_4_method_2_code 63 = .ok (.iconst 1, 1) := by decide +kernel
theorem d4_64 : decode prog_4_method_2_code 64 = .ok (.iadd, 1) := by decide +kernel
theorem d4_65 : decode prog_4_method_2_code 65 = .ok (.invokestatic 76, 3) := by decide +kernel
theorem d4_68 : decode prog_4_method_2_code 68 = .ok (.putfield 7, 3) := by decide +kernel
theorem d4_71 : decode prog_4_method_2_code 71 = .ok (.aload_n 0, 1) := by decide +kernel
theorem d4_72 : decode prog_4_method_2_code 72 = .ok (.getfield 7, 3) := by decide +kernel
theorem d4_75 : decode prog_4_method_2_code 75 = .ok (.aload_n 0, 1) := by decide +kernel
theorem d4_76 : decode prog_4_method_2_code 76 = .ok (.dup, 1) := by decide +kernel
theorem d4_77 : decode prog_4_method_2_code 77 = .ok (.getfield 73, 3) := by decide +kernel
theorem d4_80 : decode prog_4_method_2_code 80 = .ok (.dup_x1, 1) := by decide +kernel
theorem d4_81 : decode prog_4_method_2_code 81 = .ok (.iconst 1, 1) := by decide +kernel
theorem d4_82 : decode prog_4_method_2_code 82 = .ok (.iadd, 1) := by decide +kernel
theorem d4_83 : decode prog_4_method_2_code 83 = .ok (.putfield 73, 3) := by decide +kernel
theorem d4_86 : decode prog_4_method_2_code 86 = .ok (.aload_n 0, 1) := by decide +kernel
theorem d4_87 : decode prog_4_method_2_code 87 = .ok (.getfield 30, 3) := by decide +kernel
theorem d4_90 : decode prog_4_method_2_code 90 = .ok (.iastore, 1) := by decide +kernel
theorem d4_91 : decode prog_4_method_2_code 91 = .ok (.aload_n 0, 1) := by decide +kernel
theorem d4_92 : decode prog_4_method_2_code 92 = .ok (.dup, 1) := by decide +kernel
theorem d4_93 : decode prog_4_method_2_code 93 = .ok (.getfield 30, 3) := by decide +kernel
theorem d4_96 : decode prog_4_method_2_code 96 = .ok (.iload_n 1, 1) := by decide +kernel
theorem d4_97 : decode prog_4_method_2_code 97 = .ok (.iadd, 1) := by decide +kernel
theorem d4_98 : decode prog_4_method_2_code 98 = .ok (.putfield 30, 3) := by decide +kernel
theorem d4_101 : decode prog_4_method_2_code 101 = .ok (.aload_n 0, 1) := by decide +kernel
theorem d4_102 : decode prog_4_method_2_code 102 = .ok (.aload_n 0, 1) := by decide +kernel
theorem d4_103 : decode prog_4_method_2_code 103 = .ok (.getfield 39, 3) := by decide +kernel
theorem d4_106 : decode prog_4_method_2_code 106 = .ok (.aload_n 0, 1) := by decide +kernel
theorem d4_107 : decode prog_4_method_2_code 107 = .ok (.getfield 30, 3) := by decide +kernel
theorem d4_110 : decode prog_4_method_2_code 110 = .ok (.invokestatic 80, 3) := by decide +kernel
theorem d4_113 : decode prog_4_method_2_code 113 = .ok (.putfield 39, 3) := by decide +kernel
theorem d4_116 : decode prog_4_method_2_code 116 = .ok (.aload_n 0, 1) := by decide +kernel
theorem d4_117 : decode prog_4_method_2_code 117 = .ok (.getfield 30, 3) := by decide +kernel
theorem d4_120 : decode prog_4_method_2_code 120 = .ok (.iload_n 1, 1) := by decide +kernel
theorem d4_121 : decode prog_4_method_2_code 121 = .ok (.isub, 1) := by decide +kernel
theorem d4_122 : decode prog_4_method_2_code 122 = .ok (.ireturn, 1) := by decide +kernel
theorem d5_0 : decode prog_4_method_7_code 0 = .ok (.iload_n 1, 1) := by decide +kernel
theorem d5_1 : decode prog_4_method_7_code 1 = .ok (.aload_n 0, 1) := by decide +kernel
theorem d5_2 : decode prog_4_method_7_code 2 = .ok (.arraylength, 1) := by decide +kernel
theorem d5_3 : decode prog_4_method_7_code 3 = .ok (.if_icmp .gt 7, 3) := by decide +kernel
theorem d5_6 : decode prog_4_method_7_code 6 = .ok (.aload_n 0, 1) := by decide +kernel
theorem d5_7 : decode prog_4_method_7_code 7 = .ok (.goto 10, 3) := by decide +kernel
theorem d5_10 : decode prog_4_method_7_code 10 = .ok (.aload_n 0, 1) := by decide +kernel
theorem d5_11 : decode prog_4_method_7_code 11 = .ok (.iconst 2, 1) := by decide +kernel
theorem d5_12 : decode prog_4_method_7_code 12 = .ok (.iload_n 1, 1) := by decide +kernel
theorem d5_13 : decode prog_4_method_7_code 13 = .ok (.imul, 1) := by decide +kernel
theorem d5_14 : decode prog_4_method_7_code 14 = .ok (.invokestatic 115, 3) := by decide +kernel
theorem d5_17 : decode prog_4_method_7_code 17 = .ok (.areturn, 1) := by decide +kernel
theorem kk_22 (m : MethodId) (x0 : Addr) (x1 : Int32) : entryFrame m #[(.ref x0), (.int x1)] 2 = mkF m 0 #[.val (.ref x0), .val (.int x1)] [] := by first | (simp [entryFrame, mkF, argsToLocals, Value.category]; done) | rfl
theorem kk_23 : plainName "com/example/fleetloom/fleetloom/ChainedProgramme$Builder" = true := by first | (simp [plainName, overriddenIn]; done) | decide +kernel
set_option maxRecDepth 65536 in
set_option maxHeartbeats 40000000 in
theorem k3_grow (l : Launch) (Z : State) (a0 : Array Value) (hw : ∀ d ∈ tables_1, d.before a0 Z = true) (h : Heap) (n0 : Nat) (Z0 : n0 ≤ h.size) (qa1 : Addr) (qk1 : ClassId) (H1 : Arv Z h qa1 qk1 .int (16 : Int32) [] (.int (0 : Int32))) :
    Con l Z (⟨"com/example/fleetloom/fleetloom/ChainedProgramme$Builder", "grow", "([II)[I"⟩ : MethodName) prog_4_method_7_code 2 (some (.array .int)) ⟨0, 0, 0, 0⟩ #[(.ref qa1), (.int (1 : Int32))] h (fun v h' L => v = some (.ref qa1) ∧ L = [] ∧ h' = h) := by
  refine con_of_go kk_23 (fun m => kk_22 m qa1 (1 : Int32)) ?_
  intro p e s m below meth c T0 C X0 e0
  refine g_iloadN C X0 (pc' := 1) d5_0 rfl rfl ?_
  refine g_aloadN C X0 (pc' := 2) d5_1 rfl rfl rfl ?_
  refine g_len C X0 (pc' := 3) e0 H1 d5_2 rfl ?_
  refine g_icmpN C X0 d5_3 (by decide) rfl ?_
  refine g_aloadN C X0 (pc' := 7) d5_6 rfl rfl rfl ?_
  refine g_goto C X0 d5_7 (pc' := 17) (by decide) (by decide) ?_
  exact g_areturn C X0 d5_17 rfl rfl rfl (⟨rfl, rfl, e0⟩) (by decide) (by decide)
theorem kk_24 : parseMethodDescriptor "([II)[I" = some ⟨[(.array .int), .int], (some (.array .int))⟩ := by decide +kernel
theorem kk_25 : plainFor (⟨"com/example/fleetloom/fleetloom/ChainedProgramme$Builder", "chain", "(I)I"⟩ : MethodName) = true := by decide +kernel
theorem kk_26 (m : MethodId) (x0 : Addr) (x1 : Int32) : entryFrame m #[(.ref x0), (.int x1)] 2 = mkF m 0 #[.val (.ref x0), .val (.int x1)] [] := by first | (simp [entryFrame, mkF, argsToLocals, Value.category]; done) | rfl
set_option maxRecDepth 65536 in
set_option maxHeartbeats 40000000 in
theorem c_chain (l : Launch) (Z : State) (a0 : Array Value) (hw : ∀ d ∈ tables_1, d.before a0 Z = true) (h : Heap) (n0 : Nat) (Z0 : n0 ≤ h.size) (bu : Addr) (dense len zz : Int32) (hd : 0 ≤ dense.toInt ∧ dense.toInt ≤ 31) (hl : 1 ≤ len.toInt ∧ len.toInt ≤ 16) (hzz : 16 ≤ zz.toInt ∧ zz.toInt ≤ 31 ∧ dense.toInt ≤ zz.toInt) (hr : (dense + len).toInt = dense.toInt + len.toInt) (B : BS Z h n0 bu dense dense 0 [] zz []) :
    Con l Z (⟨"com/example/fleetloom/fleetloom/ChainedProgramme$Builder", "chain", "(I)I"⟩ : MethodName) prog_4_method_2_code 2 (some .int) ⟨3, 1, 94, 90⟩ #[(.ref bu), (.int len)] h (fun v h' L => (∃ r : Int32, v = some (.int r)) ∧ Fr n0 L ∧ SKeep Z n0 h h' ∧ CKeep Z h h' ∧ ∃ z2 : Int32, (16 ≤ z2.toInt ∧ z2.toInt ≤ 94 ∧ (dense + len).toInt ≤ z2.toInt) ∧ BS Z h' n0 bu dense (dense + len) 1 [.int dense] z2 []) := by
  refine con_of_goF kk_25 (fun m => kk_26 m bu len) ?_
  intro p e s m below meth c T0 C X0 e0
  obtain ⟨rb, ad1, ad2, ad3, ad4, ad5, kb, kd1, kd2, kd3, kd4, kd5, XB, G0, G1, G2, G3, G4, G5, G6, G7, G8, G9, G10, Ad1, Ad2, Ad3, Ad4, Ad5, Ad6, XR, ne_bu_rb, ne_bu_ad1, ne_bu_ad2, ne_bu_ad3, ne_bu_ad4, ne_bu_ad5, ne_rb_ad1, ne_rb_ad2, ne_rb_ad3, ne_rb_ad4, ne_rb_ad5, ne_ad1_ad2, ne_ad1_ad3, ne_ad1_ad4, ne_ad1_ad5, z_bu, z_rb, z_ad1⟩ := B
  have XB0 := XB
  have Ad10 := Ad1
  refine g_aloadN C X0 (pc' := 1) d4_0 rfl rfl rfl ?_
  refine g_getF C X0 (host := "") (Or.inl (hw _ (List.mem_of_getElem? (i := 36) rfl))) Via.refl e0 G3 d4_1 rfl ?_
  intro T1 X1 e1
  refine g_ifY C X1 d4_4 (pc' := 17) (by decide) (by decide) (by decide) ?_
  refine g_iloadN C X1 (pc' := 18) d4_17 rfl rfl ?_
  refine g_iconst C X1 (pc' := 19) d4_18 (v := (1 : Int32)) (by decide) rfl ?_
  refine g_icmpY C X1 d4_19 (pc' := 54) (by decide) (by decide) (by have q0 := hl; have q1 : (1 : Int32).toInt = 1 := (by decide); unfold cpI; omega) ?_
  refine g_aloadN C X1 (pc' := 55) d4_54 rfl rfl rfl ?_
  refine g_aloadN C X1 (pc' := 56) d4_55 rfl rfl rfl ?_
  refine g_getF C X1 (host := "") (Or.inl (hw _ (List.mem_of_getElem? (i := 10) rfl))) Via.refl e1 G5 d4_56 rfl ?_
  intro T2 X2 e2
  refine g_aloadN C X2 (pc' := 60) d4_59 rfl rfl rfl ?_
  refine g_getF C X2 (host := "") (Or.inl (hw _ (List.mem_of_getElem? (i := 38) rfl))) Via.refl e2 G2 d4_60 rfl ?_
  intro T3 X3 e3
  refine g_iconst C X3 (pc' := 64) d4_63 (v := (1 : Int32)) (by decide) rfl ?_
  refine g_iadd C X3 (pc' := 65) d4_64 rfl ?_
  rw [show ((0 : Int32) + (1 : Int32) : Int32) = 1 from by decide]
  refine g_callS C X3 (k3_grow l Z a0 hw h n0 Z0  ad1 kd1    Ad1) (hw _ (List.mem_of_getElem? (i := 40) rfl)) (hw _ (List.mem_of_getElem? (i := 41) rfl)) (hw _ (List.mem_of_getElem? (i := 2) rfl)) (hw _ (List.mem_of_getElem? (i := 42) rfl)) (by decide) e3 d4_65 rfl kk_24 [(.ref ad1), (.int (1 : Int32))] [(.ref bu)] rfl rfl rfl 1 rfl (by decide) (by decide) (by decide) (by decide) rfl ?_
  rintro _ T4 _ X4 ⟨rfl, rfl, e4⟩
  rw [List.append_nil] at X4
  show Go p.tables e below _ T4 (mkF m 68 #[.val (.ref bu), .val (.int len)] [(.ref ad1), (.ref bu)])
  refine g_putF C X4 (host := "") (Or.inl (hw _ (List.mem_of_getElem? (i := 10) rfl))) Via.refl e4 G5 XB (Or.inl (hw _ (List.mem_of_getElem? (i := 11) rfl))) (hw _ (List.mem_of_getElem? (i := 1) rfl)) (ty := (.array .int)) (by decide) rfl rfl d4_68 rfl ?_
  intro T5 h5 X5 e5 W5
  have XB := XB.wr W5
  have G0 := G0.other W5 (Or.inr (slot_ne (Or.inr (hw _ (List.mem_of_getElem? (i := 22) rfl))) (Or.inl (hw _ (List.mem_of_getElem? (i := 11) rfl))) (by decide) rfl rfl))
  have G1 := G1.other W5 (Or.inr (slot_ne (Or.inl (hw _ (List.mem_of_getElem? (i := 24) rfl))) (Or.inl (hw _ (List.mem_of_getElem? (i := 11) rfl))) (by decide) rfl rfl))
  have G2 := G2.other W5 (Or.inr (slot_ne (Or.inl (hw _ (List.mem_of_getElem? (i := 39) rfl))) (Or.inl (hw _ (List.mem_of_getElem? (i := 11) rfl))) (by decide) rfl rfl))
  have G3 := G3.other W5 (Or.inr (slot_ne (Or.inl (hw _ (List.mem_of_getElem? (i := 37) rfl))) (Or.inl (hw _ (List.mem_of_getElem? (i := 11) rfl))) (by decide) rfl rfl))
  have G4 := G4.other W5 (Or.inr (slot_ne (Or.inl (hw _ (List.mem_of_getElem? (i := 104) rfl))) (Or.inl (hw _ (List.mem_of_getElem? (i := 11) rfl))) (by decide) rfl rfl))
  have G5 := G5.same W5
  have G6 := G6.other W5 (Or.inr (slot_ne (Or.inl (hw _ (List.mem_of_getElem? (i := 13) rfl))) (Or.inl (hw _ (List.mem_of_getElem? (i := 11) rfl))) (by decide) rfl rfl))
  have G7 := G7.other W5 (Or.inr (slot_ne (Or.inl (hw _ (List.mem_of_getElem? (i := 18) rfl))) (Or.inl (hw _ (List.mem_of_getElem? (i := 11) rfl))) (by decide) rfl rfl))
  have G8 := G8.other W5 (Or.inr (slot_ne (Or.inl (hw _ (List.mem_of_getElem? (i := 20) rfl))) (Or.inl (hw _ (List.mem_of_getElem? (i := 11) rfl))) (by decide) rfl rfl))
  have G9 := G9.other W5 (Or.inr (slot_ne (Or.inl (hw _ (List.mem_of_getElem? (i := 16) rfl))) (Or.inl (hw _ (List.mem_of_getElem? (i := 11) rfl))) (by decide) rfl rfl))
  have G10 := G10.other W5 (Or.inr (slot_ne (Or.inl (hw _ (List.mem_of_getElem? (i := 30) rfl))) (Or.inl (hw _ (List.mem_of_getElem? (i := 11) rfl))) (by decide) rfl rfl))
  have Ad1 := Ad1.other W5 (Ne.symm ne_bu_ad1)
  have Ad2 := Ad2.other W5 (Ne.symm ne_bu_ad2)
  have Ad3 := Ad3.other W5 (Ne.symm ne_bu_ad3)
  have Ad4 := Ad4.other W5 (Ne.symm ne_bu_ad4)
  have Ad5 := Ad5.other W5 (Ne.symm ne_bu_ad5)
  have Ad6 := Ad6.other W5 (Ne.symm ne_bu_rb)
  have XR := XR.wr W5
  have Z5 : n0 ≤ h5.size := by rw [W5.size]; exact Z0
  have N5 := Fr.snoc X5 (Fr.nil n0) z_bu
  have P5 := (Keep.refl h [bu, ad1]).wr W5 (Or.inl (List.mem_of_getElem? (i := 0) rfl))
  refine g_aloadN C X5 (pc' := 72) d4_71 rfl rfl rfl ?_
  refine g_getF C X5 (host := "") (Or.inl (hw _ (List.mem_of_getElem? (i := 10) rfl))) Via.refl e5 G5 d4_72 rfl ?_
  intro T6 X6 e6
  refine g_aloadN C X6 (pc' := 76) d4_75 rfl rfl rfl ?_
  refine g_dup C X6 (pc' := 77) d4_76 rfl rfl ?_
  refine g_getF C X6 (host := "") (Or.inl (hw _ (List.mem_of_getElem? (i := 38) rfl))) Via.refl e6 G2 d4_77 rfl ?_
  intro T7 X7 e7
  refine g_dupX1 C X7 (pc' := 81) d4_80 rfl rfl rfl ?_
  refine g_iconst C X7 (pc' := 82) d4_81 (v := (1 : Int32)) (by decide) rfl ?_
  refine g_iadd C X7 (pc' := 83) d4_82 rfl ?_
  rw [show ((0 : Int32) + (1 : Int32) : Int32) = 1 from by decide]
  refine g_putF C X7 (host := "") (Or.inl (hw _ (List.mem_of_getElem? (i := 38) rfl))) Via.refl e7 G2 XB (Or.inl (hw _ (List.mem_of_getElem? (i := 39) rfl))) (hw _ (List.mem_of_getElem? (i := 1) rfl)) (ty := .int) (by decide) rfl rfl d4_83 rfl ?_
  intro T8 h8 X8 e8 W8
  have XB := XB.wr W8
  have G0 := G0.other W8 (Or.inr (slot_ne (Or.inr (hw _ (List.mem_of_getElem? (i := 22) rfl))) (Or.inl (hw _ (List.mem_of_getElem? (i := 39) rfl))) (by decide) rfl rfl))
  have G1 := G1.other W8 (Or.inr (slot_ne (Or.inl (hw _ (List.mem_of_getElem? (i := 24) rfl))) (Or.inl (hw _ (List.mem_of_getElem? (i := 39) rfl))) (by decide) rfl rfl))
  have G2 := G2.same W8
  have G3 := G3.other W8 (Or.inr (slot_ne (Or.inl (hw _ (List.mem_of_getElem? (i := 37) rfl))) (Or.inl (hw _ (List.mem_of_getElem? (i := 39) rfl))) (by decide) rfl rfl))
  have G4 := G4.other W8 (Or.inr (slot_ne (Or.inl (hw _ (List.mem_of_getElem? (i := 104) rfl))) (Or.inl (hw _ (List.mem_of_getElem? (i := 39) rfl))) (by decide) rfl rfl))
  have G5 := G5.other W8 (Or.inr (slot_ne (Or.inl (hw _ (List.mem_of_getElem? (i := 11) rfl))) (Or.inl (hw _ (List.mem_of_getElem? (i := 39) rfl))) (by decide) rfl rfl))
  have G6 := G6.other W8 (Or.inr (slot_ne (Or.inl (hw _ (List.mem_of_getElem? (i := 13) rfl))) (Or.inl (hw _ (List.mem_of_getElem? (i := 39) rfl))) (by decide) rfl rfl))
  have G7 := G7.other W8 (Or.inr (slot_ne (Or.inl (hw _ (List.mem_of_getElem? (i := 18) rfl))) (Or.inl (hw _ (List.mem_of_getElem? (i := 39) rfl))) (by decide) rfl rfl))
  have G8 := G8.other W8 (Or.inr (slot_ne (Or.inl (hw _ (List.mem_of_getElem? (i := 20) rfl))) (Or.inl (hw _ (List.mem_of_getElem? (i := 39) rfl))) (by decide) rfl rfl))
  have G9 := G9.other W8 (Or.inr (slot_ne (Or.inl (hw _ (List.mem_of_getElem? (i := 16) rfl))) (Or.inl (hw _ (List.mem_of_getElem? (i := 39) rfl))) (by decide) rfl rfl))
  have G10 := G10.other W8 (Or.inr (slot_ne (Or.inl (hw _ (List.mem_of_getElem? (i := 30) rfl))) (Or.inl (hw _ (List.mem_of_getElem? (i := 39) rfl))) (by decide) rfl rfl))
  have Ad1 := Ad1.other W8 (Ne.symm ne_bu_ad1)
  have Ad2 := Ad2.other W8 (Ne.symm ne_bu_ad2)
  have Ad3 := Ad3.other W8 (Ne.symm ne_bu_ad3)
  have Ad4 := Ad4.other W8 (Ne.symm ne_bu_ad4)
  have Ad5 := Ad5.other W8 (Ne.symm ne_bu_ad5)
  have Ad6 := Ad6.other W8 (Ne.symm ne_bu_rb)
  have XR := XR.wr W8
  have Z8 : n0 ≤ h8.size := by rw [W8.size]; exact Z5
  have N8 := Fr.snoc X8 N5 z_bu
  have P8 := P5.wr W8 (Or.inl (List.mem_of_getElem? (i := 0) rfl))
  refine g_aloadN C X8 (pc' := 87) d4_86 rfl rfl rfl ?_
  refine g_getF C X8 (host := "") (Or.inl (hw _ (List.mem_of_getElem? (i := 23) rfl))) Via.refl e8 G1 d4_87 rfl ?_
  intro T9 X9 e9
  refine g_iastore C X9 (pc' := 91) e9 Ad1 (by decide) (by decide) 0 1 (by decide) (of_decide_eq_true rfl) d4_90 rfl ?_
  intro T10 h10 X10 e10 W10 Aq
  have XB := XB.wr W10
  have G0 := G0.other W10 (Or.inl ne_bu_ad1)
  have G1 := G1.other W10 (Or.inl ne_bu_ad1)
  have G2 := G2.other W10 (Or.inl ne_bu_ad1)
  have G3 := G3.other W10 (Or.inl ne_bu_ad1)
  have G4 := G4.other W10 (Or.inl ne_bu_ad1)
  have G5 := G5.other W10 (Or.inl ne_bu_ad1)
  have G6 := G6.other W10 (Or.inl ne_bu_ad1)
  have G7 := G7.other W10 (Or.inl ne_bu_ad1)
  have G8 := G8.other W10 (Or.inl ne_bu_ad1)
  have G9 := G9.other W10 (Or.inl ne_bu_ad1)
  have G10 := G10.other W10 (Or.inl ne_bu_ad1)
  have Ad2 := Ad2.other W10 (Ne.symm ne_ad1_ad2)
  have Ad3 := Ad3.other W10 (Ne.symm ne_ad1_ad3)
  have Ad4 := Ad4.other W10 (Ne.symm ne_ad1_ad4)
  have Ad5 := Ad5.other W10 (Ne.symm ne_ad1_ad5)
  have Ad6 := Ad6.other W10 ne_rb_ad1
  have XR := XR.wr W10
  have Z10 : n0 ≤ h10.size := by rw [W10.size]; exact Z8
  have N10 := Fr.snoc X10 N8 z_ad1
  have P10 := P8.wr W10 (Or.inl (List.mem_of_getElem? (i := 1) rfl))
  have Ad1 : Arv Z h10 ad1 kd1 .int (16 : Int32) [(.int dense)] (.int (0 : Int32)) := Aq
  refine g_aloadN C X10 (pc' := 92) d4_91 rfl rfl rfl ?_
  refine g_dup C X10 (pc' := 93) d4_92 rfl rfl ?_
  refine g_getF C X10 (host := "") (Or.inl (hw _ (List.mem_of_getElem? (i := 23) rfl))) Via.refl e10 G1 d4_93 rfl ?_
  intro T11 X11 e11
  refine g_iloadN C X11 (pc' := 97) d4_96 rfl rfl ?_
  refine g_iadd C X11 (pc' := 98) d4_97 rfl ?_
  refine g_putF C X11 (host := "") (Or.inl (hw _ (List.mem_of_getElem? (i := 23) rfl))) Via.refl e11 G1 XB (Or.inl (hw _ (List.mem_of_getElem? (i := 24) rfl))) (hw _ (List.mem_of_getElem? (i := 1) rfl)) (ty := .int) (by decide) rfl rfl d4_98 rfl ?_
  intro T12 h12 X12 e12 W12
  have XB := XB.wr W12
  have G0 := G0.other W12 (Or.inr (slot_ne (Or.inr (hw _ (List.mem_of_getElem? (i := 22) rfl))) (Or.inl (hw _ (List.mem_of_getElem? (i := 24) rfl))) (by decide) rfl rfl))
  have G1 := G1.same W12
  have G2 := G2.other W12 (Or.inr (slot_ne (Or.inl (hw _ (List.mem_of_getElem? (i := 39) rfl))) (Or.inl (hw _ (List.mem_of_getElem? (i := 24) rfl))) (by decide) rfl rfl))
  have G3 := G3.other W12 (Or.inr (slot_ne (Or.inl (hw _ (List.mem_of_getElem? (i := 37) rfl))) (Or.inl (hw _ (List.mem_of_getElem? (i := 24) rfl))) (by decide) rfl rfl))
  have G4 := G4.other W12 (Or.inr (slot_ne (Or.inl (hw _ (List.mem_of_getElem? (i := 104) rfl))) (Or.inl (hw _ (List.mem_of_getElem? (i := 24) rfl))) (by decide) rfl rfl))
  have G5 := G5.other W12 (Or.inr (slot_ne (Or.inl (hw _ (List.mem_of_getElem? (i := 11) rfl))) (Or.inl (hw _ (List.mem_of_getElem? (i := 24) rfl))) (by decide) rfl rfl))
  have G6 := G6.other W12 (Or.inr (slot_ne (Or.inl (hw _ (List.mem_of_getElem? (i := 13) rfl))) (Or.inl (hw _ (List.mem_of_getElem? (i := 24) rfl))) (by decide) rfl rfl))
  have G7 := G7.other W12 (Or.inr (slot_ne (Or.inl (hw _ (List.mem_of_getElem? (i := 18) rfl))) (Or.inl (hw _ (List.mem_of_getElem? (i := 24) rfl))) (by decide) rfl rfl))
  have G8 := G8.other W12 (Or.inr (slot_ne (Or.inl (hw _ (List.mem_of_getElem? (i := 20) rfl))) (Or.inl (hw _ (List.mem_of_getElem? (i := 24) rfl))) (by decide) rfl rfl))
  have G9 := G9.other W12 (Or.inr (slot_ne (Or.inl (hw _ (List.mem_of_getElem? (i := 16) rfl))) (Or.inl (hw _ (List.mem_of_getElem? (i := 24) rfl))) (by decide) rfl rfl))
  have G10 := G10.other W12 (Or.inr (slot_ne (Or.inl (hw _ (List.mem_of_getElem? (i := 30) rfl))) (Or.inl (hw _ (List.mem_of_getElem? (i := 24) rfl))) (by decide) rfl rfl))
  have Ad1 := Ad1.other W12 (Ne.symm ne_bu_ad1)
  have Ad2 := Ad2.other W12 (Ne.symm ne_bu_ad2)
  have Ad3 := Ad3.other W12 (Ne.symm ne_bu_ad3)
  have Ad4 := Ad4.other W12 (Ne.symm ne_bu_ad4)
  have Ad5 := Ad5.other W12 (Ne.symm ne_bu_ad5)
  have Ad6 := Ad6.other W12 (Ne.symm ne_bu_rb)
  have XR := XR.wr W12
  have Z12 : n0 ≤ h12.size := by rw [W12.size]; exact Z10
  have N12 := Fr.snoc X12 N10 z_bu
  have P12 := P10.wr W12 (Or.inl (List.mem_of_getElem? (i := 0) rfl))
  refine g_aloadN C X12 (pc' := 102) d4_101 rfl rfl rfl ?_
  refine g_aloadN C X12 (pc' := 103) d4_102 rfl rfl rfl ?_
  refine g_getF C X12 (host := "") (Or.inl (hw _ (List.mem_of_getElem? (i := 29) rfl))) Via.refl e12 G10 d4_103 rfl ?_
  intro T13 X13 e13
  refine g_aloadN C X13 (pc' := 107) d4_106 rfl rfl rfl ?_
  refine g_getF C X13 (host := "") (Or.inl (hw _ (List.mem_of_getElem? (i := 23) rfl))) Via.refl e13 G1 d4_107 rfl ?_
  intro T14 X14 e14
  refine g_callS C X14 (c_growD l Z a0 hw h12 n0 Z12 rb kb zz (dense + len) [] (by omega) (by omega) (Nat.zero_le _) Ad6 XR) (hw _ (List.mem_of_getElem? (i := 43) rfl)) (hw _ (List.mem_of_getElem? (i := 44) rfl)) (hw _ (List.mem_of_getElem? (i := 2) rfl)) (hw _ (List.mem_of_getElem? (i := 45) rfl)) (by decide) e14 d4_110 rfl kk_15 [(.ref rb), (.int (dense + len))] [(.ref bu)] rfl rfl rfl 1 rfl (by decide) (by decide) (by decide) (by decide) rfl ?_
  rintro w15 T15 L15 X15 (⟨rfl, rfl, e15, hle⟩ | ⟨b, kb2, n2, rfl, M15, K15, y9_b, Ab, Xb, hn2, hgt⟩)
  · rw [List.append_nil] at X15
    show Go p.tables e below _ T15 (mkF m 113 #[.val (.ref bu), .val (.int len)] [(.ref rb), (.ref bu)])
    refine g_putF C X15 (host := "") (Or.inl (hw _ (List.mem_of_getElem? (i := 29) rfl))) Via.refl e15 G10 XB (Or.inl (hw _ (List.mem_of_getElem? (i := 30) rfl))) (hw _ (List.mem_of_getElem? (i := 1) rfl)) (ty := (.array .double)) (by decide) rfl rfl d4_113 rfl ?_
    intro T16 h16 X16 e16 W16
    have XB := XB.wr W16
    have G0 := G0.other W16 (Or.inr (slot_ne (Or.inr (hw _ (List.mem_of_getElem? (i := 22) rfl))) (Or.inl (hw _ (List.mem_of_getElem? (i := 30) rfl))) (by decide) rfl rfl))
    have G1 := G1.other W16 (Or.inr (slot_ne (Or.inl (hw _ (List.mem_of_getElem? (i := 24) rfl))) (Or.inl (hw _ (List.mem_of_getElem? (i := 30) rfl))) (by decide) rfl rfl))
    have G2 := G2.other W16 (Or.inr (slot_ne (Or.inl (hw _ (List.mem_of_getElem? (i := 39) rfl))) (Or.inl (hw _ (List.mem_of_getElem? (i := 30) rfl))) (by decide) rfl rfl))
    have G3 := G3.other W16 (Or.inr (slot_ne (Or.inl (hw _ (List.mem_of_getElem? (i := 37) rfl))) (Or.inl (hw _ (List.mem_of_getElem? (i := 30) rfl))) (by decide) rfl rfl))
    have G4 := G4.other W16 (Or.inr (slot_ne (Or.inl (hw _ (List.mem_of_getElem? (i := 104) rfl))) (Or.inl (hw _ (List.mem_of_getElem? (i := 30) rfl))) (by decide) rfl rfl))
    have G5 := G5.other W16 (Or.inr (slot_ne (Or.inl (hw _ (List.mem_of_getElem? (i := 11) rfl))) (Or.inl (hw _ (List.mem_of_getElem? (i := 30) rfl))) (by decide) rfl rfl))
    have G6 := G6.other W16 (Or.inr (slot_ne (Or.inl (hw _ (List.mem_of_getElem? (i := 13) rfl))) (Or.inl (hw _ (List.mem_of_getElem? (i := 30) rfl))) (by decide) rfl rfl))
    have G7 := G7.other W16 (Or.inr (slot_ne (Or.inl (hw _ (List.mem_of_getElem? (i := 18) rfl))) (Or.inl (hw _ (List.mem_of_getElem? (i := 30) rfl))) (by decide) rfl rfl))
    have G8 := G8.other W16 (Or.inr (slot_ne (Or.inl (hw _ (List.mem_of_getElem? (i := 20) rfl))) (Or.inl (hw _ (List.mem_of_getElem? (i := 30) rfl))) (by decide) rfl rfl))
    have G9 := G9.other W16 (Or.inr (slot_ne (Or.inl (hw _ (List.mem_of_getElem? (i := 16) rfl))) (Or.inl (hw _ (List.mem_of_getElem? (i := 30) rfl))) (by decide) rfl rfl))
    have G10 := G10.same W16
    have Ad1 := Ad1.other W16 (Ne.symm ne_bu_ad1)
    have Ad2 := Ad2.other W16 (Ne.symm ne_bu_ad2)
    have Ad3 := Ad3.other W16 (Ne.symm ne_bu_ad3)
    have Ad4 := Ad4.other W16 (Ne.symm ne_bu_ad4)
    have Ad5 := Ad5.other W16 (Ne.symm ne_bu_ad5)
    have Ad6 := Ad6.other W16 (Ne.symm ne_bu_rb)
    have XR := XR.wr W16
    have Z16 : n0 ≤ h16.size := by rw [W16.size]; exact Z12
    have N16 := Fr.snoc X16 N12 z_bu
    have P16 := P12.wr W16 (Or.inl (List.mem_of_getElem? (i := 0) rfl))
    refine g_aloadN C X16 (pc' := 117) d4_116 rfl rfl rfl ?_
    refine g_getF C X16 (host := "") (Or.inl (hw _ (List.mem_of_getElem? (i := 23) rfl))) Via.refl e16 G1 d4_117 rfl ?_
    intro T17 X17 e17
    refine g_iloadN C X17 (pc' := 121) d4_120 rfl rfl ?_
    refine g_isub C X17 (pc' := 122) d4_121 rfl ?_
    exact g_ireturn C X17 d4_122 ⟨⟨_, rfl⟩, N16, SKeep.of (by rw [e17]; exact P16) (alc z_bu (alc z_ad1 al0)) (alc XB0.nostat (alc Ad10.nostat al0)), CKeep.of (by rw [e17]; exact P16) (fun EL vm al => (sfS (Safe.exa al XB0 (by decide) (by decide)) (sfS (Safe.arv al Ad10 (by decide)) sf0))), zz, by omega, ⟨rb, ad1, ad2, ad3, ad4, ad5, kb, kd1, kd2, kd3, kd4, kd5, by rw [e17]; exact XB, by rw [e17]; exact G0, by rw [e17]; exact G1, by rw [e17]; exact G2, by rw [e17]; exact G3, by rw [e17]; exact G4, by rw [e17]; exact G5, by rw [e17]; exact G6, by rw [e17]; exact G7, by rw [e17]; exact G8, by rw [e17]; exact G9, by rw [e17]; exact G10, by rw [e17]; exact Ad1, by rw [e17]; exact Ad2, by rw [e17]; exact Ad3, by rw [e17]; exact Ad4, by rw [e17]; exact Ad5, by rw [e17]; exact Ad6, by rw [e17]; exact XR, ne_bu_rb, ne_bu_ad1, ne_bu_ad2, ne_bu_ad3, ne_bu_ad4, ne_bu_ad5, ne_rb_ad1, ne_rb_ad2, ne_rb_ad3, ne_rb_ad4, ne_rb_ad5, ne_ad1_ad2, ne_ad1_ad3, ne_ad1_ad4, ne_ad1_ad5, z_bu, z_rb, z_ad1⟩⟩ (by decide) (by decide)
  · have ne_ad1_b : ad1 ≠ b := Nat.ne_of_lt (Nat.lt_of_lt_of_le Ad1.lt y9_b)
    have ne_ad2_b : ad2 ≠ b := Nat.ne_of_lt (Nat.lt_of_lt_of_le Ad2.lt y9_b)
    have ne_ad3_b : ad3 ≠ b := Nat.ne_of_lt (Nat.lt_of_lt_of_le Ad3.lt y9_b)
    have ne_ad4_b : ad4 ≠ b := Nat.ne_of_lt (Nat.lt_of_lt_of_le Ad4.lt y9_b)
    have ne_ad5_b : ad5 ≠ b := Nat.ne_of_lt (Nat.lt_of_lt_of_le Ad5.lt y9_b)
    have ne_bu_b : bu ≠ b := Nat.ne_of_lt (Nat.lt_of_lt_of_le XB.lt y9_b)
    have ne_rb_b : rb ≠ b := Nat.ne_of_lt (Nat.lt_of_lt_of_le Ad6.lt y9_b)
    have z_b : n0 ≤ b := Nat.le_trans Z12 y9_b
    have y_b : h.size ≤ b := Nat.le_trans P12.1 y9_b
    have z_b : n0 ≤ b := Nat.le_trans Z12 y9_b
    have y_b : h.size ≤ b := Nat.le_trans P12.1 y9_b
    have XB := XB.keep K15
    have G0 := G0.keep K15 nin0
    have G1 := G1.keep K15 nin0
    have G2 := G2.keep K15 nin0
    have G3 := G3.keep K15 nin0
    have G4 := G4.keep K15 nin0
    have G5 := G5.keep K15 nin0
    have G6 := G6.keep K15 nin0
    have G7 := G7.keep K15 nin0
    have G8 := G8.keep K15 nin0
    have G9 := G9.keep K15 nin0
    have G10 := G10.keep K15 nin0
    have Ad1 := Ad1.keep K15 nin0
    have Ad2 := Ad2.keep K15 nin0
    have Ad3 := Ad3.keep K15 nin0
    have Ad4 := Ad4.keep K15 nin0
    have Ad5 := Ad5.keep K15 nin0
    have Ad6 := Ad6.keep K15 nin0
    have XR := XR.keep K15
    have Z15 : n0 ≤ T15.heap.size := Nat.le_trans Z12 K15.1
    have P15 := P12.trans K15 al0
    have N15 := Fr.app N12 M15
    obtain ⟨h15, e15⟩ : ∃ z, T15.heap = z := ⟨_, rfl⟩
    rw [e15] at XB G0 G1 G2 G3 G4 G5 G6 G7 G8 G9 G10 Ad1 Ad2 Ad3 Ad4 Ad5 Ad6 XR Ab Xb Z15 P15
    show Go p.tables e below _ T15 (mkF m 113 #[.val (.ref bu), .val (.int len)] [(.ref b), (.ref bu)])
    refine g_putF C X15 (host := "") (Or.inl (hw _ (List.mem_of_getElem? (i := 29) rfl))) Via.refl e15 G10 XB (Or.inl (hw _ (List.mem_of_getElem? (i := 30) rfl))) (hw _ (List.mem_of_getElem? (i := 1) rfl)) (ty := (.array .double)) (by decide) rfl rfl d4_113 rfl ?_
    intro T18 h18 X18 e18 W18
    have XB := XB.wr W18
    have G0 := G0.other W18 (Or.inr (slot_ne (Or.inr (hw _ (List.mem_of_getElem? (i := 22) rfl))) (Or.inl (hw _ (List.mem_of_getElem? (i := 30) rfl))) (by decide) rfl rfl))
    have G1 := G1.other W18 (Or.inr (slot_ne (Or.inl (hw _ (List.mem_of_getElem? (i := 24) rfl))) (Or.inl (hw _ (List.mem_of_getElem? (i := 30) rfl))) (by decide) rfl rfl))
    have G2 := G2.other W18 (Or.inr (slot_ne (Or.inl (hw _ (List.mem_of_getElem? (i := 39) rfl))) (Or.inl (hw _ (List.mem_of_getElem? (i := 30) rfl))) (by decide) rfl rfl))
    have G3 := G3.other W18 (Or.inr (slot_ne (Or.inl (hw _ (List.mem_of_getElem? (i := 37) rfl))) (Or.inl (hw _ (List.mem_of_getElem? (i := 30) rfl))) (by decide) rfl rfl))
    have G4 := G4.other W18 (Or.inr (slot_ne (Or.inl (hw _ (List.mem_of_getElem? (i := 104) rfl))) (Or.inl (hw _ (List.mem_of_getElem? (i := 30) rfl))) (by decide) rfl rfl))
    have G5 := G5.other W18 (Or.inr (slot_ne (Or.inl (hw _ (List.mem_of_getElem? (i := 11) rfl))) (Or.inl (hw _ (List.mem_of_getElem? (i := 30) rfl))) (by decide) rfl rfl))
    have G6 := G6.other W18 (Or.inr (slot_ne (Or.inl (hw _ (List.mem_of_getElem? (i := 13) rfl))) (Or.inl (hw _ (List.mem_of_getElem? (i := 30) rfl))) (by decide) rfl rfl))
    have G7 := G7.other W18 (Or.inr (slot_ne (Or.inl (hw _ (List.mem_of_getElem? (i := 18) rfl))) (Or.inl (hw _ (List.mem_of_getElem? (i := 30) rfl))) (by decide) rfl rfl))
    have G8 := G8.other W18 (Or.inr (slot_ne (Or.inl (hw _ (List.mem_of_getElem? (i := 20) rfl))) (Or.inl (hw _ (List.mem_of_getElem? (i := 30) rfl))) (by decide) rfl rfl))
    have G9 := G9.other W18 (Or.inr (slot_ne (Or.inl (hw _ (List.mem_of_getElem? (i := 16) rfl))) (Or.inl (hw _ (List.mem_of_getElem? (i := 30) rfl))) (by decide) rfl rfl))
    have G10 := G10.same W18
    have Ad1 := Ad1.other W18 (Ne.symm ne_bu_ad1)
    have Ad2 := Ad2.other W18 (Ne.symm ne_bu_ad2)
    have Ad3 := Ad3.other W18 (Ne.symm ne_bu_ad3)
    have Ad4 := Ad4.other W18 (Ne.symm ne_bu_ad4)
    have Ad5 := Ad5.other W18 (Ne.symm ne_bu_ad5)
    have Ad6 := Ad6.other W18 (Ne.symm ne_bu_rb)
    have XR := XR.wr W18
    have Ab := Ab.other W18 (Ne.symm ne_bu_b)
    have Xb := Xb.wr W18
    have Z18 : n0 ≤ h18.size := by rw [W18.size]; exact Z15
    have N18 := Fr.snoc X18 N15 z_bu
    have P18 := P15.wr W18 (Or.inl (List.mem_of_getElem? (i := 0) rfl))
    refine g_aloadN C X18 (pc' := 117) d4_116 rfl rfl rfl ?_
    refine g_getF C X18 (host := "") (Or.inl (hw _ (List.mem_of_getElem? (i := 23) rfl))) Via.refl e18 G1 d4_117 rfl ?_
    intro T19 X19 e19
    refine g_iloadN C X19 (pc' := 121) d4_120 rfl rfl ?_
    refine g_isub C X19 (pc' := 122) d4_121 rfl ?_
    exact g_ireturn C X19 d4_122 ⟨⟨_, rfl⟩, N18, SKeep.of (by rw [e19]; exact P18) (alc z_bu (alc z_ad1 al0)) (alc XB0.nostat (alc Ad10.nostat al0)), CKeep.of (by rw [e19]; exact P18) (fun EL vm al => (sfS (Safe.exa al XB0 (by decide) (by decide)) (sfS (Safe.arv al Ad10 (by decide)) sf0))), n2, by omega, ⟨b, ad1, ad2, ad3, ad4, ad5, kb2, kd1, kd2, kd3, kd4, kd5, by rw [e19]; exact XB, by rw [e19]; exact G0, by rw [e19]; exact G1, by rw [e19]; exact G2, by rw [e19]; exact G3, by rw [e19]; exact G4, by rw [e19]; exact G5, by rw [e19]; exact G6, by rw [e19]; exact G7, by rw [e19]; exact G8, by rw [e19]; exact G9, by rw [e19]; exact G10, by rw [e19]; exact Ad1, by rw [e19]; exact Ad2, by rw [e19]; exact Ad3, by rw [e19]; exact Ad4, by rw [e19]; exact Ad5, by rw [e19]; exact Ab, by rw [e19]; exact Xb, ne_bu_b, ne_bu_ad1, ne_bu_ad2, ne_bu_ad3, ne_bu_ad4, ne_bu_ad5, (Ne.symm ne_ad1_b), (Ne.symm ne_ad2_b), (Ne.symm ne_ad3_b), (Ne.symm ne_ad4_b), (Ne.symm ne_ad5_b), ne_ad1_ad2, ne_ad1_ad3, ne_ad1_ad4, ne_ad1_ad5, z_bu, z_b, z_ad1⟩⟩ (by decide) (by decide)
theorem d7_0 : decode prog_4_method_3_code 0 = .ok (.iload_n 1, 1) := by decide +kernel
theorem d7_1 : decode prog_4_method_3_code 1 = .ok (.aload_n 0, 1) := by decide +kernel
theorem d7_2 : decode prog_4_method_3_code 2 = .ok (.getfield 30, 3) := by decide +kernel
theorem d7_5 : decode prog_4_method_3_code 5 = .ok (.invokestatic 83, 3) := by decide +kernel
theorem d7_8 : decode prog_4_method_3_code 8 = .ok (.pop, 1) := by decide +kernel
theorem d7_9 : decode prog_4_method_3_code 9 = .ok (.aload_n 0, 1) := by decide +kernel
theorem d7_10 : decode prog_4_method_3_code 10 = .ok (.getfield 39, 3) := by decide +kernel
theorem d7_13 : decode prog_4_method_3_code 13 = .ok (.iload_n 1, 1) := by decide +kernel
theorem d7_14 : decode prog_4_method_3_code 14 = .ok (.dload_n 2, 1) := by decide +kernel
theorem d7_15 : decode prog_4_method_3_code 15 = .ok (.dastore, 1) := by decide +kernel
theorem d7_16 : decode prog_4_method_3_code 16 = .ok (.return_, 1) := by decide +kernel
theorem kk_27 : plainFor (⟨"com/example/fleetloom/fleetloom/ChainedProgramme$Builder", "rhs", "(ID)V"⟩ : MethodName) = true := by decide +kernel
theorem kk_28 (m : MethodId) (x0 : Addr) (x1 : Int32) (x2 : UInt64) : entryFrame m #[(.ref x0), (.int x1), (.double x2)] 4 = mkF m 0 #[.val (.ref x0), .val (.int x1), .val (.double x2), .second] [] := by first | (simp [entryFrame, mkF, argsToLocals, Value.category]; done) | rfl
set_option maxRecDepth 65536 in
set_option maxHeartbeats 40000000 in
theorem c_rhs (l : Launch) (Z : State) (a0 : Array Value) (hw : ∀ d ∈ tables_1, d.before a0 Z = true) (h : Heap) (n0 : Nat) (Z0 : n0 ≤ h.size) (bu : Addr) (dense rows ch : Int32) (cl : List Value) (zz : Int32) (Lq : List Value) (i : Int32) (v : UInt64) (nq : Nat) (hi : 0 ≤ i.toInt ∧ i.toInt < rows.toInt) (hrz : rows.toInt ≤ zz.toInt) (hq : i.toNatClampNeg < Lq.length + nq) (B : BS Z h n0 bu dense rows ch cl zz Lq) :
    Con l Z (⟨"com/example/fleetloom/fleetloom/ChainedProgramme$Builder", "rhs", "(ID)V"⟩ : MethodName) prog_4_method_3_code 4 none ⟨2, 0, 0, 40⟩ #[(.ref bu), (.int i), (.double v)] h (fun vr h' L => vr = none ∧ Fr n0 L ∧ SKeep Z n0 h h' ∧ CKeep Z h h' ∧ BS Z h' n0 bu dense rows ch cl zz ((Lq ++ List.replicate nq (Value.double (0 : UInt64))).set i.toNatClampNeg (Value.double v))) := by
  refine con_of_goF kk_27 (fun m => kk_28 m bu i v) ?_
  intro p e s m below meth c T0 C X0 e0
  obtain ⟨rb, ad1, ad2, ad3, ad4, ad5, kb, kd1, kd2, kd3, kd4, kd5, XB, G0, G1, G2, G3, G4, G5, G6, G7, G8, G9, G10, Ad1, Ad2, Ad3, Ad4, Ad5, Ad6, XR, ne_bu_rb, ne_bu_ad1, ne_bu_ad2, ne_bu_ad3, ne_bu_ad4, ne_bu_ad5, ne_rb_ad1, ne_rb_ad2, ne_rb_ad3, ne_rb_ad4, ne_rb_ad5, ne_ad1_ad2, ne_ad1_ad3, ne_ad1_ad4, ne_ad1_ad5, z_bu, z_rb, z_ad1⟩ := B
  have Ad60 := Ad6
  refine g_iloadN C X0 (pc' := 1) d7_0 rfl rfl ?_
  refine g_aloadN C X0 (pc' := 2) d7_1 rfl rfl rfl ?_
  refine g_getF C X0 (host := "") (Or.inl (hw _ (List.mem_of_getElem? (i := 23) rfl))) Via.refl e0 G1 d7_2 rfl ?_
  intro T1 X1 e1
  refine g_callS C X1 (c_oci l Z a0 hw h n0 Z0 i rows hi.1 hi.2) (hw _ (List.mem_of_getElem? (i := 52) rfl)) (hw _ (List.mem_of_getElem? (i := 53) rfl)) (hw _ (List.mem_of_getElem? (i := 54) rfl)) (hw _ (List.mem_of_getElem? (i := 55) rfl)) (by decide) e1 d7_5 rfl kk_12 [(.int i), (.int rows)] [] rfl rfl rfl 0 rfl (by decide) (by decide) (by decide) (by decide) rfl ?_
  rintro _ T2 _ X2 ⟨rfl, rfl, e2⟩
  rw [List.append_nil] at X2
  show Go p.tables e below _ T2 (mkF m 8 #[.val (.ref bu), .val (.int i), .val (.double v), .second] [(.int i)])
  refine g_pop C X2 (pc' := 9) d7_8 rfl rfl ?_
  refine g_aloadN C X2 (pc' := 10) d7_9 rfl rfl rfl ?_
  refine g_getF C X2 (host := "") (Or.inl (hw _ (List.mem_of_getElem? (i := 29) rfl))) Via.refl e2 G10 d7_10 rfl ?_
  intro T3 X3 e3
  refine g_iloadN C X3 (pc' := 14) d7_13 rfl rfl ?_
  refine g_dloadN C X3 (pc' := 15) d7_14 rfl rfl ?_
  refine g_dastore C X3 (pc' := 16) e3 Ad6 hi.1 (by omega) i.toNatClampNeg nq rfl hq d7_15 rfl ?_
  intro T9 h9 X9 e9 W9 Aq
  have XB := XB.wr W9
  have G0 := G0.other W9 (Or.inl ne_bu_rb)
  have G1 := G1.other W9 (Or.inl ne_bu_rb)
  have G2 := G2.other W9 (Or.inl ne_bu_rb)
  have G3 := G3.other W9 (Or.inl ne_bu_rb)
  have G4 := G4.other W9 (Or.inl ne_bu_rb)
  have G5 := G5.other W9 (Or.inl ne_bu_rb)
  have G6 := G6.other W9 (Or.inl ne_bu_rb)
  have G7 := G7.other W9 (Or.inl ne_bu_rb)
  have G8 := G8.other W9 (Or.inl ne_bu_rb)
  have G9 := G9.other W9 (Or.inl ne_bu_rb)
  have G10 := G10.other W9 (Or.inl ne_bu_rb)
  have Ad1 := Ad1.other W9 (Ne.symm ne_rb_ad1)
  have Ad2 := Ad2.other W9 (Ne.symm ne_rb_ad2)
  have Ad3 := Ad3.other W9 (Ne.symm ne_rb_ad3)
  have Ad4 := Ad4.other W9 (Ne.symm ne_rb_ad4)
  have Ad5 := Ad5.other W9 (Ne.symm ne_rb_ad5)
  have XR := XR.wr W9
  have Z9 : n0 ≤ h9.size := by rw [W9.size]; exact Z0
  have N9 := Fr.snoc X9 (Fr.nil n0) z_rb
  have P9 := (Keep.refl h [rb]).wr W9 (Or.inl (List.mem_of_getElem? (i := 0) rfl))
  exact g_return C X9 d7_16 ⟨rfl, N9, SKeep.of (by rw [e9]; exact P9) (alc z_rb al0) (alc Ad60.nostat al0), CKeep.of (by rw [e9]; exact P9) (fun EL vm al => (sfS (Safe.arv al Ad60 (by decide)) sf0)), ⟨rb, ad1, ad2, ad3, ad4, ad5, kb, kd1, kd2, kd3, kd4, kd5, by rw [e9]; exact XB, by rw [e9]; exact G0, by rw [e9]; exact G1, by rw [e9]; exact G2, by rw [e9]; exact G3, by rw [e9]; exact G4, by rw [e9]; exact G5, by rw [e9]; exact G6, by rw [e9]; exact G7, by rw [e9]; exact G8, by rw [e9]; exact G9, by rw [e9]; exact G10, by rw [e9]; exact Ad1, by rw [e9]; exact Ad2, by rw [e9]; exact Ad3, by rw [e9]; exact Ad4, by rw [e9]; exact Ad5, by rw [e9]; exact Aq, by rw [e9]; exact XR, ne_bu_rb, ne_bu_ad1, ne_bu_ad2, ne_bu_ad3, ne_bu_ad4, ne_bu_ad5, ne_rb_ad1, ne_rb_ad2, ne_rb_ad3, ne_rb_ad4, ne_rb_ad5, ne_ad1_ad2, ne_ad1_ad3, ne_ad1_ad4, ne_ad1_ad5, z_bu, z_rb, z_ad1⟩⟩ (by decide) (by decide)
theorem d11_0 : decode prog_3_method_1_code 0 = .ok (.aload_n 0, 1) := by decide +kernel
theorem d11_1 : decode prog_3_method_1_code 1 = .ok (.invokespecial 1, 3) := by decide +kernel
theorem d11_4 : decode prog_3_method_1_code 4 = .ok (.aload_n 0, 1) := by decide +kernel
theorem d11_5 : decode prog_3_method_1_code 5 = .ok (.aload_n 1, 1) := by decide +kernel
theorem d11_6 : decode prog_3_method_1_code 6 = .ok (.getfield 7, 3) := by decide +kernel
theorem d11_9 : decode prog_3_method_1_code 9 = .ok (.putfield 13, 3) := by decide +kernel
theorem d11_12 : decode prog_3_method_1_code 12 = .ok (.aload_n 0, 1) := by decide +kernel
theorem d11_13 : decode prog_3_method_1_code 13 = .ok (.aload_n 1, 1) := by decide +kernel
theorem d11_14 : decode prog_3_method_1_code 14 = .ok (.getfield 16, 3) := by decide +kernel
theorem d11_17 : decode prog_3_method_1_code 17 = .ok (.aload_n 1, 1) := by decide +kernel
theorem d11_18 : decode prog_3_method_1_code 18 = .ok (.getfield 20, 3) := by decide +kernel
theorem d11_21 : decode prog_3_method_1_code 21 = .ok (.iconst 1, 1) := by decide +kernel
theorem d11_22 : decode prog_3_method_1_code 22 = .ok (.iadd, 1) := by decide +kernel
theorem d11_23 : decode prog_3_method_1_code 23 = .ok (.invokestatic 23, 3) := by decide +kernel
theorem d11_26 : decode prog_3_method_1_code 26 = .ok (.putfield 29, 3) := by decide +kernel
theorem d11_29 : decode prog_3_method_1_code 29 = .ok (.aload_n 0, 1) := by decide +kernel
theorem d11_30 : decode prog_3_method_1_code 30 = .ok (.getfield 29, 3) := by decide +kernel
theorem d11_33 : decode prog_3_method_1_code 33 = .ok (.aload_n 1, 1) := by decide +kernel
theorem d11_34 : decode prog_3_method_1_code 34 = .ok (.getfield 20, 3) := by decide +kernel
theorem d11_37 : decode prog_3_method_1_code 37 = .ok (.aload_n 1, 1) := by decide +kernel
theorem d11_38 : decode prog_3_method_1_code 38 = .ok (.getfield 30, 3) := by decide +kernel
theorem d11_41 : decode prog_3_method_1_code 41 = .ok (.iastore, 1) := by decide +kernel
theorem d11_42 : decode prog_3_method_1_code 42 = .ok (.aload_n 0, 1) := by decide +kernel
theorem d11_43 : decode prog_3_method_1_code 43 = .ok (.aload_n 1, 1) := by decide +kernel
theorem d11_44 : decode prog_3_method_1_code 44 = .ok (.getfield 30, 3) := by decide +kernel
theorem d11_47 : decode prog_3_method_1_code 47 = .ok (.newarray .int, 2) := by decide +kernel
theorem d11_49 : decode prog_3_method_1_code 49 = .ok (.putfield 33, 3) := by decide +kernel
theorem d11_52 : decode prog_3_method_1_code 52 = .ok (.aload_n 0, 1) := by decide +kernel
theorem d11_53 : decode prog_3_method_1_code 53 = .ok (.getfield 33, 3) := by decide +kernel
theorem d11_56 : decode prog_3_method_1_code 56 = .ok (.iconst 0, 1) := by decide +kernel
theorem d11_57 : decode prog_3_method_1_code 57 = .ok (.aload_n 0, 1) := by decide +kernel
theorem d11_58 : decode prog_3_method_1_code 58 = .ok (.getfield 13, 3) := by decide +kernel
theorem d11_61 : decode prog_3_method_1_code 61 = .ok (.iconst (-1), 1) := by decide +kernel
theorem d11_62 : decode prog_3_method_1_code 62 = .ok (.invokestatic 36, 3) := by decide +kernel
theorem d11_65 : decode prog_3_method_1_code 65 = .ok (.iconst 0, 1) := by decide +kernel
theorem d11_66 : decode prog_3_method_1_code 66 = .ok (.istore_n 2, 1) := by decide +kernel
theorem d11_67 : decode prog_3_method_1_code 67 = .ok (.iload_n 2, 1) := by decide +kernel
theorem d11_68 : decode prog_3_method_1_code 68 = .ok (.aload_n 1, 1) := by decide +kernel
theorem d11_69 : decode prog_3_method_1_code 69 = .ok (.getfield 20, 3) := by decide +kernel
theorem d11_72 : decode prog_3_method_1_code 72 = .ok (.if_icmp .ge 31, 3) := by decide +kernel
theorem d11_75 : decode prog_3_method_1_code 75 = .ok (.aload_n 0, 1) := by decide +kernel
theorem d11_76 : decode prog_3_method_1_code 76 = .ok (.getfield 33, 3) := by decide +kernel
theorem d11_79 : decode prog_3_method_1_code 79 = .ok (.aload_n 0, 1) := by decide +kernel
theorem d11_80 : decode prog_3_method_1_code 80 = .ok (.getfield 29, 3) := by decide +kernel
theorem d11_83 : decode prog_3_method_1_code 83 = .ok (.iload_n 2, 1) := by decide +kernel
theorem d11_84 : decode prog_3_method_1_code 84 = .ok (.iaload, 1) := by decide +kernel
theorem d11_85 : decode prog_3_method_1_code 85 = .ok (.aload_n 0, 1) := by decide +kernel
theorem d11_86 : decode prog_3_method_1_code 86 = .ok (.getfield 29, 3) := by decide +kernel
theorem d11_89 : decode prog_3_method_1_code 89 = .ok (.iload_n 2, 1) := by decide +kernel
theorem d11_90 : decode prog_3_method_1_code 90 = .ok (.iconst 1, 1) := by decide +kernel
theorem d11_91 : decode prog_3_method_1_code 91 = .ok (.iadd, 1) := by decide +kernel
theorem d11_92 : decode prog_3_method_1_code 92 = .ok (.iaload, 1) := by decide +kernel
theorem d11_93 : decode prog_3_method_1_code 93 = .ok (.iload_n 2, 1) := by decide +kernel
theorem d11_94 : decode prog_3_method_1_code 94 = .ok (.invokestatic 36, 3) := by decide +kernel
theorem d11_97 : decode prog_3_method_1_code 97 = .ok (.iinc 2 1, 3) := by decide +kernel
theorem d11_100 : decode prog_3_method_1_code 100 = .ok (.goto (-33), 3) := by decide +kernel
theorem d11_103 : decode prog_3_method_1_code 103 = .ok (.aload_n 0, 1) := by decide +kernel
theorem d11_104 : decode prog_3_method_1_code 104 = .ok (.aload_n 1, 1) := by decide +kernel
theorem d11_105 : decode prog_3_method_1_code 105 = .ok (.getfield 40, 3) := by decide +kernel
theorem d11_108 : decode prog_3_method_1_code 108 = .ok (.aload_n 1, 1) := by decide +kernel
theorem d11_109 : decode prog_3_method_1_code 109 = .ok (.getfield 43, 3) := by decide +kernel
theorem d11_112 : decode prog_3_method_1_code 112 = .ok (.iconst 1, 1) := by decide +kernel
theorem d11_113 : decode prog_3_method_1_code 113 = .ok (.iadd, 1) := by decide +kernel
theorem d11_114 : decode prog_3_method_1_code 114 = .ok (.invokestatic 23, 3) := by decide +kernel
theorem d11_117 : decode prog_3_method_1_code 117 = .ok (.putfield 46, 3) := by decide +kernel
theorem d11_120 : decode prog_3_method_1_code 120 = .ok (.aload_n 0, 1) := by decide +kernel
theorem d11_121 : decode prog_3_method_1_code 121 = .ok (.getfield 46, 3) := by decide +kernel
theorem d11_124 : decode prog_3_method_1_code 124 = .ok (.aload_n 1, 1) := by decide +kernel
theorem d11_125 : decode prog_3_method_1_code 125 = .ok (.getfield 43, 3) := by decide +kernel
theorem d11_128 : decode prog_3_method_1_code 128 = .ok (.aload_n 1, 1) := by decide +kernel
theorem d11_129 : decode prog_3_method_1_code 129 = .ok (.getfield 47, 3) := by decide +kernel
theorem d11_132 : decode prog_3_method_1_code 132 = .ok (.iastore, 1) := by decide +kernel
theorem d11_133 : decode prog_3_method_1_code 133 = .ok (.aload_n 0, 1) := by decide +kernel
theorem d11_134 : decode prog_3_method_1_code 134 = .ok (.aload_n 1, 1) := by decide +kernel
theorem d11_135 : decode prog_3_method_1_code 135 = .ok (.getfield 50, 3) := by decide +kernel
theorem d11_138 : decode prog_3_method_1_code 138 = .ok (.aload_n 1, 1) := by decide +kernel
theorem d11_139 : decode prog_3_method_1_code 139 = .ok (.getfield 47, 3) := by decide +kernel
theorem d11_142 : decode prog_3_method_1_code 142 = .ok (.invokestatic 23, 3) := by decide +kernel
theorem d11_145 : decode prog_3_method_1_code 145 = .ok (.putfield 53, 3) := by decide +kernel
theorem d11_148 : decode prog_3_method_1_code 148 = .ok (.aload_n 0, 1) := by decide +kernel
theorem d11_149 : decode prog_3_method_1_code 149 = .ok (.aload_n 1, 1) := by decide +kernel
theorem d11_150 : decode prog_3_method_1_code 150 = .ok (.getfield 54, 3) := by decide +kernel
theorem d11_153 : decode prog_3_method_1_code 153 = .ok (.aload_n 1, 1) := by decide +kernel
theorem d11_154 : decode prog_3_method_1_code 154 = .ok (.getfield 47, 3) := by decide +kernel
theorem d11_157 : decode prog_3_method_1_code 157 = .ok (.invokestatic 58, 3) := by decide +kernel
theorem d11_160 : decode prog_3_method_1_code 160 = .ok (.putfield 61, 3) := by decide +kernel
theorem d11_163 : decode prog_3_method_1_code 163 = .ok (.aload_n 0, 1) := by decide +kernel
theorem d11_164 : decode prog_3_method_1_code 164 = .ok (.aload_n 1, 1) := by decide +kernel
theorem d11_165 : decode prog_3_method_1_code 165 = .ok (.getfield 62, 3) := by decide +kernel
theorem d11_168 : decode prog_3_method_1_code 168 = .ok (.aload_n 1, 1) := by decide +kernel
theorem d11_169 : decode prog_3_method_1_code 169 = .ok (.getfield 43, 3) := by decide +kernel
theorem d11_172 : decode prog_3_method_1_code 172 = .ok (.invokestatic 58, 3) := by decide +kernel
theorem d11_175 : decode prog_3_method_1_code 175 = .ok (.putfield 65, 3) := by decide +kernel
theorem d11_178 : decode prog_3_method_1_code 178 = .ok (.aload_n 0, 1) := by decide +kernel
theorem d11_179 : decode prog_3_method_1_code 179 = .ok (.aload_n 1, 1) := by decide +kernel
theorem d11_180 : decode prog_3_method_1_code 180 = .ok (.getfield 66, 3) := by decide +kernel
theorem d11_183 : decode prog_3_method_1_code 183 = .ok (.aload_n 1, 1) := by decide +kernel
theorem d11_184 : decode prog_3_method_1_code 184 = .ok (.getfield 30, 3) := by decide +kernel
theorem d11_187 : decode prog_3_method_1_code 187 = .ok (.invokestatic 58, 3) := by decide +kernel
theorem d11_190 : decode prog_3_method_1_code 190 = .ok (.putfield 69, 3) := by decide +kernel
theorem d11_193 : decode prog_3_method_1_code 193 = .ok (.return_, 1) := by decide +kernel
theorem d12_0 : decode jdk_65_method_123_code 0 = .ok (.iload_n 1, 1) := by decide +kernel
theorem d12_1 : decode jdk_65_method_123_code 1 = .ok (.aload_n 0, 1) := by decide +kernel
theorem d12_2 : decode jdk_65_method_123_code 2 = .ok (.arraylength, 1) := by decide +kernel
theorem d12_3 : decode jdk_65_method_123_code 3 = .ok (.if_icmp .ne 11, 3) := by decide +kernel
theorem d12_6 : decode jdk_65_method_123_code 6 = .ok (.aload_n 0, 1) := by decide +kernel
theorem d12_7 : decode jdk_65_method_123_code 7 = .ok (.invokevirtual 316, 3) := by decide +kernel
theorem d12_10 : decode jdk_65_method_123_code 10 = .ok (.checkcast 317, 3) := by decide +kernel
theorem d12_13 : decode jdk_65_method_123_code 13 = .ok (.areturn, 1) := by decide +kernel
theorem d12_14 : decode jdk_65_method_123_code 14 = .ok (.iload_n 1, 1) := by decide +kernel
theorem d12_15 : decode jdk_65_method_123_code 15 = .ok (.newarray .int, 2) := by decide +kernel
theorem d12_17 : decode jdk_65_method_123_code 17 = .ok (.astore_n 2, 1) := by decide +kernel
theorem d12_18 : decode jdk_65_method_123_code 18 = .ok (.aload_n 0, 1) := by decide +kernel
theorem d12_19 : decode jdk_65_method_123_code 19 = .ok (.iconst 0, 1) := by decide +kernel
theorem d12_20 : decode jdk_65_method_123_code 20 = .ok (.aload_n 2, 1) := by decide +kernel
theorem d12_21 : decode jdk_65_method_123_code 21 = .ok (.iconst 0, 1) := by decide +kernel
theorem d12_22 : decode jdk_65_method_123_code 22 = .ok (.aload_n 0, 1) := by decide +kernel
theorem d12_23 : decode jdk_65_method_123_code 23 = .ok (.arraylength, 1) := by decide +kernel
theorem d12_24 : decode jdk_65_method_123_code 24 = .ok (.iload_n 1, 1) := by decide +kernel
theorem d12_25 : decode jdk_65_method_123_code 25 = .ok (.invokestatic 304, 3) := by decide +kernel
theorem d12_28 : decode jdk_65_method_123_code 28 = .ok (.invokestatic 150, 3) := by decide +kernel
theorem d12_31 : decode jdk_65_method_123_code 31 = .ok (.aload_n 2, 1) := by decide +kernel
theorem d12_32 : decode jdk_65_method_123_code 32 = .ok (.areturn, 1) := by decide +kernel
set_option maxRecDepth 65536 in
set_option maxHeartbeats 40000000 in
theorem k4_min (l : Launch) (Z : State) (a0 : Array Value) (hw : ∀ d ∈ tables_1, d.before a0 Z = true) (h : Heap) (n0 : Nat) (Z0 : n0 ≤ h.size) :
    Con l Z (⟨"java/lang/Math", "min", "(II)I"⟩ : MethodName) jdk_29_method_69_code 2 (some .int) ⟨0, 0, 0, 0⟩ #[(.int (16 : Int32)), (.int (1 : Int32))] h (fun v h' L => v = some (.int (1 : Int32)) ∧ L = [] ∧ h' = h) := by
  refine con_of_goF kk_11 (fun m => kk_10 m (16 : Int32) (1 : Int32)) ?_
  intro p e s m below meth c T0 C X0 e0
  refine g_iloadN C X0 (pc' := 1) d13_0 rfl rfl ?_
  refine g_iloadN C X0 (pc' := 2) d13_1 rfl rfl ?_
  refine g_icmpY C X0 d13_2 (pc' := 9) (by decide) (by decide) (by decide) ?_
  refine g_iloadN C X0 (pc' := 10) d13_9 rfl rfl ?_
  exact g_ireturn C X0 d13_10 (⟨rfl, rfl, e0⟩) (by decide) (by decide)
theorem kk_29 (m : MethodId) (x0 : Addr) (x1 : Int32) : entryFrame m #[(.ref x0), (.int x1)] 3 = mkF m 0 #[.val (.ref x0), .val (.int x1), .unset] [] := by first | (simp [entryFrame, mkF, argsToLocals, Value.category]; done) | rfl
theorem kk_30 : plainFor (⟨"java/util/Arrays", "copyOf", "([II)[I"⟩ : MethodName) = true := by decide +kernel
set_option maxRecDepth 65536 in
set_option maxHeartbeats 40000000 in
theorem k5_copyOf (l : Launch) (Z : State) (a0 : Array Value) (hw : ∀ d ∈ tables_1, d.before a0 Z = true) (h : Heap) (n0 : Nat) (Z0 : n0 ≤ h.size) (qa1 : Addr) (qk1 : ClassId) (H1 : Arv Z h qa1 qk1 .int (16 : Int32) [] (.int (0 : Int32))) :
    Con l Z (⟨"java/util/Arrays", "copyOf", "([II)[I"⟩ : MethodName) jdk_65_method_123_code 3 (some (.array .int)) ⟨1, 1, 1, 32⟩ #[(.ref qa1), (.int (1 : Int32))] h (fun v h' L => ∃ (uf1 : Addr) (uk2 : ClassId), v = some (.ref uf1) ∧ Fr n0 L ∧ Keep h h' [] ∧ h.size ≤ uf1 ∧ Exa Z h' uf1 "[I" ∧ Arv Z h' uf1 uk2 .int (1 : Int32) [(.int (0 : Int32))] (.int (0 : Int32))) := by
  refine con_of_goF kk_30 (fun m => kk_29 m qa1 (1 : Int32)) ?_
  intro p e s m below meth c T0 C X0 e0
  refine g_iloadN C X0 (pc' := 1) d12_0 rfl rfl ?_
  refine g_aloadN C X0 (pc' := 2) d12_1 rfl rfl rfl ?_
  refine g_len C X0 (pc' := 3) e0 H1 d12_2 rfl ?_
  refine g_icmpY C X0 d12_3 (pc' := 14) (by decide) (by decide) (by decide) ?_
  refine g_iloadN C X0 (pc' := 15) d12_14 rfl rfl ?_
  refine g_newPE C X0 (aty := .int) (ad := "[I") (by decide) (hw _ (List.mem_of_getElem? (i := 9) rfl)) e0 d12_15 (by decide) 1 (by decide) (by decide) (by decide) (by decide) rfl ?_
  intro T1 h1 a1 k1 g1 X1 e1 E1 A1 B1
  have ne_qa1_a1 : qa1 ≠ a1 := Nat.ne_of_lt (by rw [g1]; exact H1.lt)
  have z_a1 : n0 ≤ a1 := by rw [g1]; exact Z0
  have y_a1 : h.size ≤ a1 := by rw [g1]; exact (Keep.refl h []).1
  have H1 := H1.ext E1
  have P1 := (Keep.refl h []).ext E1
  have Z1 : n0 ≤ h1.size := Nat.le_trans Z0 E1.1
  have A1 : Arv Z h1 a1 k1 .int (1 : Int32) [] (.int (0 : Int32)) := A1
  refine g_astoreN C X1 (pc' := 18) d12_17 rfl (l' := #[.val (.ref qa1), .val (.int (1 : Int32)), .val (.ref a1)]) rfl rfl ?_
  refine g_aloadN C X1 (pc' := 19) d12_18 rfl rfl rfl ?_
  refine g_iconst C X1 (pc' := 20) d12_19 (v := (0 : Int32)) (by decide) rfl ?_
  refine g_aloadN C X1 (pc' := 21) d12_20 rfl rfl rfl ?_
  refine g_iconst C X1 (pc' := 22) d12_21 (v := (0 : Int32)) (by decide) rfl ?_
  refine g_aloadN C X1 (pc' := 23) d12_22 rfl rfl rfl ?_
  refine g_len C X1 (pc' := 24) e1 H1 d12_23 rfl ?_
  refine g_iloadN C X1 (pc' := 25) d12_24 rfl rfl ?_
  refine g_callS C X1 (k4_min l Z a0 hw h1 n0 Z1      ) (hw _ (List.mem_of_getElem? (i := 81) rfl)) (hw _ (List.mem_of_getElem? (i := 82) rfl)) (hw _ (List.mem_of_getElem? (i := 27) rfl)) (hw _ (List.mem_of_getElem? (i := 83) rfl)) (by decide) e1 d12_25 rfl kk_12 [(.int (16 : Int32)), (.int (1 : Int32))] [(.int (0 : Int32)), (.ref a1), (.int (0 : Int32)), (.ref qa1)] rfl rfl rfl 4 rfl (by decide) (by decide) (by decide) (by decide) rfl ?_
  rintro _ T2 _ X2 ⟨rfl, rfl, e2⟩
  rw [List.append_nil] at X2
  show Go p.tables e below _ T2 (mkF m 28 #[.val (.ref qa1), .val (.int (1 : Int32)), .val (.ref a1)] [(.int (1 : Int32)), (.int (0 : Int32)), (.ref a1), (.int (0 : Int32)), (.ref qa1)])
  have A1 : Arv Z h1 a1 k1 .int (1 : Int32) [(.int (0 : Int32))] (.int (0 : Int32)) := Arv.pad A1 (pad_rep [] (.int (0 : Int32)) 1)
  refine g_acopy C X2 (hw _ (List.mem_of_getElem? (i := 84) rfl)) (hw _ (List.mem_of_getElem? (i := 87) rfl)) (hw _ (List.mem_of_getElem? (i := 85) rfl)) (hw _ (List.mem_of_getElem? (i := 86) rfl)) e2 H1 A1 rfl (by decide) (by decide) (by decide) (by decide) (by decide) [(.int (0 : Int32))] rfl (by decide) (Fr.nil n0) z_a1 d12_28 rfl 0 rfl (by decide) (by decide) rfl ?_
  intro T3 h3 L3 X3 e3 N3 K3 Aq
  have NS3 := A1.nostat
  have H1 := H1.keep K3 (ninS ne_qa1_a1 nin0)
  have B1 := B1.keep K3
  have Z3 : n0 ≤ h3.size := Nat.le_trans Z1 K3.1
  have P3 := P1.trans K3 (alc (Or.inr y_a1) al0)
  have A1 : Arv Z h3 a1 k1 .int (1 : Int32) [(.int (0 : Int32))] (.int (0 : Int32)) := Aq
  refine g_aloadN C X3 (pc' := 32) d12_31 rfl rfl rfl ?_
  exact g_areturn C X3 d12_32 rfl rfl rfl (⟨a1, k1, rfl, N3, by rw [e3]; exact P3, y_a1, by rw [e3]; exact B1, by rw [e3]; exact A1⟩) (by decide) (by decide)
theorem kk_31 : parseMethodDescriptor "([IIII)V" = some ⟨[(.array .int), .int, .int, .int], none⟩ := by decide +kernel
set_option maxRecDepth 65536 in
set_option maxHeartbeats 40000000 in
theorem k6_min (l : Launch) (Z : State) (a0 : Array Value) (hw : ∀ d ∈ tables_1, d.before a0 Z = true) (h : Heap) (n0 : Nat) (Z0 : n0 ≤ h.size) :
    Con l Z (⟨"java/lang/Math", "min", "(II)I"⟩ : MethodName) jdk_29_method_69_code 2 (some .int) ⟨0, 0, 0, 0⟩ #[(.int (16 : Int32)), (.int (0 : Int32))] h (fun v h' L => v = some (.int (0 : Int32)) ∧ L = [] ∧ h' = h) := by
  refine con_of_goF kk_11 (fun m => kk_10 m (16 : Int32) (0 : Int32)) ?_
  intro p e s m below meth c T0 C X0 e0
  refine g_iloadN C X0 (pc' := 1) d13_0 rfl rfl ?_
  refine g_iloadN C X0 (pc' := 2) d13_1 rfl rfl ?_
  refine g_icmpY C X0 d13_2 (pc' := 9) (by decide) (by decide) (by decide) ?_
  refine g_iloadN C X0 (pc' := 10) d13_9 rfl rfl ?_
  exact g_ireturn C X0 d13_10 (⟨rfl, rfl, e0⟩) (by decide) (by decide)
set_option maxRecDepth 65536 in
set_option maxHeartbeats 40000000 in
theorem k7_copyOf (l : Launch) (Z : State) (a0 : Array Value) (hw : ∀ d ∈ tables_1, d.before a0 Z = true) (h : Heap) (n0 : Nat) (Z0 : n0 ≤ h.size) (qa1 : Addr) (qk1 : ClassId) (H1 : Arv Z h qa1 qk1 .int (16 : Int32) [] (.int (0 : Int32))) :
    Con l Z (⟨"java/util/Arrays", "copyOf", "([II)[I"⟩ : MethodName) jdk_65_method_123_code 3 (some (.array .int)) ⟨1, 1, 0, 32⟩ #[(.ref qa1), (.int (0 : Int32))] h (fun v h' L => ∃ (uf1 : Addr) (uk2 : ClassId), v = some (.ref uf1) ∧ Fr n0 L ∧ Keep h h' [] ∧ h.size ≤ uf1 ∧ Exa Z h' uf1 "[I" ∧ Arv Z h' uf1 uk2 .int (0 : Int32) [] (.int (0 : Int32))) := by
  refine con_of_goF kk_30 (fun m => kk_29 m qa1 (0 : Int32)) ?_
  intro p e s m below meth c T0 C X0 e0
  refine g_iloadN C X0 (pc' := 1) d12_0 rfl rfl ?_
  refine g_aloadN C X0 (pc' := 2) d12_1 rfl rfl rfl ?_
  refine g_len C X0 (pc' := 3) e0 H1 d12_2 rfl ?_
  refine g_icmpY C X0 d12_3 (pc' := 14) (by decide) (by decide) (by decide) ?_
  refine g_iloadN C X0 (pc' := 15) d12_14 rfl rfl ?_
  refine g_newPE C X0 (aty := .int) (ad := "[I") (by decide) (hw _ (List.mem_of_getElem? (i := 9) rfl)) e0 d12_15 (by decide) 0 (by decide) (by decide) (by decide) (by decide) rfl ?_
  intro T1 h1 a1 k1 g1 X1 e1 E1 A1 B1
  have ne_qa1_a1 : qa1 ≠ a1 := Nat.ne_of_lt (by rw [g1]; exact H1.lt)
  have z_a1 : n0 ≤ a1 := by rw [g1]; exact Z0
  have y_a1 : h.size ≤ a1 := by rw [g1]; exact (Keep.refl h []).1
  have H1 := H1.ext E1
  have P1 := (Keep.refl h []).ext E1
  have Z1 : n0 ≤ h1.size := Nat.le_trans Z0 E1.1
  have A1 : Arv Z h1 a1 k1 .int (0 : Int32) [] (.int (0 : Int32)) := A1
  refine g_astoreN C X1 (pc' := 18) d12_17 rfl (l' := #[.val (.ref qa1), .val (.int (0 : Int32)), .val (.ref a1)]) rfl rfl ?_
  refine g_aloadN C X1 (pc' := 19) d12_18 rfl rfl rfl ?_
  refine g_iconst C X1 (pc' := 20) d12_19 (v := (0 : Int32)) (by decide) rfl ?_
  refine g_aloadN C X1 (pc' := 21) d12_20 rfl rfl rfl ?_
  refine g_iconst C X1 (pc' := 22) d12_21 (v := (0 : Int32)) (by decide) rfl ?_
  refine g_aloadN C X1 (pc' := 23) d12_22 rfl rfl rfl ?_
  refine g_len C X1 (pc' := 24) e1 H1 d12_23 rfl ?_
  refine g_iloadN C X1 (pc' := 25) d12_24 rfl rfl ?_
  refine g_callS C X1 (k6_min l Z a0 hw h1 n0 Z1      ) (hw _ (List.mem_of_getElem? (i := 81) rfl)) (hw _ (List.mem_of_getElem? (i := 82) rfl)) (hw _ (List.mem_of_getElem? (i := 27) rfl)) (hw _ (List.mem_of_getElem? (i := 83) rfl)) (by decide) e1 d12_25 rfl kk_12 [(.int (16 : Int32)), (.int (0 : Int32))] [(.int (0 : Int32)), (.ref a1), (.int (0 : Int32)), (.ref qa1)] rfl rfl rfl 4 rfl (by decide) (by decide) (by decide) (by decide) rfl ?_
  rintro _ T2 _ X2 ⟨rfl, rfl, e2⟩
  rw [List.append_nil] at X2
  show Go p.tables e below _ T2 (mkF m 28 #[.val (.ref qa1), .val (.int (0 : Int32)), .val (.ref a1)] [(.int (0 : Int32)), (.int (0 : Int32)), (.ref a1), (.int (0 : Int32)), (.ref qa1)])
  refine g_acopy C X2 (hw _ (List.mem_of_getElem? (i := 84) rfl)) (hw _ (List.mem_of_getElem? (i := 87) rfl)) (hw _ (List.mem_of_getElem? (i := 85) rfl)) (hw _ (List.mem_of_getElem? (i := 86) rfl)) e2 H1 A1 rfl (by decide) (by decide) (by decide) (by decide) (by decide) [] rfl (by decide) (Fr.nil n0) z_a1 d12_28 rfl 0 rfl (by decide) (by decide) rfl ?_
  intro T3 h3 L3 X3 e3 N3 K3 Aq
  have NS3 := A1.nostat
  have H1 := H1.keep K3 (ninS ne_qa1_a1 nin0)
  have B1 := B1.keep K3
  have Z3 : n0 ≤ h3.size := Nat.le_trans Z1 K3.1
  have P3 := P1.trans K3 (alc (Or.inr y_a1) al0)
  have A1 : Arv Z h3 a1 k1 .int (0 : Int32) [] (.int (0 : Int32)) := Aq
  refine g_aloadN C X3 (pc' := 32) d12_31 rfl rfl rfl ?_
  exact g_areturn C X3 d12_32 rfl rfl rfl (⟨a1, k1, rfl, N3, by rw [e3]; exact P3, y_a1, by rw [e3]; exact B1, by rw [e3]; exact A1⟩) (by decide) (by decide)
set_option maxRecDepth 65536 in
set_option maxHeartbeats 40000000 in
theorem k8_copyOf (l : Launch) (Z : State) (a0 : Array Value) (hw : ∀ d ∈ tables_1, d.before a0 Z = true) (h : Heap) (n0 : Nat) (Z0 : n0 ≤ h.size) (qa1 : Addr) (qk1 : ClassId) (H1 : Arv Z h qa1 qk1 .double (16 : Int32) [] (.double (0 : UInt64))) :
    Con l Z (⟨"java/util/Arrays", "copyOf", "([DI)[D"⟩ : MethodName) jdk_65_method_127_code 3 (some (.array .double)) ⟨1, 1, 0, 32⟩ #[(.ref qa1), (.int (0 : Int32))] h (fun v h' L => ∃ (uf1 : Addr) (uk2 : ClassId), v = some (.ref uf1) ∧ Fr n0 L ∧ Keep h h' [] ∧ h.size ≤ uf1 ∧ Exa Z h' uf1 "[D" ∧ Arv Z h' uf1 uk2 .double (0 : Int32) [] (.double (0 : UInt64))) := by
  refine con_of_goF kk_13 (fun m => kk_14 m qa1 (0 : Int32)) ?_
  intro p e s m below meth c T0 C X0 e0
  refine g_iloadN C X0 (pc' := 1) d16_0 rfl rfl ?_
  refine g_aloadN C X0 (pc' := 2) d16_1 rfl rfl rfl ?_
  refine g_len C X0 (pc' := 3) e0 H1 d16_2 rfl ?_
  refine g_icmpY C X0 d16_3 (pc' := 14) (by decide) (by decide) (by decide) ?_
  refine g_iloadN C X0 (pc' := 15) d16_14 rfl rfl ?_
  refine g_newPE C X0 (aty := .double) (ad := "[D") (by decide) (hw _ (List.mem_of_getElem? (i := 14) rfl)) e0 d16_15 (by decide) 0 (by decide) (by decide) (by decide) (by decide) rfl ?_
  intro T1 h1 a1 k1 g1 X1 e1 E1 A1 B1
  have ne_qa1_a1 : qa1 ≠ a1 := Nat.ne_of_lt (by rw [g1]; exact H1.lt)
  have z_a1 : n0 ≤ a1 := by rw [g1]; exact Z0
  have y_a1 : h.size ≤ a1 := by rw [g1]; exact (Keep.refl h []).1
  have H1 := H1.ext E1
  have P1 := (Keep.refl h []).ext E1
  have Z1 : n0 ≤ h1.size := Nat.le_trans Z0 E1.1
  have A1 : Arv Z h1 a1 k1 .double (0 : Int32) [] (.double (0 : UInt64)) := A1
  refine g_astoreN C X1 (pc' := 18) d16_17 rfl (l' := #[.val (.ref qa1), .val (.int (0 : Int32)), .val (.ref a1)]) rfl rfl ?_
  refine g_aloadN C X1 (pc' := 19) d16_18 rfl rfl rfl ?_
  refine g_iconst C X1 (pc' := 20) d16_19 (v := (0 : Int32)) (by decide) rfl ?_
  refine g_aloadN C X1 (pc' := 21) d16_20 rfl rfl rfl ?_
  refine g_iconst C X1 (pc' := 22) d16_21 (v := (0 : Int32)) (by decide) rfl ?_
  refine g_aloadN C X1 (pc' := 23) d16_22 rfl rfl rfl ?_
  refine g_len C X1 (pc' := 24) e1 H1 d16_23 rfl ?_
  refine g_iloadN C X1 (pc' := 25) d16_24 rfl rfl ?_
  refine g_callS C X1 (k6_min l Z a0 hw h1 n0 Z1      ) (hw _ (List.mem_of_getElem? (i := 81) rfl)) (hw _ (List.mem_of_getElem? (i := 82) rfl)) (hw _ (List.mem_of_getElem? (i := 27) rfl)) (hw _ (List.mem_of_getElem? (i := 83) rfl)) (by decide) e1 d16_25 rfl kk_12 [(.int (16 : Int32)), (.int (0 : Int32))] [(.int (0 : Int32)), (.ref a1), (.int (0 : Int32)), (.ref qa1)] rfl rfl rfl 4 rfl (by decide) (by decide) (by decide) (by decide) rfl ?_
  rintro _ T2 _ X2 ⟨rfl, rfl, e2⟩
  rw [List.append_nil] at X2
  show Go p.tables e below _ T2 (mkF m 28 #[.val (.ref qa1), .val (.int (0 : Int32)), .val (.ref a1)] [(.int (0 : Int32)), (.int (0 : Int32)), (.ref a1), (.int (0 : Int32)), (.ref qa1)])
  refine g_acopy C X2 (hw _ (List.mem_of_getElem? (i := 84) rfl)) (hw _ (List.mem_of_getElem? (i := 87) rfl)) (hw _ (List.mem_of_getElem? (i := 85) rfl)) (hw _ (List.mem_of_getElem? (i := 86) rfl)) e2 H1 A1 rfl (by decide) (by decide) (by decide) (by decide) (by decide) [] rfl (by decide) (Fr.nil n0) z_a1 d16_28 rfl 0 rfl (by decide) (by decide) rfl ?_
  intro T3 h3 L3 X3 e3 N3 K3 Aq
  have NS3 := A1.nostat
  have H1 := H1.keep K3 (ninS ne_qa1_a1 nin0)
  have B1 := B1.keep K3
  have Z3 : n0 ≤ h3.size := Nat.le_trans Z1 K3.1
  have P3 := P1.trans K3 (alc (Or.inr y_a1) al0)
  have A1 : Arv Z h3 a1 k1 .double (0 : Int32) [] (.double (0 : UInt64)) := Aq
  refine g_aloadN C X3 (pc' := 32) d16_31 rfl rfl rfl ?_
  exact g_areturn C X3 d16_32 rfl rfl rfl (⟨a1, k1, rfl, N3, by rw [e3]; exact P3, y_a1, by rw [e3]; exact B1, by rw [e3]; exact A1⟩) (by decide) (by decide)
theorem kk_32 : plainFor (⟨"com/example/fleetloom/fleetloom/ChainedProgramme", "<init>", "(Lcom/example/fleetloom/fleetloom/ChainedProgramme$Builder;)V"⟩ : MethodName) = true := by decide +kernel
theorem kk_33 (m : MethodId) (x0 : Addr) (x1 : Addr) : entryFrame m #[(.ref x0), (.ref x1)] 3 = mkF m 0 #[.val (.ref x0), .val (.ref x1), .unset] [] := by first | (simp [entryFrame, mkF, argsToLocals, Value.category]; done) | rfl
set_option maxRecDepth 65536 in
set_option maxHeartbeats 40000000 in
theorem c_pi0 (l : Launch) (Z : State) (a0 : Array Value) (hw : ∀ d ∈ tables_1, d.before a0 Z = true) (h : Heap) (n0 : Nat) (Z0 : n0 ≤ h.size) (pr bu : Addr) (dense rows zz : Int32) (Lq : List Value) (z_pr : n0 ≤ pr) (hd : 0 ≤ dense.toInt ∧ dense.toInt ≤ rows.toInt) (hrb : 1 ≤ rows.toInt ∧ rows.toInt ≤ 47) (hzz : 0 ≤ zz.toInt ∧ zz.toInt ≤ 94) (hLq : Lq.length ≤ zz.toNatClampNeg) (XP : Exa Z h pr "com/example/fleetloom/fleetloom/ChainedProgramme") (Pf0 : Fld Z h pr "com/example/fleetloom/fleetloom/ChainedProgramme" "denseRows" "I" (.int (0 : Int32))) (Pf1 : Fld Z h pr "com/example/fleetloom/fleetloom/ChainedProgramme" "chainStart" "[I" .null) (Pf2 : Fld Z h pr "com/example/fleetloom/fleetloom/ChainedProgramme" "rowChain" "[I" .null) (Pf3 : Fld Z h pr "com/example/fleetloom/fleetloom/ChainedProgramme" "columnStart" "[I" .null) (Pf4 : Fld Z h pr "com/example/fleetloom/fleetloom/ChainedProgramme" "entryRow" "[I" .null) (Pf5 : Fld Z h pr "com/example/fleetloom/fleetloom/ChainedProgramme" "entryValue" "[D" .null) (Pf6 : Fld Z h pr "com/example/fleetloom/fleetloom/ChainedProgramme" "cost" "[D" .null) (Pf7 : Fld Z h pr "com/example/fleetloom/fleetloom/ChainedProgramme" "rhs" "[D" .null) (ne_pr_bu : pr ≠ bu) (B : BS Z h n0 bu dense rows 0 [] zz Lq) :
    Con l Z (⟨"com/example/fleetloom/fleetloom/ChainedProgramme", "<init>", "(Lcom/example/fleetloom/fleetloom/ChainedProgramme$Builder;)V"⟩ : MethodName) prog_3_method_1_code 3 none ⟨3, 7, 150, 90⟩ #[(.ref pr), (.ref bu)] h (fun v h' L => v = none ∧ Fr n0 L ∧ Keep h h' [pr] ∧ SKeep Z n0 h h' ∧ CKeep Z h h' ∧ ∃ (bz : Addr) (kbz : ClassId), h.size ≤ bz ∧ Exa Z h' pr "com/example/fleetloom/fleetloom/ChainedProgramme" ∧ Fld Z h' pr "com/example/fleetloom/fleetloom/ChainedProgramme" "rhs" "[D" (.ref bz) ∧ Arv Z h' bz kbz .double rows Lq (.double (0 : UInt64))) := by
  refine con_of_goF kk_32 (fun m => kk_33 m pr bu) ?_
  intro p e s m below meth c T0 C X0 e0
  obtain ⟨rb, ad1, ad2, ad3, ad4, ad5, kb, kd1, kd2, kd3, kd4, kd5, XB, G0, G1, G2, G3, G4, G5, G6, G7, G8, G9, G10, Ad1, Ad2, Ad3, Ad4, Ad5, Ad6, XR, ne_bu_rb, ne_bu_ad1, ne_bu_ad2, ne_bu_ad3, ne_bu_ad4, ne_bu_ad5, ne_rb_ad1, ne_rb_ad2, ne_rb_ad3, ne_rb_ad4, ne_rb_ad5, ne_ad1_ad2, ne_ad1_ad3, ne_ad1_ad4, ne_ad1_ad5, z_bu, z_rb, z_ad1⟩ := B
  have XP0 := XP
  have ne_pr_ad1 : pr ≠ ad1 := Exa.neArv XP Ad1 (hw _ (List.mem_of_getElem? (i := 66) rfl))
  have ne_pr_ad2 : pr ≠ ad2 := Exa.neArv XP Ad2 (hw _ (List.mem_of_getElem? (i := 66) rfl))
  have ne_pr_ad3 : pr ≠ ad3 := Exa.neArv XP Ad3 (hw _ (List.mem_of_getElem? (i := 66) rfl))
  have ne_pr_ad4 : pr ≠ ad4 := Exa.neArv XP Ad4 (hw _ (List.mem_of_getElem? (i := 66) rfl))
  have ne_pr_ad5 : pr ≠ ad5 := Exa.neArv XP Ad5 (hw _ (List.mem_of_getElem? (i := 66) rfl))
  have ne_pr_rb : pr ≠ rb := Exa.neArv XP Ad6 (hw _ (List.mem_of_getElem? (i := 66) rfl))
  have ee0 : (0 : Int32).toInt = 0 := by decide
  refine g_aloadN C X0 (pc' := 1) d11_0 rfl rfl rfl ?_
  refine g_initO C X0 (hw _ (List.mem_of_getElem? (i := 71) rfl)) (hw _ (List.mem_of_getElem? (i := 7) rfl)) (hw _ (List.mem_of_getElem? (i := 8) rfl)) e0 d11_1 rfl 0 rfl (by decide) (by decide) rfl ?_
  intro T1 X1 e1
  refine g_aloadN C X1 (pc' := 5) d11_4 rfl rfl rfl ?_
  refine g_aloadN C X1 (pc' := 6) d11_5 rfl rfl rfl ?_
  refine g_getFR C X1 (pc' := 9) (hw _ (List.mem_of_getElem? (i := 72) rfl)) e1 G0 d11_6 rfl ?_
  refine g_putF C X1 (host := "") (Or.inl (hw _ (List.mem_of_getElem? (i := 73) rfl))) Via.refl e1 Pf0 XP (Or.inr ⟨(hw _ (List.mem_of_getElem? (i := 74) rfl)), rfl, rfl⟩) (hw _ (List.mem_of_getElem? (i := 66) rfl)) (ty := .int) (by decide) rfl rfl d11_9 rfl ?_
  intro T2 h2 X2 e2 W2
  have XP := XP.wr W2
  have Pf0 := Pf0.same W2
  have Pf1 := Pf1.other W2 (Or.inr (slot_ne (Or.inr (hw _ (List.mem_of_getElem? (i := 89) rfl))) (Or.inr (hw _ (List.mem_of_getElem? (i := 74) rfl))) (by decide) rfl rfl))
  have Pf2 := Pf2.other W2 (Or.inr (slot_ne (Or.inr (hw _ (List.mem_of_getElem? (i := 92) rfl))) (Or.inr (hw _ (List.mem_of_getElem? (i := 74) rfl))) (by decide) rfl rfl))
  have Pf3 := Pf3.other W2 (Or.inr (slot_ne (Or.inr (hw _ (List.mem_of_getElem? (i := 102) rfl))) (Or.inr (hw _ (List.mem_of_getElem? (i := 74) rfl))) (by decide) rfl rfl))
  have Pf4 := Pf4.other W2 (Or.inr (slot_ne (Or.inr (hw _ (List.mem_of_getElem? (i := 107) rfl))) (Or.inr (hw _ (List.mem_of_getElem? (i := 74) rfl))) (by decide) rfl rfl))
  have Pf5 := Pf5.other W2 (Or.inr (slot_ne (Or.inr (hw _ (List.mem_of_getElem? (i := 113) rfl))) (Or.inr (hw _ (List.mem_of_getElem? (i := 74) rfl))) (by decide) rfl rfl))
  have Pf6 := Pf6.other W2 (Or.inr (slot_ne (Or.inr (hw _ (List.mem_of_getElem? (i := 116) rfl))) (Or.inr (hw _ (List.mem_of_getElem? (i := 74) rfl))) (by decide) rfl rfl))
  have Pf7 := Pf7.other W2 (Or.inr (slot_ne (Or.inr (hw _ (List.mem_of_getElem? (i := 119) rfl))) (Or.inr (hw _ (List.mem_of_getElem? (i := 74) rfl))) (by decide) rfl rfl))
  have XB := XB.wr W2
  have G0 := G0.other W2 (Or.inl (Ne.symm ne_pr_bu))
  have G1 := G1.other W2 (Or.inl (Ne.symm ne_pr_bu))
  have G2 := G2.other W2 (Or.inl (Ne.symm ne_pr_bu))
  have G3 := G3.other W2 (Or.inl (Ne.symm ne_pr_bu))
  have G4 := G4.other W2 (Or.inl (Ne.symm ne_pr_bu))
  have G5 := G5.other W2 (Or.inl (Ne.symm ne_pr_bu))
  have G6 := G6.other W2 (Or.inl (Ne.symm ne_pr_bu))
  have G7 := G7.other W2 (Or.inl (Ne.symm ne_pr_bu))
  have G8 := G8.other W2 (Or.inl (Ne.symm ne_pr_bu))
  have G9 := G9.other W2 (Or.inl (Ne.symm ne_pr_bu))
  have G10 := G10.other W2 (Or.inl (Ne.symm ne_pr_bu))
  have Ad1 := Ad1.other W2 (Ne.symm ne_pr_ad1)
  have Ad2 := Ad2.other W2 (Ne.symm ne_pr_ad2)
  have Ad3 := Ad3.other W2 (Ne.symm ne_pr_ad3)
  have Ad4 := Ad4.other W2 (Ne.symm ne_pr_ad4)
  have Ad5 := Ad5.other W2 (Ne.symm ne_pr_ad5)
  have Ad6 := Ad6.other W2 (Ne.symm ne_pr_rb)
  have XR := XR.wr W2
  have Z2 : n0 ≤ h2.size := by rw [W2.size]; exact Z0
  have N2 := Fr.snoc X2 (Fr.nil n0) z_pr
  have P2 := (Keep.refl h [pr]).wr W2 (Or.inl (List.mem_of_getElem? (i := 0) rfl))
  refine g_aloadN C X2 (pc' := 13) d11_12 rfl rfl rfl ?_
  refine g_aloadN C X2 (pc' := 14) d11_13 rfl rfl rfl ?_
  refine g_getFR C X2 (pc' := 17) (hw _ (List.mem_of_getElem? (i := 75) rfl)) e2 G5 d11_14 rfl ?_
  refine g_aloadN C X2 (pc' := 18) d11_17 rfl rfl rfl ?_
  refine g_getFR C X2 (pc' := 21) (hw _ (List.mem_of_getElem? (i := 76) rfl)) e2 G2 d11_18 rfl ?_
  refine g_iconst C X2 (pc' := 22) d11_21 (v := (1 : Int32)) (by decide) rfl ?_
  refine g_iadd C X2 (pc' := 23) d11_22 rfl ?_
  rw [show ((0 : Int32) + (1 : Int32) : Int32) = 1 from by decide]
  refine g_callS C X2 (k5_copyOf l Z a0 hw h2 n0 Z2  ad1 kd1    Ad1) (hw _ (List.mem_of_getElem? (i := 77) rfl)) (hw _ (List.mem_of_getElem? (i := 78) rfl)) (hw _ (List.mem_of_getElem? (i := 79) rfl)) (hw _ (List.mem_of_getElem? (i := 80) rfl)) (by decide) e2 d11_23 rfl kk_24 [(.ref ad1), (.int (1 : Int32))] [(.ref pr)] rfl rfl rfl 1 rfl (by decide) (by decide) (by decide) (by decide) rfl ?_
  rintro _ T3 L3 X3 ⟨b1, kc2, rfl, M3, K3, w_b1, FF3, FF4⟩
  have ne_ad1_b1 : ad1 ≠ b1 := Nat.ne_of_lt (Nat.lt_of_lt_of_le Ad1.lt w_b1)
  have ne_ad2_b1 : ad2 ≠ b1 := Nat.ne_of_lt (Nat.lt_of_lt_of_le Ad2.lt w_b1)
  have ne_ad3_b1 : ad3 ≠ b1 := Nat.ne_of_lt (Nat.lt_of_lt_of_le Ad3.lt w_b1)
  have ne_ad4_b1 : ad4 ≠ b1 := Nat.ne_of_lt (Nat.lt_of_lt_of_le Ad4.lt w_b1)
  have ne_ad5_b1 : ad5 ≠ b1 := Nat.ne_of_lt (Nat.lt_of_lt_of_le Ad5.lt w_b1)
  have ne_bu_b1 : bu ≠ b1 := Nat.ne_of_lt (Nat.lt_of_lt_of_le XB.lt w_b1)
  have ne_pr_b1 : pr ≠ b1 := Nat.ne_of_lt (Nat.lt_of_lt_of_le XP.lt w_b1)
  have ne_rb_b1 : rb ≠ b1 := Nat.ne_of_lt (Nat.lt_of_lt_of_le Ad6.lt w_b1)
  have z_b1 : n0 ≤ b1 := Nat.le_trans Z2 w_b1
  have y_b1 : h.size ≤ b1 := Nat.le_trans P2.1 w_b1
  have XP := XP.keep K3
  have Pf0 := Pf0.keep K3 nin0
  have Pf1 := Pf1.keep K3 nin0
  have Pf2 := Pf2.keep K3 nin0
  have Pf3 := Pf3.keep K3 nin0
  have Pf4 := Pf4.keep K3 nin0
  have Pf5 := Pf5.keep K3 nin0
  have Pf6 := Pf6.keep K3 nin0
  have Pf7 := Pf7.keep K3 nin0
  have XB := XB.keep K3
  have G0 := G0.keep K3 nin0
  have G1 := G1.keep K3 nin0
  have G2 := G2.keep K3 nin0
  have G3 := G3.keep K3 nin0
  have G4 := G4.keep K3 nin0
  have G5 := G5.keep K3 nin0
  have G6 := G6.keep K3 nin0
  have G7 := G7.keep K3 nin0
  have G8 := G8.keep K3 nin0
  have G9 := G9.keep K3 nin0
  have G10 := G10.keep K3 nin0
  have Ad1 := Ad1.keep K3 nin0
  have Ad2 := Ad2.keep K3 nin0
  have Ad3 := Ad3.keep K3 nin0
  have Ad4 := Ad4.keep K3 nin0
  have Ad5 := Ad5.keep K3 nin0
  have Ad6 := Ad6.keep K3 nin0
  have XR := XR.keep K3
  have Z3 : n0 ≤ T3.heap.size := Nat.le_trans Z2 K3.1
  have P3 := P2.trans K3 al0
  have N3 := Fr.app N2 M3
  obtain ⟨h3, e3⟩ : ∃ z, T3.heap = z := ⟨_, rfl⟩
  rw [e3] at XP Pf0 Pf1 Pf2 Pf3 Pf4 Pf5 Pf6 Pf7 XB G0 G1 G2 G3 G4 G5 G6 G7 G8 G9 G10 Ad1 Ad2 Ad3 Ad4 Ad5 Ad6 XR FF3 FF4 Z3 P3
  show Go p.tables e below _ T3 (mkF m 26 #[.val (.ref pr), .val (.ref bu), .unset] [(.ref b1), (.ref pr)])
  refine g_putF C X3 (host := "") (Or.inl (hw _ (List.mem_of_getElem? (i := 88) rfl))) Via.refl e3 Pf1 XP (Or.inr ⟨(hw _ (List.mem_of_getElem? (i := 89) rfl)), rfl, rfl⟩) (hw _ (List.mem_of_getElem? (i := 66) rfl)) (ty := (.array .int)) (by decide) rfl rfl d11_26 rfl ?_
  intro T4 h4 X4 e4 W4
  have XP := XP.wr W4
  have Pf0 := Pf0.other W4 (Or.inr (slot_ne (Or.inr (hw _ (List.mem_of_getElem? (i := 74) rfl))) (Or.inr (hw _ (List.mem_of_getElem? (i := 89) rfl))) (by decide) rfl rfl))
  have Pf1 := Pf1.same W4
  have Pf2 := Pf2.other W4 (Or.inr (slot_ne (Or.inr (hw _ (List.mem_of_getElem? (i := 92) rfl))) (Or.inr (hw _ (List.mem_of_getElem? (i := 89) rfl))) (by decide) rfl rfl))
  have Pf3 := Pf3.other W4 (Or.inr (slot_ne (Or.inr (hw _ (List.mem_of_getElem? (i := 102) rfl))) (Or.inr (hw _ (List.mem_of_getElem? (i := 89) rfl))) (by decide) rfl rfl))
  have Pf4 := Pf4.other W4 (Or.inr (slot_ne (Or.inr (hw _ (List.mem_of_getElem? (i := 107) rfl))) (Or.inr (hw _ (List.mem_of_getElem? (i := 89) rfl))) (by decide) rfl rfl))
  have Pf5 := Pf5.other W4 (Or.inr (slot_ne (Or.inr (hw _ (List.mem_of_getElem? (i := 113) rfl))) (Or.inr (hw _ (List.mem_of_getElem? (i := 89) rfl))) (by decide) rfl rfl))
  have Pf6 := Pf6.other W4 (Or.inr (slot_ne (Or.inr (hw _ (List.mem_of_getElem? (i := 116) rfl))) (Or.inr (hw _ (List.mem_of_getElem? (i := 89) rfl))) (by decide) rfl rfl))
  have Pf7 := Pf7.other W4 (Or.inr (slot_ne (Or.inr (hw _ (List.mem_of_getElem? (i := 119) rfl))) (Or.inr (hw _ (List.mem_of_getElem? (i := 89) rfl))) (by decide) rfl rfl))
  have XB := XB.wr W4
  have G0 := G0.other W4 (Or.inl (Ne.symm ne_pr_bu))
  have G1 := G1.other W4 (Or.inl (Ne.symm ne_pr_bu))
  have G2 := G2.other W4 (Or.inl (Ne.symm ne_pr_bu))
  have G3 := G3.other W4 (Or.inl (Ne.symm ne_pr_bu))
  have G4 := G4.other W4 (Or.inl (Ne.symm ne_pr_bu))
  have G5 := G5.other W4 (Or.inl (Ne.symm ne_pr_bu))
  have G6 := G6.other W4 (Or.inl (Ne.symm ne_pr_bu))
  have G7 := G7.other W4 (Or.inl (Ne.symm ne_pr_bu))
  have G8 := G8.other W4 (Or.inl (Ne.symm ne_pr_bu))
  have G9 := G9.other W4 (Or.inl (Ne.symm ne_pr_bu))
  have G10 := G10.other W4 (Or.inl (Ne.symm ne_pr_bu))
  have Ad1 := Ad1.other W4 (Ne.symm ne_pr_ad1)
  have Ad2 := Ad2.other W4 (Ne.symm ne_pr_ad2)
  have Ad3 := Ad3.other W4 (Ne.symm ne_pr_ad3)
  have Ad4 := Ad4.other W4 (Ne.symm ne_pr_ad4)
  have Ad5 := Ad5.other W4 (Ne.symm ne_pr_ad5)
  have Ad6 := Ad6.other W4 (Ne.symm ne_pr_rb)
  have XR := XR.wr W4
  have FF3 := FF3.wr W4
  have FF4 := FF4.other W4 (Ne.symm ne_pr_b1)
  have Z4 : n0 ≤ h4.size := by rw [W4.size]; exact Z3
  have N4 := Fr.snoc X4 N3 z_pr
  have P4 := P3.wr W4 (Or.inl (List.mem_of_getElem? (i := 0) rfl))
  refine g_aloadN C X4 (pc' := 30) d11_29 rfl rfl rfl ?_
  refine g_getF C X4 (host := "") (Or.inl (hw _ (List.mem_of_getElem? (i := 88) rfl))) Via.refl e4 Pf1 d11_30 rfl ?_
  intro T5 X5 e5
  refine g_aloadN C X5 (pc' := 34) d11_33 rfl rfl rfl ?_
  refine g_getFR C X5 (pc' := 37) (hw _ (List.mem_of_getElem? (i := 76) rfl)) e5 G2 d11_34 rfl ?_
  refine g_aloadN C X5 (pc' := 38) d11_37 rfl rfl rfl ?_
  refine g_getFR C X5 (pc' := 41) (hw _ (List.mem_of_getElem? (i := 90) rfl)) e5 G1 d11_38 rfl ?_
  refine g_iastore C X5 (pc' := 42) e5 FF4 (by decide) (by decide) 0 0 (by decide) (of_decide_eq_true rfl) d11_41 rfl ?_
  intro T6 h6 X6 e6 W6 Aq
  have XP := XP.wr W6
  have Pf0 := Pf0.other W6 (Or.inl ne_pr_b1)
  have Pf1 := Pf1.other W6 (Or.inl ne_pr_b1)
  have Pf2 := Pf2.other W6 (Or.inl ne_pr_b1)
  have Pf3 := Pf3.other W6 (Or.inl ne_pr_b1)
  have Pf4 := Pf4.other W6 (Or.inl ne_pr_b1)
  have Pf5 := Pf5.other W6 (Or.inl ne_pr_b1)
  have Pf6 := Pf6.other W6 (Or.inl ne_pr_b1)
  have Pf7 := Pf7.other W6 (Or.inl ne_pr_b1)
  have XB := XB.wr W6
  have G0 := G0.other W6 (Or.inl ne_bu_b1)
  have G1 := G1.other W6 (Or.inl ne_bu_b1)
  have G2 := G2.other W6 (Or.inl ne_bu_b1)
  have G3 := G3.other W6 (Or.inl ne_bu_b1)
  have G4 := G4.other W6 (Or.inl ne_bu_b1)
  have G5 := G5.other W6 (Or.inl ne_bu_b1)
  have G6 := G6.other W6 (Or.inl ne_bu_b1)
  have G7 := G7.other W6 (Or.inl ne_bu_b1)
  have G8 := G8.other W6 (Or.inl ne_bu_b1)
  have G9 := G9.other W6 (Or.inl ne_bu_b1)
  have G10 := G10.other W6 (Or.inl ne_bu_b1)
  have Ad1 := Ad1.other W6 ne_ad1_b1
  have Ad2 := Ad2.other W6 ne_ad2_b1
  have Ad3 := Ad3.other W6 ne_ad3_b1
  have Ad4 := Ad4.other W6 ne_ad4_b1
  have Ad5 := Ad5.other W6 ne_ad5_b1
  have Ad6 := Ad6.other W6 ne_rb_b1
  have XR := XR.wr W6
  have FF3 := FF3.wr W6
  have Z6 : n0 ≤ h6.size := by rw [W6.size]; exact Z4
  have N6 := Fr.snoc X6 N4 z_b1
  have P6 := P4.wr W6 (Or.inr y_b1)
  have FF4 : Arv Z h6 b1 kc2 .int (1 : Int32) [(.int rows)] (.int (0 : Int32)) := Aq
  refine g_aloadN C X6 (pc' := 43) d11_42 rfl rfl rfl ?_
  refine g_aloadN C X6 (pc' := 44) d11_43 rfl rfl rfl ?_
  refine g_getFR C X6 (pc' := 47) (hw _ (List.mem_of_getElem? (i := 90) rfl)) e6 G1 d11_44 rfl ?_
  refine g_newPE C X6 (aty := .int) (ad := "[I") (by decide) (hw _ (List.mem_of_getElem? (i := 9) rfl)) e6 d11_47 (bn_nneg hrb (by decide)) 47 (bn_cap hrb (by decide)) (by decide) (by decide) (by decide) rfl ?_
  intro T7 h7 a7 k7 g7 X7 e7 E7 A7 B7
  have ne_ad1_a7 : ad1 ≠ a7 := Nat.ne_of_lt (by rw [g7]; exact Ad1.lt)
  have ne_ad2_a7 : ad2 ≠ a7 := Nat.ne_of_lt (by rw [g7]; exact Ad2.lt)
  have ne_ad3_a7 : ad3 ≠ a7 := Nat.ne_of_lt (by rw [g7]; exact Ad3.lt)
  have ne_ad4_a7 : ad4 ≠ a7 := Nat.ne_of_lt (by rw [g7]; exact Ad4.lt)
  have ne_ad5_a7 : ad5 ≠ a7 := Nat.ne_of_lt (by rw [g7]; exact Ad5.lt)
  have ne_b1_a7 : b1 ≠ a7 := Nat.ne_of_lt (by rw [g7]; exact FF3.lt)
  have ne_bu_a7 : bu ≠ a7 := Nat.ne_of_lt (by rw [g7]; exact XB.lt)
  have ne_pr_a7 : pr ≠ a7 := Nat.ne_of_lt (by rw [g7]; exact XP.lt)
  have ne_rb_a7 : rb ≠ a7 := Nat.ne_of_lt (by rw [g7]; exact Ad6.lt)
  have z_a7 : n0 ≤ a7 := by rw [g7]; exact Z6
  have y_a7 : h.size ≤ a7 := by rw [g7]; exact P6.1
  have XP := XP.ext E7
  have Pf0 := Pf0.ext E7
  have Pf1 := Pf1.ext E7
  have Pf2 := Pf2.ext E7
  have Pf3 := Pf3.ext E7
  have Pf4 := Pf4.ext E7
  have Pf5 := Pf5.ext E7
  have Pf6 := Pf6.ext E7
  have Pf7 := Pf7.ext E7
  have XB := XB.ext E7
  have G0 := G0.ext E7
  have G1 := G1.ext E7
  have G2 := G2.ext E7
  have G3 := G3.ext E7
  have G4 := G4.ext E7
  have G5 := G5.ext E7
  have G6 := G6.ext E7
  have G7 := G7.ext E7
  have G8 := G8.ext E7
  have G9 := G9.ext E7
  have G10 := G10.ext E7
  have Ad1 := Ad1.ext E7
  have Ad2 := Ad2.ext E7
  have Ad3 := Ad3.ext E7
  have Ad4 := Ad4.ext E7
  have Ad5 := Ad5.ext E7
  have Ad6 := Ad6.ext E7
  have XR := XR.ext E7
  have FF3 := FF3.ext E7
  have FF4 := FF4.ext E7
  have P7 := P6.ext E7
  have Z7 : n0 ≤ h7.size := Nat.le_trans Z6 E7.1
  have A7 : Arv Z h7 a7 k7 .int rows [] (.int (0 : Int32)) := A7
  refine g_putF C X7 (host := "") (Or.inl (hw _ (List.mem_of_getElem? (i := 91) rfl))) Via.refl e7 Pf2 XP (Or.inr ⟨(hw _ (List.mem_of_getElem? (i := 92) rfl)), rfl, rfl⟩) (hw _ (List.mem_of_getElem? (i := 66) rfl)) (ty := (.array .int)) (by decide) rfl rfl d11_49 rfl ?_
  intro T8 h8 X8 e8 W8
  have XP := XP.wr W8
  have Pf0 := Pf0.other W8 (Or.inr (slot_ne (Or.inr (hw _ (List.mem_of_getElem? (i := 74) rfl))) (Or.inr (hw _ (List.mem_of_getElem? (i := 92) rfl))) (by decide) rfl rfl))
  have Pf1 := Pf1.other W8 (Or.inr (slot_ne (Or.inr (hw _ (List.mem_of_getElem? (i := 89) rfl))) (Or.inr (hw _ (List.mem_of_getElem? (i := 92) rfl))) (by decide) rfl rfl))
  have Pf2 := Pf2.same W8
  have Pf3 := Pf3.other W8 (Or.inr (slot_ne (Or.inr (hw _ (List.mem_of_getElem? (i := 102) rfl))) (Or.inr (hw _ (List.mem_of_getElem? (i := 92) rfl))) (by decide) rfl rfl))
  have Pf4 := Pf4.other W8 (Or.inr (slot_ne (Or.inr (hw _ (List.mem_of_getElem? (i := 107) rfl))) (Or.inr (hw _ (List.mem_of_getElem? (i := 92) rfl))) (by decide) rfl rfl))
  have Pf5 := Pf5.other W8 (Or.inr (slot_ne (Or.inr (hw _ (List.mem_of_getElem? (i := 113) rfl))) (Or.inr (hw _ (List.mem_of_getElem? (i := 92) rfl))) (by decide) rfl rfl))
  have Pf6 := Pf6.other W8 (Or.inr (slot_ne (Or.inr (hw _ (List.mem_of_getElem? (i := 116) rfl))) (Or.inr (hw _ (List.mem_of_getElem? (i := 92) rfl))) (by decide) rfl rfl))
  have Pf7 := Pf7.other W8 (Or.inr (slot_ne (Or.inr (hw _ (List.mem_of_getElem? (i := 119) rfl))) (Or.inr (hw _ (List.mem_of_getElem? (i := 92) rfl))) (by decide) rfl rfl))
  have XB := XB.wr W8
  have G0 := G0.other W8 (Or.inl (Ne.symm ne_pr_bu))
  have G1 := G1.other W8 (Or.inl (Ne.symm ne_pr_bu))
  have G2 := G2.other W8 (Or.inl (Ne.symm ne_pr_bu))
  have G3 := G3.other W8 (Or.inl (Ne.symm ne_pr_bu))
  have G4 := G4.other W8 (Or.inl (Ne.symm ne_pr_bu))
  have G5 := G5.other W8 (Or.inl (Ne.symm ne_pr_bu))
  have G6 := G6.other W8 (Or.inl (Ne.symm ne_pr_bu))
  have G7 := G7.other W8 (Or.inl (Ne.symm ne_pr_bu))
  have G8 := G8.other W8 (Or.inl (Ne.symm ne_pr_bu))
  have G9 := G9.other W8 (Or.inl (Ne.symm ne_pr_bu))
  have G10 := G10.other W8 (Or.inl (Ne.symm ne_pr_bu))
  have Ad1 := Ad1.other W8 (Ne.symm ne_pr_ad1)
  have Ad2 := Ad2.other W8 (Ne.symm ne_pr_ad2)
  have Ad3 := Ad3.other W8 (Ne.symm ne_pr_ad3)
  have Ad4 := Ad4.other W8 (Ne.symm ne_pr_ad4)
  have Ad5 := Ad5.other W8 (Ne.symm ne_pr_ad5)
  have Ad6 := Ad6.other W8 (Ne.symm ne_pr_rb)
  have XR := XR.wr W8
  have FF3 := FF3.wr W8
  have FF4 := FF4.other W8 (Ne.symm ne_pr_b1)
  have A7 := A7.other W8 (Ne.symm ne_pr_a7)
  have B7 := B7.wr W8
  have Z8 : n0 ≤ h8.size := by rw [W8.size]; exact Z7
  have N8 := Fr.snoc X8 N6 z_pr
  have P8 := P7.wr W8 (Or.inl (List.mem_of_getElem? (i := 0) rfl))
  refine g_aloadN C X8 (pc' := 53) d11_52 rfl rfl rfl ?_
  refine g_getF C X8 (host := "") (Or.inl (hw _ (List.mem_of_getElem? (i := 91) rfl))) Via.refl e8 Pf2 d11_53 rfl ?_
  intro T9 X9 e9
  refine g_iconst C X9 (pc' := 57) d11_56 (v := (0 : Int32)) (by decide) rfl ?_
  refine g_aloadN C X9 (pc' := 58) d11_57 rfl rfl rfl ?_
  refine g_getF C X9 (host := "") (Or.inl (hw _ (List.mem_of_getElem? (i := 73) rfl))) Via.refl e9 Pf0 d11_58 rfl ?_
  intro T10 X10 e10
  refine g_iconst C X10 (pc' := 62) d11_61 (v := (-1 : Int32)) (by decide) rfl ?_
  refine g_callS C X10 (c_fill l Z a0 hw h8 n0 Z8 a7 k7 rows (0 : Int32) dense (-1 : Int32) z_a7 (by show _ ≤ _; omega) (by show _ ≤ _; omega) (by show _ ≤ _; omega) ⟨_, A7⟩) (hw _ (List.mem_of_getElem? (i := 93) rfl)) (hw _ (List.mem_of_getElem? (i := 94) rfl)) (hw _ (List.mem_of_getElem? (i := 79) rfl)) (hw _ (List.mem_of_getElem? (i := 95) rfl)) (by decide) e10 d11_62 rfl kk_31 [(.ref a7), (.int (0 : Int32)), (.int dense), (.int (-1 : Int32))] [] rfl rfl rfl 0 rfl (by decide) (by decide) (by decide) (by decide) rfl ?_
  rintro _ T11 L11 X11 ⟨rfl, M11, K11, FI11⟩
  have NS11_a7 := A7.nostat
  have XP := XP.keep K11
  have Pf0 := Pf0.keep K11 (ninS ne_pr_a7 nin0)
  have Pf1 := Pf1.keep K11 (ninS ne_pr_a7 nin0)
  have Pf2 := Pf2.keep K11 (ninS ne_pr_a7 nin0)
  have Pf3 := Pf3.keep K11 (ninS ne_pr_a7 nin0)
  have Pf4 := Pf4.keep K11 (ninS ne_pr_a7 nin0)
  have Pf5 := Pf5.keep K11 (ninS ne_pr_a7 nin0)
  have Pf6 := Pf6.keep K11 (ninS ne_pr_a7 nin0)
  have Pf7 := Pf7.keep K11 (ninS ne_pr_a7 nin0)
  have XB := XB.keep K11
  have G0 := G0.keep K11 (ninS ne_bu_a7 nin0)
  have G1 := G1.keep K11 (ninS ne_bu_a7 nin0)
  have G2 := G2.keep K11 (ninS ne_bu_a7 nin0)
  have G3 := G3.keep K11 (ninS ne_bu_a7 nin0)
  have G4 := G4.keep K11 (ninS ne_bu_a7 nin0)
  have G5 := G5.keep K11 (ninS ne_bu_a7 nin0)
  have G6 := G6.keep K11 (ninS ne_bu_a7 nin0)
  have G7 := G7.keep K11 (ninS ne_bu_a7 nin0)
  have G8 := G8.keep K11 (ninS ne_bu_a7 nin0)
  have G9 := G9.keep K11 (ninS ne_bu_a7 nin0)
  have G10 := G10.keep K11 (ninS ne_bu_a7 nin0)
  have Ad1 := Ad1.keep K11 (ninS ne_ad1_a7 nin0)
  have Ad2 := Ad2.keep K11 (ninS ne_ad2_a7 nin0)
  have Ad3 := Ad3.keep K11 (ninS ne_ad3_a7 nin0)
  have Ad4 := Ad4.keep K11 (ninS ne_ad4_a7 nin0)
  have Ad5 := Ad5.keep K11 (ninS ne_ad5_a7 nin0)
  have Ad6 := Ad6.keep K11 (ninS ne_rb_a7 nin0)
  have XR := XR.keep K11
  have FF3 := FF3.keep K11
  have FF4 := FF4.keep K11 (ninS ne_b1_a7 nin0)
  have B7 := B7.keep K11
  have Z11 : n0 ≤ T11.heap.size := Nat.le_trans Z8 K11.1
  have P11 := P8.trans K11 (alc (Or.inr y_a7) al0)
  have N11 := Fr.app N8 M11
  obtain ⟨h11, e11⟩ : ∃ z, T11.heap = z := ⟨_, rfl⟩
  rw [e11] at XP Pf0 Pf1 Pf2 Pf3 Pf4 Pf5 Pf6 Pf7 XB G0 G1 G2 G3 G4 G5 G6 G7 G8 G9 G10 Ad1 Ad2 Ad3 Ad4 Ad5 Ad6 XR FF3 FF4 B7 FI11 Z11 P11
  show Go p.tables e below _ T11 (mkF m 65 #[.val (.ref pr), .val (.ref bu), .unset] [])
  refine g_iconst C X11 (pc' := 66) d11_65 (v := (0 : Int32)) (by decide) rfl ?_
  refine g_istoreN C X11 (pc' := 67) d11_66 (x := (0 : Int32)) rfl (l' := #[.val (.ref pr), .val (.ref bu), .val (.int (0 : Int32))]) rfl rfl ?_
  refine g_iloadN C X11 (pc' := 68) d11_67 rfl rfl ?_
  refine g_aloadN C X11 (pc' := 69) d11_68 rfl rfl rfl ?_
  refine g_getFR C X11 (pc' := 72) (hw _ (List.mem_of_getElem? (i := 76) rfl)) e11 G2 d11_69 rfl ?_
  refine g_icmpY C X11 d11_72 (pc' := 103) (by decide) (by decide) (by decide) ?_
  refine g_aloadN C X11 (pc' := 104) d11_103 rfl rfl rfl ?_
  refine g_aloadN C X11 (pc' := 105) d11_104 rfl rfl rfl ?_
  refine g_getFR C X11 (pc' := 108) (hw _ (List.mem_of_getElem? (i := 99) rfl)) e11 G6 d11_105 rfl ?_
  refine g_aloadN C X11 (pc' := 109) d11_108 rfl rfl rfl ?_
  refine g_getFR C X11 (pc' := 112) (hw _ (List.mem_of_getElem? (i := 100) rfl)) e11 G3 d11_109 rfl ?_
  refine g_iconst C X11 (pc' := 113) d11_112 (v := (1 : Int32)) (by decide) rfl ?_
  refine g_iadd C X11 (pc' := 114) d11_113 rfl ?_
  rw [show ((0 : Int32) + (1 : Int32) : Int32) = 1 from by decide]
  refine g_callS C X11 (k5_copyOf l Z a0 hw h11 n0 Z11  ad2 kd2    Ad2) (hw _ (List.mem_of_getElem? (i := 77) rfl)) (hw _ (List.mem_of_getElem? (i := 78) rfl)) (hw _ (List.mem_of_getElem? (i := 79) rfl)) (hw _ (List.mem_of_getElem? (i := 80) rfl)) (by decide) e11 d11_114 rfl kk_24 [(.ref ad2), (.int (1 : Int32))] [(.ref pr)] rfl rfl rfl 1 rfl (by decide) (by decide) (by decide) (by decide) rfl ?_
  rintro _ T12 L12 X12 ⟨b5, kc6, rfl, M12, K12, w_b5, FF7, FF8⟩
  have ne_a7_b5 : a7 ≠ b5 := Nat.ne_of_lt (Nat.lt_of_lt_of_le B7.lt w_b5)
  have ne_ad1_b5 : ad1 ≠ b5 := Nat.ne_of_lt (Nat.lt_of_lt_of_le Ad1.lt w_b5)
  have ne_ad2_b5 : ad2 ≠ b5 := Nat.ne_of_lt (Nat.lt_of_lt_of_le Ad2.lt w_b5)
  have ne_ad3_b5 : ad3 ≠ b5 := Nat.ne_of_lt (Nat.lt_of_lt_of_le Ad3.lt w_b5)
  have ne_ad4_b5 : ad4 ≠ b5 := Nat.ne_of_lt (Nat.lt_of_lt_of_le Ad4.lt w_b5)
  have ne_ad5_b5 : ad5 ≠ b5 := Nat.ne_of_lt (Nat.lt_of_lt_of_le Ad5.lt w_b5)
  have ne_b1_b5 : b1 ≠ b5 := Nat.ne_of_lt (Nat.lt_of_lt_of_le FF3.lt w_b5)
  have ne_bu_b5 : bu ≠ b5 := Nat.ne_of_lt (Nat.lt_of_lt_of_le XB.lt w_b5)
  have ne_pr_b5 : pr ≠ b5 := Nat.ne_of_lt (Nat.lt_of_lt_of_le XP.lt w_b5)
  have ne_rb_b5 : rb ≠ b5 := Nat.ne_of_lt (Nat.lt_of_lt_of_le Ad6.lt w_b5)
  have z_b5 : n0 ≤ b5 := Nat.le_trans Z11 w_b5
  have y_b5 : h.size ≤ b5 := Nat.le_trans P11.1 w_b5
  have XP := XP.keep K12
  have Pf0 := Pf0.keep K12 nin0
  have Pf1 := Pf1.keep K12 nin0
  have Pf2 := Pf2.keep K12 nin0
  have Pf3 := Pf3.keep K12 nin0
  have Pf4 := Pf4.keep K12 nin0
  have Pf5 := Pf5.keep K12 nin0
  have Pf6 := Pf6.keep K12 nin0
  have Pf7 := Pf7.keep K12 nin0
  have XB := XB.keep K12
  have G0 := G0.keep K12 nin0
  have G1 := G1.keep K12 nin0
  have G2 := G2.keep K12 nin0
  have G3 := G3.keep K12 nin0
  have G4 := G4.keep K12 nin0
  have G5 := G5.keep K12 nin0
  have G6 := G6.keep K12 nin0
  have G7 := G7.keep K12 nin0
  have G8 := G8.keep K12 nin0
  have G9 := G9.keep K12 nin0
  have G10 := G10.keep K12 nin0
  have Ad1 := Ad1.keep K12 nin0
  have Ad2 := Ad2.keep K12 nin0
  have Ad3 := Ad3.keep K12 nin0
  have Ad4 := Ad4.keep K12 nin0
  have Ad5 := Ad5.keep K12 nin0
  have Ad6 := Ad6.keep K12 nin0
  have XR := XR.keep K12
  have FF3 := FF3.keep K12
  have FF4 := FF4.keep K12 nin0
  have B7 := B7.keep K12
  have FI11 := FI11.keep K12 nin0
  have Z12 : n0 ≤ T12.heap.size := Nat.le_trans Z11 K12.1
  have P12 := P11.trans K12 al0
  have N12 := Fr.app N11 M12
  obtain ⟨h12, e12⟩ : ∃ z, T12.heap = z := ⟨_, rfl⟩
  rw [e12] at XP Pf0 Pf1 Pf2 Pf3 Pf4 Pf5 Pf6 Pf7 XB G0 G1 G2 G3 G4 G5 G6 G7 G8 G9 G10 Ad1 Ad2 Ad3 Ad4 Ad5 Ad6 XR FF3 FF4 B7 FI11 FF7 FF8 Z12 P12
  show Go p.tables e below _ T12 (mkF m 117 #[.val (.ref pr), .val (.ref bu), .val (.int (0 : Int32))] [(.ref b5), (.ref pr)])
  refine g_putF C X12 (host := "") (Or.inl (hw _ (List.mem_of_getElem? (i := 101) rfl))) Via.refl e12 Pf3 XP (Or.inr ⟨(hw _ (List.mem_of_getElem? (i := 102) rfl)), rfl, rfl⟩) (hw _ (List.mem_of_getElem? (i := 66) rfl)) (ty := (.array .int)) (by decide) rfl rfl d11_117 rfl ?_
  intro T13 h13 X13 e13 W13
  have XP := XP.wr W13
  have Pf0 := Pf0.other W13 (Or.inr (slot_ne (Or.inr (hw _ (List.mem_of_getElem? (i := 74) rfl))) (Or.inr (hw _ (List.mem_of_getElem? (i := 102) rfl))) (by decide) rfl rfl))
  have Pf1 := Pf1.other W13 (Or.inr (slot_ne (Or.inr (hw _ (List.mem_of_getElem? (i := 89) rfl))) (Or.inr (hw _ (List.mem_of_getElem? (i := 102) rfl))) (by decide) rfl rfl))
  have Pf2 := Pf2.other W13 (Or.inr (slot_ne (Or.inr (hw _ (List.mem_of_getElem? (i := 92) rfl))) (Or.inr (hw _ (List.mem_of_getElem? (i := 102) rfl))) (by decide) rfl rfl))
  have Pf3 := Pf3.same W13
  have Pf4 := Pf4.other W13 (Or.inr (slot_ne (Or.inr (hw _ (List.mem_of_getElem? (i := 107) rfl))) (Or.inr (hw _ (List.mem_of_getElem? (i := 102) rfl))) (by decide) rfl rfl))
  have Pf5 := Pf5.other W13 (Or.inr (slot_ne (Or.inr (hw _ (List.mem_of_getElem? (i := 113) rfl))) (Or.inr (hw _ (List.mem_of_getElem? (i := 102) rfl))) (by decide) rfl rfl))
  have Pf6 := Pf6.other W13 (Or.inr (slot_ne (Or.inr (hw _ (List.mem_of_getElem? (i := 116) rfl))) (Or.inr (hw _ (List.mem_of_getElem? (i := 102) rfl))) (by decide) rfl rfl))
  have Pf7 := Pf7.other W13 (Or.inr (slot_ne (Or.inr (hw _ (List.mem_of_getElem? (i := 119) rfl))) (Or.inr (hw _ (List.mem_of_getElem? (i := 102) rfl))) (by decide) rfl rfl))
  have XB := XB.wr W13
  have G0 := G0.other W13 (Or.inl (Ne.symm ne_pr_bu))
  have G1 := G1.other W13 (Or.inl (Ne.symm ne_pr_bu))
  have G2 := G2.other W13 (Or.inl (Ne.symm ne_pr_bu))
  have G3 := G3.other W13 (Or.inl (Ne.symm ne_pr_bu))
  have G4 := G4.other W13 (Or.inl (Ne.symm ne_pr_bu))
  have G5 := G5.other W13 (Or.inl (Ne.symm ne_pr_bu))
  have G6 := G6.other W13 (Or.inl (Ne.symm ne_pr_bu))
  have G7 := G7.other W13 (Or.inl (Ne.symm ne_pr_bu))
  have G8 := G8.other W13 (Or.inl (Ne.symm ne_pr_bu))
  have G9 := G9.other W13 (Or.inl (Ne.symm ne_pr_bu))
  have G10 := G10.other W13 (Or.inl (Ne.symm ne_pr_bu))
  have Ad1 := Ad1.other W13 (Ne.symm ne_pr_ad1)
  have Ad2 := Ad2.other W13 (Ne.symm ne_pr_ad2)
  have Ad3 := Ad3.other W13 (Ne.symm ne_pr_ad3)
  have Ad4 := Ad4.other W13 (Ne.symm ne_pr_ad4)
  have Ad5 := Ad5.other W13 (Ne.symm ne_pr_ad5)
  have Ad6 := Ad6.other W13 (Ne.symm ne_pr_rb)
  have XR := XR.wr W13
  have FF3 := FF3.wr W13
  have FF4 := FF4.other W13 (Ne.symm ne_pr_b1)
  have B7 := B7.wr W13
  have FI11 := FI11.other W13 (Ne.symm ne_pr_a7)
  have FF7 := FF7.wr W13
  have FF8 := FF8.other W13 (Ne.symm ne_pr_b5)
  have Z13 : n0 ≤ h13.size := by rw [W13.size]; exact Z12
  have N13 := Fr.snoc X13 N12 z_pr
  have P13 := P12.wr W13 (Or.inl (List.mem_of_getElem? (i := 0) rfl))
  refine g_aloadN C X13 (pc' := 121) d11_120 rfl rfl rfl ?_
  refine g_getF C X13 (host := "") (Or.inl (hw _ (List.mem_of_getElem? (i := 101) rfl))) Via.refl e13 Pf3 d11_121 rfl ?_
  intro T14 X14 e14
  refine g_aloadN C X14 (pc' := 125) d11_124 rfl rfl rfl ?_
  refine g_getFR C X14 (pc' := 128) (hw _ (List.mem_of_getElem? (i := 100) rfl)) e14 G3 d11_125 rfl ?_
  refine g_aloadN C X14 (pc' := 129) d11_128 rfl rfl rfl ?_
  refine g_getFR C X14 (pc' := 132) (hw _ (List.mem_of_getElem? (i := 103) rfl)) e14 G4 d11_129 rfl ?_
  refine g_iastore C X14 (pc' := 133) e14 FF8 (by decide) (by decide) 0 0 (by decide) (of_decide_eq_true rfl) d11_132 rfl ?_
  intro T15 h15 X15 e15 W15 Aq
  have XP := XP.wr W15
  have Pf0 := Pf0.other W15 (Or.inl ne_pr_b5)
  have Pf1 := Pf1.other W15 (Or.inl ne_pr_b5)
  have Pf2 := Pf2.other W15 (Or.inl ne_pr_b5)
  have Pf3 := Pf3.other W15 (Or.inl ne_pr_b5)
  have Pf4 := Pf4.other W15 (Or.inl ne_pr_b5)
  have Pf5 := Pf5.other W15 (Or.inl ne_pr_b5)
  have Pf6 := Pf6.other W15 (Or.inl ne_pr_b5)
  have Pf7 := Pf7.other W15 (Or.inl ne_pr_b5)
  have XB := XB.wr W15
  have G0 := G0.other W15 (Or.inl ne_bu_b5)
  have G1 := G1.other W15 (Or.inl ne_bu_b5)
  have G2 := G2.other W15 (Or.inl ne_bu_b5)
  have G3 := G3.other W15 (Or.inl ne_bu_b5)
  have G4 := G4.other W15 (Or.inl ne_bu_b5)
  have G5 := G5.other W15 (Or.inl ne_bu_b5)
  have G6 := G6.other W15 (Or.inl ne_bu_b5)
  have G7 := G7.other W15 (Or.inl ne_bu_b5)
  have G8 := G8.other W15 (Or.inl ne_bu_b5)
  have G9 := G9.other W15 (Or.inl ne_bu_b5)
  have G10 := G10.other W15 (Or.inl ne_bu_b5)
  have Ad1 := Ad1.other W15 ne_ad1_b5
  have Ad2 := Ad2.other W15 ne_ad2_b5
  have Ad3 := Ad3.other W15 ne_ad3_b5
  have Ad4 := Ad4.other W15 ne_ad4_b5
  have Ad5 := Ad5.other W15 ne_ad5_b5
  have Ad6 := Ad6.other W15 ne_rb_b5
  have XR := XR.wr W15
  have FF3 := FF3.wr W15
  have FF4 := FF4.other W15 ne_b1_b5
  have B7 := B7.wr W15
  have FI11 := FI11.other W15 ne_a7_b5
  have FF7 := FF7.wr W15
  have Z15 : n0 ≤ h15.size := by rw [W15.size]; exact Z13
  have N15 := Fr.snoc X15 N13 z_b5
  have P15 := P13.wr W15 (Or.inr y_b5)
  have FF8 : Arv Z h15 b5 kc6 .int (1 : Int32) [(.int (0 : Int32))] (.int (0 : Int32)) := Aq
  refine g_aloadN C X15 (pc' := 134) d11_133 rfl rfl rfl ?_
  refine g_aloadN C X15 (pc' := 135) d11_134 rfl rfl rfl ?_
  refine g_getFR C X15 (pc' := 138) (hw _ (List.mem_of_getElem? (i := 105) rfl)) e15 G7 d11_135 rfl ?_
  refine g_aloadN C X15 (pc' := 139) d11_138 rfl rfl rfl ?_
  refine g_getFR C X15 (pc' := 142) (hw _ (List.mem_of_getElem? (i := 103) rfl)) e15 G4 d11_139 rfl ?_
  refine g_callS C X15 (k7_copyOf l Z a0 hw h15 n0 Z15  ad3 kd3    Ad3) (hw _ (List.mem_of_getElem? (i := 77) rfl)) (hw _ (List.mem_of_getElem? (i := 78) rfl)) (hw _ (List.mem_of_getElem? (i := 79) rfl)) (hw _ (List.mem_of_getElem? (i := 80) rfl)) (by decide) e15 d11_142 rfl kk_24 [(.ref ad3), (.int (0 : Int32))] [(.ref pr)] rfl rfl rfl 1 rfl (by decide) (by decide) (by decide) (by decide) rfl ?_
  rintro _ T16 L16 X16 ⟨b9, kc10, rfl, M16, K16, w_b9, FF11, FF12⟩
  have ne_a7_b9 : a7 ≠ b9 := Nat.ne_of_lt (Nat.lt_of_lt_of_le B7.lt w_b9)
  have ne_ad1_b9 : ad1 ≠ b9 := Nat.ne_of_lt (Nat.lt_of_lt_of_le Ad1.lt w_b9)
  have ne_ad2_b9 : ad2 ≠ b9 := Nat.ne_of_lt (Nat.lt_of_lt_of_le Ad2.lt w_b9)
  have ne_ad3_b9 : ad3 ≠ b9 := Nat.ne_of_lt (Nat.lt_of_lt_of_le Ad3.lt w_b9)
  have ne_ad4_b9 : ad4 ≠ b9 := Nat.ne_of_lt (Nat.lt_of_lt_of_le Ad4.lt w_b9)
  have ne_ad5_b9 : ad5 ≠ b9 := Nat.ne_of_lt (Nat.lt_of_lt_of_le Ad5.lt w_b9)
  have ne_b1_b9 : b1 ≠ b9 := Nat.ne_of_lt (Nat.lt_of_lt_of_le FF3.lt w_b9)
  have ne_b5_b9 : b5 ≠ b9 := Nat.ne_of_lt (Nat.lt_of_lt_of_le FF7.lt w_b9)
  have ne_bu_b9 : bu ≠ b9 := Nat.ne_of_lt (Nat.lt_of_lt_of_le XB.lt w_b9)
  have ne_pr_b9 : pr ≠ b9 := Nat.ne_of_lt (Nat.lt_of_lt_of_le XP.lt w_b9)
  have ne_rb_b9 : rb ≠ b9 := Nat.ne_of_lt (Nat.lt_of_lt_of_le Ad6.lt w_b9)
  have z_b9 : n0 ≤ b9 := Nat.le_trans Z15 w_b9
  have y_b9 : h.size ≤ b9 := Nat.le_trans P15.1 w_b9
  have XP := XP.keep K16
  have Pf0 := Pf0.keep K16 nin0
  have Pf1 := Pf1.keep K16 nin0
  have Pf2 := Pf2.keep K16 nin0
  have Pf3 := Pf3.keep K16 nin0
  have Pf4 := Pf4.keep K16 nin0
  have Pf5 := Pf5.keep K16 nin0
  have Pf6 := Pf6.keep K16 nin0
  have Pf7 := Pf7.keep K16 nin0
  have XB := XB.keep K16
  have G0 := G0.keep K16 nin0
  have G1 := G1.keep K16 nin0
  have G2 := G2.keep K16 nin0
  have G3 := G3.keep K16 nin0
  have G4 := G4.keep K16 nin0
  have G5 := G5.keep K16 nin0
  have G6 := G6.keep K16 nin0
  have G7 := G7.keep K16 nin0
  have G8 := G8.keep K16 nin0
  have G9 := G9.keep K16 nin0
  have G10 := G10.keep K16 nin0
  have Ad1 := Ad1.keep K16 nin0
  have Ad2 := Ad2.keep K16 nin0
  have Ad3 := Ad3.keep K16 nin0
  have Ad4 := Ad4.keep K16 nin0
  have Ad5 := Ad5.keep K16 nin0
  have Ad6 := Ad6.keep K16 nin0
  have XR := XR.keep K16
  have FF3 := FF3.keep K16
  have FF4 := FF4.keep K16 nin0
  have B7 := B7.keep K16
  have FI11 := FI11.keep K16 nin0
  have FF7 := FF7.keep K16
  have FF8 := FF8.keep K16 nin0
  have Z16 : n0 ≤ T16.heap.size := Nat.le_trans Z15 K16.1
  have P16 := P15.trans K16 al0
  have N16 := Fr.app N15 M16
  obtain ⟨h16, e16⟩ : ∃ z, T16.heap = z := ⟨_, rfl⟩
  rw [e16] at XP Pf0 Pf1 Pf2 Pf3 Pf4 Pf5 Pf6 Pf7 XB G0 G1 G2 G3 G4 G5 G6 G7 G8 G9 G10 Ad1 Ad2 Ad3 Ad4 Ad5 Ad6 XR FF3 FF4 B7 FI11 FF7 FF8 FF11 FF12 Z16 P16
  show Go p.tables e below _ T16 (mkF m 145 #[.val (.ref pr), .val (.ref bu), .val (.int (0 : Int32))] [(.ref b9), (.ref pr)])
  refine g_putF C X16 (host := "") (Or.inl (hw _ (List.mem_of_getElem? (i := 106) rfl))) Via.refl e16 Pf4 XP (Or.inr ⟨(hw _ (List.mem_of_getElem? (i := 107) rfl)), rfl, rfl⟩) (hw _ (List.mem_of_getElem? (i := 66) rfl)) (ty := (.array .int)) (by decide) rfl rfl d11_145 rfl ?_
  intro T17 h17 X17 e17 W17
  have XP := XP.wr W17
  have Pf0 := Pf0.other W17 (Or.inr (slot_ne (Or.inr (hw _ (List.mem_of_getElem? (i := 74) rfl))) (Or.inr (hw _ (List.mem_of_getElem? (i := 107) rfl))) (by decide) rfl rfl))
  have Pf1 := Pf1.other W17 (Or.inr (slot_ne (Or.inr (hw _ (List.mem_of_getElem? (i := 89) rfl))) (Or.inr (hw _ (List.mem_of_getElem? (i := 107) rfl))) (by decide) rfl rfl))
  have Pf2 := Pf2.other W17 (Or.inr (slot_ne (Or.inr (hw _ (List.mem_of_getElem? (i := 92) rfl))) (Or.inr (hw _ (List.mem_of_getElem? (i := 107) rfl))) (by decide) rfl rfl))
  have Pf3 := Pf3.other W17 (Or.inr (slot_ne (Or.inr (hw _ (List.mem_of_getElem? (i := 102) rfl))) (Or.inr (hw _ (List.mem_of_getElem? (i := 107) rfl))) (by decide) rfl rfl))
  have Pf4 := Pf4.same W17
  have Pf5 := Pf5.other W17 (Or.inr (slot_ne (Or.inr (hw _ (List.mem_of_getElem? (i := 113) rfl))) (Or.inr (hw _ (List.mem_of_getElem? (i := 107) rfl))) (by decide) rfl rfl))
  have Pf6 := Pf6.other W17 (Or.inr (slot_ne (Or.inr (hw _ (List.mem_of_getElem? (i := 116) rfl))) (Or.inr (hw _ (List.mem_of_getElem? (i := 107) rfl))) (by decide) rfl rfl))
  have Pf7 := Pf7.other W17 (Or.inr (slot_ne (Or.inr (hw _ (List.mem_of_getElem? (i := 119) rfl))) (Or.inr (hw _ (List.mem_of_getElem? (i := 107) rfl))) (by decide) rfl rfl))
  have XB := XB.wr W17
  have G0 := G0.other W17 (Or.inl (Ne.symm ne_pr_bu))
  have G1 := G1.other W17 (Or.inl (Ne.symm ne_pr_bu))
  have G2 := G2.other W17 (Or.inl (Ne.symm ne_pr_bu))
  have G3 := G3.other W17 (Or.inl (Ne.symm ne_pr_bu))
  have G4 := G4.other W17 (Or.inl (Ne.symm ne_pr_bu))
  have G5 := G5.other W17 (Or.inl (Ne.symm ne_pr_bu))
  have G6 := G6.other W17 (Or.inl (Ne.symm ne_pr_bu))
  have G7 := G7.other W17 (Or.inl (Ne.symm ne_pr_bu))
  have G8 := G8.other W17 (Or.inl (Ne.symm ne_pr_bu))
  have G9 := G9.other W17 (Or.inl (Ne.symm ne_pr_bu))
  have G10 := G10.other W17 (Or.inl (Ne.symm ne_pr_bu))
  have Ad1 := Ad1.other W17 (Ne.symm ne_pr_ad1)
  have Ad2 := Ad2.other W17 (Ne.symm ne_pr_ad2)
  have Ad3 := Ad3.other W17 (Ne.symm ne_pr_ad3)
  have Ad4 := Ad4.other W17 (Ne.symm ne_pr_ad4)
  have Ad5 := Ad5.other W17 (Ne.symm ne_pr_ad5)
  have Ad6 := Ad6.other W17 (Ne.symm ne_pr_rb)
  have XR := XR.wr W17
  have FF3 := FF3.wr W17
  have FF4 := FF4.other W17 (Ne.symm ne_pr_b1)
  have B7 := B7.wr W17
  have FI11 := FI11.other W17 (Ne.symm ne_pr_a7)
  have FF7 := FF7.wr W17
  have FF8 := FF8.other W17 (Ne.symm ne_pr_b5)
  have FF11 := FF11.wr W17
  have FF12 := FF12.other W17 (Ne.symm ne_pr_b9)
  have Z17 : n0 ≤ h17.size := by rw [W17.size]; exact Z16
  have N17 := Fr.snoc X17 N16 z_pr
  have P17 := P16.wr W17 (Or.inl (List.mem_of_getElem? (i := 0) rfl))
  refine g_aloadN C X17 (pc' := 149) d11_148 rfl rfl rfl ?_
  refine g_aloadN C X17 (pc' := 150) d11_149 rfl rfl rfl ?_
  refine g_getFR C X17 (pc' := 153) (hw _ (List.mem_of_getElem? (i := 108) rfl)) e17 G8 d11_150 rfl ?_
  refine g_aloadN C X17 (pc' := 154) d11_153 rfl rfl rfl ?_
  refine g_getFR C X17 (pc' := 157) (hw _ (List.mem_of_getElem? (i := 103) rfl)) e17 G4 d11_154 rfl ?_
  refine g_callS C X17 (k8_copyOf l Z a0 hw h17 n0 Z17  ad4 kd4    Ad4) (hw _ (List.mem_of_getElem? (i := 109) rfl)) (hw _ (List.mem_of_getElem? (i := 110) rfl)) (hw _ (List.mem_of_getElem? (i := 79) rfl)) (hw _ (List.mem_of_getElem? (i := 111) rfl)) (by decide) e17 d11_157 rfl kk_15 [(.ref ad4), (.int (0 : Int32))] [(.ref pr)] rfl rfl rfl 1 rfl (by decide) (by decide) (by decide) (by decide) rfl ?_
  rintro _ T18 L18 X18 ⟨b13, kc14, rfl, M18, K18, w_b13, FF15, FF16⟩
  have ne_a7_b13 : a7 ≠ b13 := Nat.ne_of_lt (Nat.lt_of_lt_of_le B7.lt w_b13)
  have ne_ad1_b13 : ad1 ≠ b13 := Nat.ne_of_lt (Nat.lt_of_lt_of_le Ad1.lt w_b13)
  have ne_ad2_b13 : ad2 ≠ b13 := Nat.ne_of_lt (Nat.lt_of_lt_of_le Ad2.lt w_b13)
  have ne_ad3_b13 : ad3 ≠ b13 := Nat.ne_of_lt (Nat.lt_of_lt_of_le Ad3.lt w_b13)
  have ne_ad4_b13 : ad4 ≠ b13 := Nat.ne_of_lt (Nat.lt_of_lt_of_le Ad4.lt w_b13)
  have ne_ad5_b13 : ad5 ≠ b13 := Nat.ne_of_lt (Nat.lt_of_lt_of_le Ad5.lt w_b13)
  have ne_b1_b13 : b1 ≠ b13 := Nat.ne_of_lt (Nat.lt_of_lt_of_le FF3.lt w_b13)
  have ne_b5_b13 : b5 ≠ b13 := Nat.ne_of_lt (Nat.lt_of_lt_of_le FF7.lt w_b13)
  have ne_b9_b13 : b9 ≠ b13 := Nat.ne_of_lt (Nat.lt_of_lt_of_le FF11.lt w_b13)
  have ne_bu_b13 : bu ≠ b13 := Nat.ne_of_lt (Nat.lt_of_lt_of_le XB.lt w_b13)
  have ne_pr_b13 : pr ≠ b13 := Nat.ne_of_lt (Nat.lt_of_lt_of_le XP.lt w_b13)
  have ne_rb_b13 : rb ≠ b13 := Nat.ne_of_lt (Nat.lt_of_lt_of_le Ad6.lt w_b13)
  have z_b13 : n0 ≤ b13 := Nat.le_trans Z17 w_b13
  have y_b13 : h.size ≤ b13 := Nat.le_trans P17.1 w_b13
  have XP := XP.keep K18
  have Pf0 := Pf0.keep K18 nin0
  have Pf1 := Pf1.keep K18 nin0
  have Pf2 := Pf2.keep K18 nin0
  have Pf3 := Pf3.keep K18 nin0
  have Pf4 := Pf4.keep K18 nin0
  have Pf5 := Pf5.keep K18 nin0
  have Pf6 := Pf6.keep K18 nin0
  have Pf7 := Pf7.keep K18 nin0
  have XB := XB.keep K18
  have G0 := G0.keep K18 nin0
  have G1 := G1.keep K18 nin0
  have G2 := G2.keep K18 nin0
  have G3 := G3.keep K18 nin0
  have G4 := G4.keep K18 nin0
  have G5 := G5.keep K18 nin0
  have G6 := G6.keep K18 nin0
  have G7 := G7.keep K18 nin0
  have G8 := G8.keep K18 nin0
  have G9 := G9.keep K18 nin0
  have G10 := G10.keep K18 nin0
  have Ad1 := Ad1.keep K18 nin0
  have Ad2 := Ad2.keep K18 nin0
  have Ad3 := Ad3.keep K18 nin0
  have Ad4 := Ad4.keep K18 nin0
  have Ad5 := Ad5.keep K18 nin0
  have Ad6 := Ad6.keep K18 nin0
  have XR := XR.keep K18
  have FF3 := FF3.keep K18
  have FF4 := FF4.keep K18 nin0
  have B7 := B7.keep K18
  have FI11 := FI11.keep K18 nin0
  have FF7 := FF7.keep K18
  have FF8 := FF8.keep K18 nin0
  have FF11 := FF11.keep K18
  have FF12 := FF12.keep K18 nin0
  have Z18 : n0 ≤ T18.heap.size := Nat.le_trans Z17 K18.1
  have P18 := P17.trans K18 al0
  have N18 := Fr.app N17 M18
  obtain ⟨h18, e18⟩ : ∃ z, T18.heap = z := ⟨_, rfl⟩
  rw [e18] at XP Pf0 Pf1 Pf2 Pf3 Pf4 Pf5 Pf6 Pf7 XB G0 G1 G2 G3 G4 G5 G6 G7 G8 G9 G10 Ad1 Ad2 Ad3 Ad4 Ad5 Ad6 XR FF3 FF4 B7 FI11 FF7 FF8 FF11 FF12 FF15 FF16 Z18 P18
  show Go p.tables e below _ T18 (mkF m 160 #[.val (.ref pr), .val (.ref bu), .val (.int (0 : Int32))] [(.ref b13), (.ref pr)])
  refine g_putF C X18 (host := "") (Or.inl (hw _ (List.mem_of_getElem? (i := 112) rfl))) Via.refl e18 Pf5 XP (Or.inr ⟨(hw _ (List.mem_of_getElem? (i := 113) rfl)), rfl, rfl⟩) (hw _ (List.mem_of_getElem? (i := 66) rfl)) (ty := (.array .double)) (by decide) rfl rfl d11_160 rfl ?_
  intro T19 h19 X19 e19 W19
  have XP := XP.wr W19
  have Pf0 := Pf0.other W19 (Or.inr (slot_ne (Or.inr (hw _ (List.mem_of_getElem? (i := 74) rfl))) (Or.inr (hw _ (List.mem_of_getElem? (i := 113) rfl))) (by decide) rfl rfl))
  have Pf1 := Pf1.other W19 (Or.inr (slot_ne (Or.inr (hw _ (List.mem_of_getElem? (i := 89) rfl))) (Or.inr (hw _ (List.mem_of_getElem? (i := 113) rfl))) (by decide) rfl rfl))
  have Pf2 := Pf2.other W19 (Or.inr (slot_ne (Or.inr (hw _ (List.mem_of_getElem? (i := 92) rfl))) (Or.inr (hw _ (List.mem_of_getElem? (i := 113) rfl))) (by decide) rfl rfl))
  have Pf3 := Pf3.other W19 (Or.inr (slot_ne (Or.inr (hw _ (List.mem_of_getElem? (i := 102) rfl))) (Or.inr (hw _ (List.mem_of_getElem? (i := 113) rfl))) (by decide) rfl rfl))
  have Pf4 := Pf4.other W19 (Or.inr (slot_ne (Or.inr (hw _ (List.mem_of_getElem? (i := 107) rfl))) (Or.inr (hw _ (List.mem_of_getElem? (i := 113) rfl))) (by decide) rfl rfl))
  have Pf5 := Pf5.same W19
  have Pf6 := Pf6.other W19 (Or.inr (slot_ne (Or.inr (hw _ (List.mem_of_getElem? (i := 116) rfl))) (Or.inr (hw _ (List.mem_of_getElem? (i := 113) rfl))) (by decide) rfl rfl))
  have Pf7 := Pf7.other W19 (Or.inr (slot_ne (Or.inr (hw _ (List.mem_of_getElem? (i := 119) rfl))) (Or.inr (hw _ (List.mem_of_getElem? (i := 113) rfl))) (by decide) rfl rfl))
  have XB := XB.wr W19
  have G0 := G0.other W19 (Or.inl (Ne.symm ne_pr_bu))
  have G1 := G1.other W19 (Or.inl (Ne.symm ne_pr_bu))
  have G2 := G2.other W19 (Or.inl (Ne.symm ne_pr_bu))
  have G3 := G3.other W19 (Or.inl (Ne.symm ne_pr_bu))
  have G4 := G4.other W19 (Or.inl (Ne.symm ne_pr_bu))
  have G5 := G5.other W19 (Or.inl (Ne.symm ne_pr_bu))
  have G6 := G6.other W19 (Or.inl (Ne.symm ne_pr_bu))
  have G7 := G7.other W19 (Or.inl (Ne.symm ne_pr_bu))
  have G8 := G8.other W19 (Or.inl (Ne.symm ne_pr_bu))
  have G9 := G9.other W19 (Or.inl (Ne.symm ne_pr_bu))
  have G10 := G10.other W19 (Or.inl (Ne.symm ne_pr_bu))
  have Ad1 := Ad1.other W19 (Ne.symm ne_pr_ad1)
  have Ad2 := Ad2.other W19 (Ne.symm ne_pr_ad2)
  have Ad3 := Ad3.other W19 (Ne.symm ne_pr_ad3)
  have Ad4 := Ad4.other W19 (Ne.symm ne_pr_ad4)
  have Ad5 := Ad5.other W19 (Ne.symm ne_pr_ad5)
  have Ad6 := Ad6.other W19 (Ne.symm ne_pr_rb)
  have XR := XR.wr W19
  have FF3 := FF3.wr W19
  have FF4 := FF4.other W19 (Ne.symm ne_pr_b1)
  have B7 := B7.wr W19
  have FI11 := FI11.other W19 (Ne.symm ne_pr_a7)
  have FF7 := FF7.wr W19
  have FF8 := FF8.other W19 (Ne.symm ne_pr_b5)
  have FF11 := FF11.wr W19
  have FF12 := FF12.other W19 (Ne.symm ne_pr_b9)
  have FF15 := FF15.wr W19
  have FF16 := FF16.other W19 (Ne.symm ne_pr_b13)
  have Z19 : n0 ≤ h19.size := by rw [W19.size]; exact Z18
  have N19 := Fr.snoc X19 N18 z_pr
  have P19 := P18.wr W19 (Or.inl (List.mem_of_getElem? (i := 0) rfl))
  refine g_aloadN C X19 (pc' := 164) d11_163 rfl rfl rfl ?_
  refine g_aloadN C X19 (pc' := 165) d11_164 rfl rfl rfl ?_
  refine g_getFR C X19 (pc' := 168) (hw _ (List.mem_of_getElem? (i := 114) rfl)) e19 G9 d11_165 rfl ?_
  refine g_aloadN C X19 (pc' := 169) d11_168 rfl rfl rfl ?_
  refine g_getFR C X19 (pc' := 172) (hw _ (List.mem_of_getElem? (i := 100) rfl)) e19 G3 d11_169 rfl ?_
  refine g_callS C X19 (k8_copyOf l Z a0 hw h19 n0 Z19  ad5 kd5    Ad5) (hw _ (List.mem_of_getElem? (i := 109) rfl)) (hw _ (List.mem_of_getElem? (i := 110) rfl)) (hw _ (List.mem_of_getElem? (i := 79) rfl)) (hw _ (List.mem_of_getElem? (i := 111) rfl)) (by decide) e19 d11_172 rfl kk_15 [(.ref ad5), (.int (0 : Int32))] [(.ref pr)] rfl rfl rfl 1 rfl (by decide) (by decide) (by decide) (by decide) rfl ?_
  rintro _ T20 L20 X20 ⟨b17, kc18, rfl, M20, K20, w_b17, FF19, FF20⟩
  have ne_a7_b17 : a7 ≠ b17 := Nat.ne_of_lt (Nat.lt_of_lt_of_le B7.lt w_b17)
  have ne_ad1_b17 : ad1 ≠ b17 := Nat.ne_of_lt (Nat.lt_of_lt_of_le Ad1.lt w_b17)
  have ne_ad2_b17 : ad2 ≠ b17 := Nat.ne_of_lt (Nat.lt_of_lt_of_le Ad2.lt w_b17)
  have ne_ad3_b17 : ad3 ≠ b17 := Nat.ne_of_lt (Nat.lt_of_lt_of_le Ad3.lt w_b17)
  have ne_ad4_b17 : ad4 ≠ b17 := Nat.ne_of_lt (Nat.lt_of_lt_of_le Ad4.lt w_b17)
  have ne_ad5_b17 : ad5 ≠ b17 := Nat.ne_of_lt (Nat.lt_of_lt_of_le Ad5.lt w_b17)
  have ne_b1_b17 : b1 ≠ b17 := Nat.ne_of_lt (Nat.lt_of_lt_of_le FF3.lt w_b17)
  have ne_b13_b17 : b13 ≠ b17 := Nat.ne_of_lt (Nat.lt_of_lt_of_le FF15.lt w_b17)
  have ne_b5_b17 : b5 ≠ b17 := Nat.ne_of_lt (Nat.lt_of_lt_of_le FF7.lt w_b17)
  have ne_b9_b17 : b9 ≠ b17 := Nat.ne_of_lt (Nat.lt_of_lt_of_le FF11.lt w_b17)
  have ne_bu_b17 : bu ≠ b17 := Nat.ne_of_lt (Nat.lt_of_lt_of_le XB.lt w_b17)
  have ne_pr_b17 : pr ≠ b17 := Nat.ne_of_lt (Nat.lt_of_lt_of_le XP.lt w_b17)
  have ne_rb_b17 : rb ≠ b17 := Nat.ne_of_lt (Nat.lt_of_lt_of_le Ad6.lt w_b17)
  have z_b17 : n0 ≤ b17 := Nat.le_trans Z19 w_b17
  have y_b17 : h.size ≤ b17 := Nat.le_trans P19.1 w_b17
  have XP := XP.keep K20
  have Pf0 := Pf0.keep K20 nin0
  have Pf1 := Pf1.keep K20 nin0
  have Pf2 := Pf2.keep K20 nin0
  have Pf3 := Pf3.keep K20 nin0
  have Pf4 := Pf4.keep K20 nin0
  have Pf5 := Pf5.keep K20 nin0
  have Pf6 := Pf6.keep K20 nin0
  have Pf7 := Pf7.keep K20 nin0
  have XB := XB.keep K20
  have G0 := G0.keep K20 nin0
  have G1 := G1.keep K20 nin0
  have G2 := G2.keep K20 nin0
  have G3 := G3.keep K20 nin0
  have G4 := G4.keep K20 nin0
  have G5 := G5.keep K20 nin0
  have G6 := G6.keep K20 nin0
  have G7 := G7.keep K20 nin0
  have G8 := G8.keep K20 nin0
  have G9 := G9.keep K20 nin0
  have G10 := G10.keep K20 nin0
  have Ad1 := Ad1.keep K20 nin0
  have Ad2 := Ad2.keep K20 nin0
  have Ad3 := Ad3.keep K20 nin0
  have Ad4 := Ad4.keep K20 nin0
  have Ad5 := Ad5.keep K20 nin0
  have Ad6 := Ad6.keep K20 nin0
  have XR := XR.keep K20
  have FF3 := FF3.keep K20
  have FF4 := FF4.keep K20 nin0
  have B7 := B7.keep K20
  have FI11 := FI11.keep K20 nin0
  have FF7 := FF7.keep K20
  have FF8 := FF8.keep K20 nin0
  have FF11 := FF11.keep K20
  have FF12 := FF12.keep K20 nin0
  have FF15 := FF15.keep K20
  have FF16 := FF16.keep K20 nin0
  have Z20 : n0 ≤ T20.heap.size := Nat.le_trans Z19 K20.1
  have P20 := P19.trans K20 al0
  have N20 := Fr.app N19 M20
  obtain ⟨h20, e20⟩ : ∃ z, T20.heap = z := ⟨_, rfl⟩
  rw [e20] at XP Pf0 Pf1 Pf2 Pf3 Pf4 Pf5 Pf6 Pf7 XB G0 G1 G2 G3 G4 G5 G6 G7 G8 G9 G10 Ad1 Ad2 Ad3 Ad4 Ad5 Ad6 XR FF3 FF4 B7 FI11 FF7 FF8 FF11 FF12 FF15 FF16 FF19 FF20 Z20 P20
  show Go p.tables e below _ T20 (mkF m 175 #[.val (.ref pr), .val (.ref bu), .val (.int (0 : Int32))] [(.ref b17), (.ref pr)])
  refine g_putF C X20 (host := "") (Or.inl (hw _ (List.mem_of_getElem? (i := 115) rfl))) Via.refl e20 Pf6 XP (Or.inr ⟨(hw _ (List.mem_of_getElem? (i := 116) rfl)), rfl, rfl⟩) (hw _ (List.mem_of_getElem? (i := 66) rfl)) (ty := (.array .double)) (by decide) rfl rfl d11_175 rfl ?_
  intro T21 h21 X21 e21 W21
  have XP := XP.wr W21
  have Pf0 := Pf0.other W21 (Or.inr (slot_ne (Or.inr (hw _ (List.mem_of_getElem? (i := 74) rfl))) (Or.inr (hw _ (List.mem_of_getElem? (i := 116) rfl))) (by decide) rfl rfl))
  have Pf1 := Pf1.other W21 (Or.inr (slot_ne (Or.inr (hw _ (List.mem_of_getElem? (i := 89) rfl))) (Or.inr (hw _ (List.mem_of_getElem? (i := 116) rfl))) (by decide) rfl rfl))
  have Pf2 := Pf2.other W21 (Or.inr (slot_ne (Or.inr (hw _ (List.mem_of_getElem? (i := 92) rfl))) (Or.inr (hw _ (List.mem_of_getElem? (i := 116) rfl))) (by decide) rfl rfl))
  have Pf3 := Pf3.other W21 (Or.inr (slot_ne (Or.inr (hw _ (List.mem_of_getElem? (i := 102) rfl))) (Or.inr (hw _ (List.mem_of_getElem? (i := 116) rfl))) (by decide) rfl rfl))
  have Pf4 := Pf4.other W21 (Or.inr (slot_ne (Or.inr (hw _ (List.mem_of_getElem? (i := 107) rfl))) (Or.inr (hw _ (List.mem_of_getElem? (i := 116) rfl))) (by decide) rfl rfl))
  have Pf5 := Pf5.other W21 (Or.inr (slot_ne (Or.inr (hw _ (List.mem_of_getElem? (i := 113) rfl))) (Or.inr (hw _ (List.mem_of_getElem? (i := 116) rfl))) (by decide) rfl rfl))
  have Pf6 := Pf6.same W21
  have Pf7 := Pf7.other W21 (Or.inr (slot_ne (Or.inr (hw _ (List.mem_of_getElem? (i := 119) rfl))) (Or.inr (hw _ (List.mem_of_getElem? (i := 116) rfl))) (by decide) rfl rfl))
  have XB := XB.wr W21
  have G0 := G0.other W21 (Or.inl (Ne.symm ne_pr_bu))
  have G1 := G1.other W21 (Or.inl (Ne.symm ne_pr_bu))
  have G2 := G2.other W21 (Or.inl (Ne.symm ne_pr_bu))
  have G3 := G3.other W21 (Or.inl (Ne.symm ne_pr_bu))
  have G4 := G4.other W21 (Or.inl (Ne.symm ne_pr_bu))
  have G5 := G5.other W21 (Or.inl (Ne.symm ne_pr_bu))
  have G6 := G6.other W21 (Or.inl (Ne.symm ne_pr_bu))
  have G7 := G7.other W21 (Or.inl (Ne.symm ne_pr_bu))
  have G8 := G8.other W21 (Or.inl (Ne.symm ne_pr_bu))
  have G9 := G9.other W21 (Or.inl (Ne.symm ne_pr_bu))
  have G10 := G10.other W21 (Or.inl (Ne.symm ne_pr_bu))
  have Ad1 := Ad1.other W21 (Ne.symm ne_pr_ad1)
  have Ad2 := Ad2.other W21 (Ne.symm ne_pr_ad2)
  have Ad3 := Ad3.other W21 (Ne.symm ne_pr_ad3)
  have Ad4 := Ad4.other W21 (Ne.symm ne_pr_ad4)
  have Ad5 := Ad5.other W21 (Ne.symm ne_pr_ad5)
  have Ad6 := Ad6.other W21 (Ne.symm ne_pr_rb)
  have XR := XR.wr W21
  have FF3 := FF3.wr W21
  have FF4 := FF4.other W21 (Ne.symm ne_pr_b1)
  have B7 := B7.wr W21
  have FI11 := FI11.other W21 (Ne.symm ne_pr_a7)
  have FF7 := FF7.wr W21
  have FF8 := FF8.other W21 (Ne.symm ne_pr_b5)
  have FF11 := FF11.wr W21
  have FF12 := FF12.other W21 (Ne.symm ne_pr_b9)
  have FF15 := FF15.wr W21
  have FF16 := FF16.other W21 (Ne.symm ne_pr_b13)
  have FF19 := FF19.wr W21
  have FF20 := FF20.other W21 (Ne.symm ne_pr_b17)
  have Z21 : n0 ≤ h21.size := by rw [W21.size]; exact Z20
  have N21 := Fr.snoc X21 N20 z_pr
  have P21 := P20.wr W21 (Or.inl (List.mem_of_getElem? (i := 0) rfl))
  refine g_aloadN C X21 (pc' := 179) d11_178 rfl rfl rfl ?_
  refine g_aloadN C X21 (pc' := 180) d11_179 rfl rfl rfl ?_
  refine g_getFR C X21 (pc' := 183) (hw _ (List.mem_of_getElem? (i := 117) rfl)) e21 G10 d11_180 rfl ?_
  refine g_aloadN C X21 (pc' := 184) d11_183 rfl rfl rfl ?_
  refine g_getFR C X21 (pc' := 187) (hw _ (List.mem_of_getElem? (i := 90) rfl)) e21 G1 d11_184 rfl ?_
  refine g_callS C X21 (c_copyD l Z a0 hw h21 n0 Z21 rb kb zz rows Lq (by omega) (by omega) hLq Ad6 XR) (hw _ (List.mem_of_getElem? (i := 109) rfl)) (hw _ (List.mem_of_getElem? (i := 110) rfl)) (hw _ (List.mem_of_getElem? (i := 79) rfl)) (hw _ (List.mem_of_getElem? (i := 111) rfl)) (by decide) e21 d11_187 rfl kk_15 [(.ref rb), (.int rows)] [(.ref pr)] rfl rfl rfl 1 rfl (by decide) (by decide) (by decide) (by decide) rfl ?_
  rintro _ T22 L22 X22 ⟨bz, kbz, rfl, M22, K22, y9_bz, Abz, Xbz⟩
  have ne_a7_bz : a7 ≠ bz := Nat.ne_of_lt (Nat.lt_of_lt_of_le B7.lt y9_bz)
  have ne_ad1_bz : ad1 ≠ bz := Nat.ne_of_lt (Nat.lt_of_lt_of_le Ad1.lt y9_bz)
  have ne_ad2_bz : ad2 ≠ bz := Nat.ne_of_lt (Nat.lt_of_lt_of_le Ad2.lt y9_bz)
  have ne_ad3_bz : ad3 ≠ bz := Nat.ne_of_lt (Nat.lt_of_lt_of_le Ad3.lt y9_bz)
  have ne_ad4_bz : ad4 ≠ bz := Nat.ne_of_lt (Nat.lt_of_lt_of_le Ad4.lt y9_bz)
  have ne_ad5_bz : ad5 ≠ bz := Nat.ne_of_lt (Nat.lt_of_lt_of_le Ad5.lt y9_bz)
  have ne_b1_bz : b1 ≠ bz := Nat.ne_of_lt (Nat.lt_of_lt_of_le FF3.lt y9_bz)
  have ne_b13_bz : b13 ≠ bz := Nat.ne_of_lt (Nat.lt_of_lt_of_le FF15.lt y9_bz)
  have ne_b17_bz : b17 ≠ bz := Nat.ne_of_lt (Nat.lt_of_lt_of_le FF19.lt y9_bz)
  have ne_b5_bz : b5 ≠ bz := Nat.ne_of_lt (Nat.lt_of_lt_of_le FF7.lt y9_bz)
  have ne_b9_bz : b9 ≠ bz := Nat.ne_of_lt (Nat.lt_of_lt_of_le FF11.lt y9_bz)
  have ne_bu_bz : bu ≠ bz := Nat.ne_of_lt (Nat.lt_of_lt_of_le XB.lt y9_bz)
  have ne_pr_bz : pr ≠ bz := Nat.ne_of_lt (Nat.lt_of_lt_of_le XP.lt y9_bz)
  have ne_rb_bz : rb ≠ bz := Nat.ne_of_lt (Nat.lt_of_lt_of_le Ad6.lt y9_bz)
  have z_bz : n0 ≤ bz := Nat.le_trans Z21 y9_bz
  have y_bz : h.size ≤ bz := Nat.le_trans P21.1 y9_bz
  have z_bz : n0 ≤ bz := Nat.le_trans Z21 y9_bz
  have y_bz : h.size ≤ bz := Nat.le_trans P21.1 y9_bz
  have XP := XP.keep K22
  have Pf0 := Pf0.keep K22 nin0
  have Pf1 := Pf1.keep K22 nin0
  have Pf2 := Pf2.keep K22 nin0
  have Pf3 := Pf3.keep K22 nin0
  have Pf4 := Pf4.keep K22 nin0
  have Pf5 := Pf5.keep K22 nin0
  have Pf6 := Pf6.keep K22 nin0
  have Pf7 := Pf7.keep K22 nin0
  have XB := XB.keep K22
  have G0 := G0.keep K22 nin0
  have G1 := G1.keep K22 nin0
  have G2 := G2.keep K22 nin0
  have G3 := G3.keep K22 nin0
  have G4 := G4.keep K22 nin0
  have G5 := G5.keep K22 nin0
  have G6 := G6.keep K22 nin0
  have G7 := G7.keep K22 nin0
  have G8 := G8.keep K22 nin0
  have G9 := G9.keep K22 nin0
  have G10 := G10.keep K22 nin0
  have Ad1 := Ad1.keep K22 nin0
  have Ad2 := Ad2.keep K22 nin0
  have Ad3 := Ad3.keep K22 nin0
  have Ad4 := Ad4.keep K22 nin0
  have Ad5 := Ad5.keep K22 nin0
  have Ad6 := Ad6.keep K22 nin0
  have XR := XR.keep K22
  have FF3 := FF3.keep K22
  have FF4 := FF4.keep K22 nin0
  have B7 := B7.keep K22
  have FI11 := FI11.keep K22 nin0
  have FF7 := FF7.keep K22
  have FF8 := FF8.keep K22 nin0
  have FF11 := FF11.keep K22
  have FF12 := FF12.keep K22 nin0
  have FF15 := FF15.keep K22
  have FF16 := FF16.keep K22 nin0
  have FF19 := FF19.keep K22
  have FF20 := FF20.keep K22 nin0
  have Z22 : n0 ≤ T22.heap.size := Nat.le_trans Z21 K22.1
  have P22 := P21.trans K22 al0
  have N22 := Fr.app N21 M22
  obtain ⟨h22, e22⟩ : ∃ z, T22.heap = z := ⟨_, rfl⟩
  rw [e22] at XP Pf0 Pf1 Pf2 Pf3 Pf4 Pf5 Pf6 Pf7 XB G0 G1 G2 G3 G4 G5 G6 G7 G8 G9 G10 Ad1 Ad2 Ad3 Ad4 Ad5 Ad6 XR FF3 FF4 B7 FI11 FF7 FF8 FF11 FF12 FF15 FF16 FF19 FF20 Abz Xbz Z22 P22
  show Go p.tables e below _ T22 (mkF m 190 #[.val (.ref pr), .val (.ref bu), .val (.int (0 : Int32))] [(.ref bz), (.ref pr)])
  refine g_putF C X22 (host := "") (Or.inl (hw _ (List.mem_of_getElem? (i := 118) rfl))) Via.refl e22 Pf7 XP (Or.inr ⟨(hw _ (List.mem_of_getElem? (i := 119) rfl)), rfl, rfl⟩) (hw _ (List.mem_of_getElem? (i := 66) rfl)) (ty := (.array .double)) (by decide) rfl rfl d11_190 rfl ?_
  intro T23 h23 X23 e23 W23
  have XP := XP.wr W23
  have Pf0 := Pf0.other W23 (Or.inr (slot_ne (Or.inr (hw _ (List.mem_of_getElem? (i := 74) rfl))) (Or.inr (hw _ (List.mem_of_getElem? (i := 119) rfl))) (by decide) rfl rfl))
  have Pf1 := Pf1.other W23 (Or.inr (slot_ne (Or.inr (hw _ (List.mem_of_getElem? (i := 89) rfl))) (Or.inr (hw _ (List.mem_of_getElem? (i := 119) rfl))) (by decide) rfl rfl))
  have Pf2 := Pf2.other W23 (Or.inr (slot_ne (Or.inr (hw _ (List.mem_of_getElem? (i := 92) rfl))) (Or.inr (hw _ (List.mem_of_getElem? (i := 119) rfl))) (by decide) rfl rfl))
  have Pf3 := Pf3.other W23 (Or.inr (slot_ne (Or.inr (hw _ (List.mem_of_getElem? (i := 102) rfl))) (Or.inr (hw _ (List.mem_of_getElem? (i := 119) rfl))) (by decide) rfl rfl))
  have Pf4 := Pf4.other W23 (Or.inr (slot_ne (Or.inr (hw _ (List.mem_of_getElem? (i := 107) rfl))) (Or.inr (hw _ (List.mem_of_getElem? (i := 119) rfl))) (by decide) rfl rfl))
  have Pf5 := Pf5.other W23 (Or.inr (slot_ne (Or.inr (hw _ (List.mem_of_getElem? (i := 113) rfl))) (Or.inr (hw _ (List.mem_of_getElem? (i := 119) rfl))) (by decide) rfl rfl))
  have Pf6 := Pf6.other W23 (Or.inr (slot_ne (Or.inr (hw _ (List.mem_of_getElem? (i := 116) rfl))) (Or.inr (hw _ (List.mem_of_getElem? (i := 119) rfl))) (by decide) rfl rfl))
  have Pf7 := Pf7.same W23
  have XB := XB.wr W23
  have G0 := G0.other W23 (Or.inl (Ne.symm ne_pr_bu))
  have G1 := G1.other W23 (Or.inl (Ne.symm ne_pr_bu))
  have G2 := G2.other W23 (Or.inl (Ne.symm ne_pr_bu))
  have G3 := G3.other W23 (Or.inl (Ne.symm ne_pr_bu))
  have G4 := G4.other W23 (Or.inl (Ne.symm ne_pr_bu))
  have G5 := G5.other W23 (Or.inl (Ne.symm ne_pr_bu))
  have G6 := G6.other W23 (Or.inl (Ne.symm ne_pr_bu))
  have G7 := G7.other W23 (Or.inl (Ne.symm ne_pr_bu))
  have G8 := G8.other W23 (Or.inl (Ne.symm ne_pr_bu))
  have G9 := G9.other W23 (Or.inl (Ne.symm ne_pr_bu))
  have G10 := G10.other W23 (Or.inl (Ne.symm ne_pr_bu))
  have Ad1 := Ad1.other W23 (Ne.symm ne_pr_ad1)
  have Ad2 := Ad2.other W23 (Ne.symm ne_pr_ad2)
  have Ad3 := Ad3.other W23 (Ne.symm ne_pr_ad3)
  have Ad4 := Ad4.other W23 (Ne.symm ne_pr_ad4)
  have Ad5 := Ad5.other W23 (Ne.symm ne_pr_ad5)
  have Ad6 := Ad6.other W23 (Ne.symm ne_pr_rb)
  have XR := XR.wr W23
  have FF3 := FF3.wr W23
  have FF4 := FF4.other W23 (Ne.symm ne_pr_b1)
  have B7 := B7.wr W23
  have FI11 := FI11.other W23 (Ne.symm ne_pr_a7)
  have FF7 := FF7.wr W23
  have FF8 := FF8.other W23 (Ne.symm ne_pr_b5)
  have FF11 := FF11.wr W23
  have FF12 := FF12.other W23 (Ne.symm ne_pr_b9)
  have FF15 := FF15.wr W23
  have FF16 := FF16.other W23 (Ne.symm ne_pr_b13)
  have FF19 := FF19.wr W23
  have FF20 := FF20.other W23 (Ne.symm ne_pr_b17)
  have Abz := Abz.other W23 (Ne.symm ne_pr_bz)
  have Xbz := Xbz.wr W23
  have Z23 : n0 ≤ h23.size := by rw [W23.size]; exact Z22
  have N23 := Fr.snoc X23 N22 z_pr
  have P23 := P22.wr W23 (Or.inl (List.mem_of_getElem? (i := 0) rfl))
  exact g_return C X23 d11_193 ⟨rfl, N23, by rw [e23]; exact P23, SKeep.of (by rw [e23]; exact P23) (alc z_pr al0) (alc XP0.nostat al0), CKeep.of (by rw [e23]; exact P23) (fun EL vm al => (sfS (Safe.exa al XP0 (by decide) (by decide)) sf0)), bz, kbz, y_bz, by rw [e23]; exact XP, by rw [e23]; exact Pf7, by rw [e23]; exact Abz⟩ (by decide) (by decide)
set_option maxRecDepth 65536 in
set_option maxHeartbeats 40000000 in
theorem k9_min (l : Launch) (Z : State) (a0 : Array Value) (hw : ∀ d ∈ tables_1, d.before a0 Z = true) (h : Heap) (n0 : Nat) (Z0 : n0 ≤ h.size) :
    Con l Z (⟨"java/lang/Math", "min", "(II)I"⟩ : MethodName) jdk_29_method_69_code 2 (some .int) ⟨0, 0, 0, 0⟩ #[(.int (16 : Int32)), (.int (2 : Int32))] h (fun v h' L => v = some (.int (2 : Int32)) ∧ L = [] ∧ h' = h) := by
  refine con_of_goF kk_11 (fun m => kk_10 m (16 : Int32) (2 : Int32)) ?_
  intro p e s m below meth c T0 C X0 e0
  refine g_iloadN C X0 (pc' := 1) d13_0 rfl rfl ?_
  refine g_iloadN C X0 (pc' := 2) d13_1 rfl rfl ?_
  refine g_icmpY C X0 d13_2 (pc' := 9) (by decide) (by decide) (by decide) ?_
  refine g_iloadN C X0 (pc' := 10) d13_9 rfl rfl ?_
  exact g_ireturn C X0 d13_10 (⟨rfl, rfl, e0⟩) (by decide) (by decide)
set_option maxRecDepth 65536 in
set_option maxHeartbeats 40000000 in
theorem k10_copyOf (l : Launch) (Z : State) (a0 : Array Value) (hw : ∀ d ∈ tables_1, d.before a0 Z = true) (h : Heap) (n0 : Nat) (Z0 : n0 ≤ h.size) (qa1 : Addr) (qi1 : Int32) (qk1 : ClassId) (H1 : Arv Z h qa1 qk1 .int (16 : Int32) [(.int qi1)] (.int (0 : Int32))) :
    Con l Z (⟨"java/util/Arrays", "copyOf", "([II)[I"⟩ : MethodName) jdk_65_method_123_code 3 (some (.array .int)) ⟨1, 1, 2, 32⟩ #[(.ref qa1), (.int (2 : Int32))] h (fun v h' L => ∃ (uf1 : Addr) (uk2 : ClassId), v = some (.ref uf1) ∧ Fr n0 L ∧ Keep h h' [] ∧ h.size ≤ uf1 ∧ Exa Z h' uf1 "[I" ∧ Arv Z h' uf1 uk2 .int (2 : Int32) [(.int qi1), (.int (0 : Int32))] (.int (0 : Int32))) := by
  refine con_of_goF kk_30 (fun m => kk_29 m qa1 (2 : Int32)) ?_
  intro p e s m below meth c T0 C X0 e0
  refine g_iloadN C X0 (pc' := 1) d12_0 rfl rfl ?_
  refine g_aloadN C X0 (pc' := 2) d12_1 rfl rfl rfl ?_
  refine g_len C X0 (pc' := 3) e0 H1 d12_2 rfl ?_
  refine g_icmpY C X0 d12_3 (pc' := 14) (by decide) (by decide) (by decide) ?_
  refine g_iloadN C X0 (pc' := 15) d12_14 rfl rfl ?_
  refine g_newPE C X0 (aty := .int) (ad := "[I") (by decide) (hw _ (List.mem_of_getElem? (i := 9) rfl)) e0 d12_15 (by decide) 2 (by decide) (by decide) (by decide) (by decide) rfl ?_
  intro T1 h1 a1 k1 g1 X1 e1 E1 A1 B1
  have ne_qa1_a1 : qa1 ≠ a1 := Nat.ne_of_lt (by rw [g1]; exact H1.lt)
  have z_a1 : n0 ≤ a1 := by rw [g1]; exact Z0
  have y_a1 : h.size ≤ a1 := by rw [g1]; exact (Keep.refl h []).1
  have H1 := H1.ext E1
  have P1 := (Keep.refl h []).ext E1
  have Z1 : n0 ≤ h1.size := Nat.le_trans Z0 E1.1
  have A1 : Arv Z h1 a1 k1 .int (2 : Int32) [] (.int (0 : Int32)) := A1
  refine g_astoreN C X1 (pc' := 18) d12_17 rfl (l' := #[.val (.ref qa1), .val (.int (2 : Int32)), .val (.ref a1)]) rfl rfl ?_
  refine g_aloadN C X1 (pc' := 19) d12_18 rfl rfl rfl ?_
  refine g_iconst C X1 (pc' := 20) d12_19 (v := (0 : Int32)) (by decide) rfl ?_
  refine g_aloadN C X1 (pc' := 21) d12_20 rfl rfl rfl ?_
  refine g_iconst C X1 (pc' := 22) d12_21 (v := (0 : Int32)) (by decide) rfl ?_
  refine g_aloadN C X1 (pc' := 23) d12_22 rfl rfl rfl ?_
  refine g_len C X1 (pc' := 24) e1 H1 d12_23 rfl ?_
  refine g_iloadN C X1 (pc' := 25) d12_24 rfl rfl ?_
  refine g_callS C X1 (k9_min l Z a0 hw h1 n0 Z1      ) (hw _ (List.mem_of_getElem? (i := 81) rfl)) (hw _ (List.mem_of_getElem? (i := 82) rfl)) (hw _ (List.mem_of_getElem? (i := 27) rfl)) (hw _ (List.mem_of_getElem? (i := 83) rfl)) (by decide) e1 d12_25 rfl kk_12 [(.int (16 : Int32)), (.int (2 : Int32))] [(.int (0 : Int32)), (.ref a1), (.int (0 : Int32)), (.ref qa1)] rfl rfl rfl 4 rfl (by decide) (by decide) (by decide) (by decide) rfl ?_
  rintro _ T2 _ X2 ⟨rfl, rfl, e2⟩
  rw [List.append_nil] at X2
  show Go p.tables e below _ T2 (mkF m 28 #[.val (.ref qa1), .val (.int (2 : Int32)), .val (.ref a1)] [(.int (2 : Int32)), (.int (0 : Int32)), (.ref a1), (.int (0 : Int32)), (.ref qa1)])
  have A1 : Arv Z h1 a1 k1 .int (2 : Int32) [(.int (0 : Int32)), (.int (0 : Int32))] (.int (0 : Int32)) := Arv.pad A1 (pad_rep [] (.int (0 : Int32)) 2)
  refine g_acopy C X2 (hw _ (List.mem_of_getElem? (i := 84) rfl)) (hw _ (List.mem_of_getElem? (i := 87) rfl)) (hw _ (List.mem_of_getElem? (i := 85) rfl)) (hw _ (List.mem_of_getElem? (i := 86) rfl)) e2 H1 A1 rfl (by decide) (by decide) (by decide) (by decide) (by decide) [(.int qi1), (.int (0 : Int32))] rfl (by decide) (Fr.nil n0) z_a1 d12_28 rfl 0 rfl (by decide) (by decide) rfl ?_
  intro T3 h3 L3 X3 e3 N3 K3 Aq
  have NS3 := A1.nostat
  have H1 := H1.keep K3 (ninS ne_qa1_a1 nin0)
  have B1 := B1.keep K3
  have Z3 : n0 ≤ h3.size := Nat.le_trans Z1 K3.1
  have P3 := P1.trans K3 (alc (Or.inr y_a1) al0)
  have A1 : Arv Z h3 a1 k1 .int (2 : Int32) [(.int qi1), (.int (0 : Int32))] (.int (0 : Int32)) := Aq
  refine g_aloadN C X3 (pc' := 32) d12_31 rfl rfl rfl ?_
  exact g_areturn C X3 d12_32 rfl rfl rfl (⟨a1, k1, rfl, N3, by rw [e3]; exact P3, y_a1, by rw [e3]; exact B1, by rw [e3]; exact A1⟩) (by decide) (by decide)
set_option maxRecDepth 65536 in
set_option maxHeartbeats 40000000 in
theorem c_pi1 (l : Launch) (Z : State) (a0 : Array Value) (hw : ∀ d ∈ tables_1, d.before a0 Z = true) (h : Heap) (n0 : Nat) (Z0 : n0 ≤ h.size) (pr bu : Addr) (dense rows zz : Int32) (Lq : List Value) (z_pr : n0 ≤ pr) (hd : 0 ≤ dense.toInt ∧ dense.toInt ≤ rows.toInt) (hrb : 1 ≤ rows.toInt ∧ rows.toInt ≤ 47) (hzz : 0 ≤ zz.toInt ∧ zz.toInt ≤ 94) (hLq : Lq.length ≤ zz.toNatClampNeg) (XP : Exa Z h pr "com/example/fleetloom/fleetloom/ChainedProgramme") (Pf0 : Fld Z h pr "com/example/fleetloom/fleetloom/ChainedProgramme" "denseRows" "I" (.int (0 : Int32))) (Pf1 : Fld Z h pr "com/example/fleetloom/fleetloom/ChainedProgramme" "chainStart" "[I" .null) (Pf2 : Fld Z h pr "com/example/fleetloom/fleetloom/ChainedProgramme" "rowChain" "[I" .null) (Pf3 : Fld Z h pr "com/example/fleetloom/fleetloom/ChainedProgramme" "columnStart" "[I" .null) (Pf4 : Fld Z h pr "com/example/fleetloom/fleetloom/ChainedProgramme" "entryRow" "[I" .null) (Pf5 : Fld Z h pr "com/example/fleetloom/fleetloom/ChainedProgramme" "entryValue" "[D" .null) (Pf6 : Fld Z h pr "com/example/fleetloom/fleetloom/ChainedProgramme" "cost" "[D" .null) (Pf7 : Fld Z h pr "com/example/fleetloom/fleetloom/ChainedProgramme" "rhs" "[D" .null) (ne_pr_bu : pr ≠ bu) (B : BS Z h n0 bu dense rows 1 [.int dense] zz Lq) :
    Con l Z (⟨"com/example/fleetloom/fleetloom/ChainedProgramme", "<init>", "(Lcom/example/fleetloom/fleetloom/ChainedProgramme$Builder;)V"⟩ : MethodName) prog_3_method_1_code 3 none ⟨3, 7, 150, 90⟩ #[(.ref pr), (.ref bu)] h (fun v h' L => v = none ∧ Fr n0 L ∧ Keep h h' [pr] ∧ SKeep Z n0 h h' ∧ CKeep Z h h' ∧ ∃ (bz : Addr) (kbz : ClassId), h.size ≤ bz ∧ Exa Z h' pr "com/example/fleetloom/fleetloom/ChainedProgramme" ∧ Fld Z h' pr "com/example/fleetloom/fleetloom/ChainedProgramme" "rhs" "[D" (.ref bz) ∧ Arv Z h' bz kbz .double rows Lq (.double (0 : UInt64))) := by
  refine con_of_goF kk_32 (fun m => kk_33 m pr bu) ?_
  intro p e s m below meth c T0 C X0 e0
  obtain ⟨rb, ad1, ad2, ad3, ad4, ad5, kb, kd1, kd2, kd3, kd4, kd5, XB, G0, G1, G2, G3, G4, G5, G6, G7, G8, G9, G10, Ad1, Ad2, Ad3, Ad4, Ad5, Ad6, XR, ne_bu_rb, ne_bu_ad1, ne_bu_ad2, ne_bu_ad3, ne_bu_ad4, ne_bu_ad5, ne_rb_ad1, ne_rb_ad2, ne_rb_ad3, ne_rb_ad4, ne_rb_ad5, ne_ad1_ad2, ne_ad1_ad3, ne_ad1_ad4, ne_ad1_ad5, z_bu, z_rb, z_ad1⟩ := B
  have XP0 := XP
  have ne_pr_ad1 : pr ≠ ad1 := Exa.neArv XP Ad1 (hw _ (List.mem_of_getElem? (i := 66) rfl))
  have ne_pr_ad2 : pr ≠ ad2 := Exa.neArv XP Ad2 (hw _ (List.mem_of_getElem? (i := 66) rfl))
  have ne_pr_ad3 : pr ≠ ad3 := Exa.neArv XP Ad3 (hw _ (List.mem_of_getElem? (i := 66) rfl))
  have ne_pr_ad4 : pr ≠ ad4 := Exa.neArv XP Ad4 (hw _ (List.mem_of_getElem? (i := 66) rfl))
  have ne_pr_ad5 : pr ≠ ad5 := Exa.neArv XP Ad5 (hw _ (List.mem_of_getElem? (i := 66) rfl))
  have ne_pr_rb : pr ≠ rb := Exa.neArv XP Ad6 (hw _ (List.mem_of_getElem? (i := 66) rfl))
  have ee0 : (0 : Int32).toInt = 0 := by decide
  refine g_aloadN C X0 (pc' := 1) d11_0 rfl rfl rfl ?_
  refine g_initO C X0 (hw _ (List.mem_of_getElem? (i := 71) rfl)) (hw _ (List.mem_of_getElem? (i := 7) rfl)) (hw _ (List.mem_of_getElem? (i := 8) rfl)) e0 d11_1 rfl 0 rfl (by decide) (by decide) rfl ?_
  intro T1 X1 e1
  refine g_aloadN C X1 (pc' := 5) d11_4 rfl rfl rfl ?_
  refine g_aloadN C X1 (pc' := 6) d11_5 rfl rfl rfl ?_
  refine g_getFR C X1 (pc' := 9) (hw _ (List.mem_of_getElem? (i := 72) rfl)) e1 G0 d11_6 rfl ?_
  refine g_putF C X1 (host := "") (Or.inl (hw _ (List.mem_of_getElem? (i := 73) rfl))) Via.refl e1 Pf0 XP (Or.inr ⟨(hw _ (List.mem_of_getElem? (i := 74) rfl)), rfl, rfl⟩) (hw _ (List.mem_of_getElem? (i := 66) rfl)) (ty := .int) (by decide) rfl rfl d11_9 rfl ?_
  intro T2 h2 X2 e2 W2
  have XP := XP.wr W2
  have Pf0 := Pf0.same W2
  have Pf1 := Pf1.other W2 (Or.inr (slot_ne (Or.inr (hw _ (List.mem_of_getElem? (i := 89) rfl))) (Or.inr (hw _ (List.mem_of_getElem? (i := 74) rfl))) (by decide) rfl rfl))
  have Pf2 := Pf2.other W2 (Or.inr (slot_ne (Or.inr (hw _ (List.mem_of_getElem? (i := 92) rfl))) (Or.inr (hw _ (List.mem_of_getElem? (i := 74) rfl))) (by decide) rfl rfl))
  have Pf3 := Pf3.other W2 (Or.inr (slot_ne (Or.inr (hw _ (List.mem_of_getElem? (i := 102) rfl))) (Or.inr (hw _ (List.mem_of_getElem? (i := 74) rfl))) (by decide) rfl rfl))
  have Pf4 := Pf4.other W2 (Or.inr (slot_ne (Or.inr (hw _ (List.mem_of_getElem? (i := 107) rfl))) (Or.inr (hw _ (List.mem_of_getElem? (i := 74) rfl))) (by decide) rfl rfl))
  have Pf5 := Pf5.other W2 (Or.inr (slot_ne (Or.inr (hw _ (List.mem_of_getElem? (i := 113) rfl))) (Or.inr (hw _ (List.mem_of_getElem? (i := 74) rfl))) (by decide) rfl rfl))
  have Pf6 := Pf6.other W2 (Or.inr (slot_ne (Or.inr (hw _ (List.mem_of_getElem? (i := 116) rfl))) (Or.inr (hw _ (List.mem_of_getElem? (i := 74) rfl))) (by decide) rfl rfl))
  have Pf7 := Pf7.other W2 (Or.inr (slot_ne (Or.inr (hw _ (List.mem_of_getElem? (i := 119) rfl))) (Or.inr (hw _ (List.mem_of_getElem? (i := 74) rfl))) (by decide) rfl rfl))
  have XB := XB.wr W2
  have G0 := G0.other W2 (Or.inl (Ne.symm ne_pr_bu))
  have G1 := G1.other W2 (Or.inl (Ne.symm ne_pr_bu))
  have G2 := G2.other W2 (Or.inl (Ne.symm ne_pr_bu))
  have G3 := G3.other W2 (Or.inl (Ne.symm ne_pr_bu))
  have G4 := G4.other W2 (Or.inl (Ne.symm ne_pr_bu))
  have G5 := G5.other W2 (Or.inl (Ne.symm ne_pr_bu))
  have G6 := G6.other W2 (Or.inl (Ne.symm ne_pr_bu))
  have G7 := G7.other W2 (Or.inl (Ne.symm ne_pr_bu))
  have G8 := G8.other W2 (Or.inl (Ne.symm ne_pr_bu))
  have G9 := G9.other W2 (Or.inl (Ne.symm ne_pr_bu))
  have G10 := G10.other W2 (Or.inl (Ne.symm ne_pr_bu))
  have Ad1 := Ad1.other W2 (Ne.symm ne_pr_ad1)
  have Ad2 := Ad2.other W2 (Ne.symm ne_pr_ad2)
  have Ad3 := Ad3.other W2 (Ne.symm ne_pr_ad3)
  have Ad4 := Ad4.other W2 (Ne.symm ne_pr_ad4)
  have Ad5 := Ad5.other W2 (Ne.symm ne_pr_ad5)
  have Ad6 := Ad6.other W2 (Ne.symm ne_pr_rb)
  have XR := XR.wr W2
  have Z2 : n0 ≤ h2.size := by rw [W2.size]; exact Z0
  have N2 := Fr.snoc X2 (Fr.nil n0) z_pr
  have P2 := (Keep.refl h [pr]).wr W2 (Or.inl (List.mem_of_getElem? (i := 0) rfl))
  refine g_aloadN C X2 (pc' := 13) d11_12 rfl rfl rfl ?_
  refine g_aloadN C X2 (pc' := 14) d11_13 rfl rfl rfl ?_
  refine g_getFR C X2 (pc' := 17) (hw _ (List.mem_of_getElem? (i := 75) rfl)) e2 G5 d11_14 rfl ?_
  refine g_aloadN C X2 (pc' := 18) d11_17 rfl rfl rfl ?_
  refine g_getFR C X2 (pc' := 21) (hw _ (List.mem_of_getElem? (i := 76) rfl)) e2 G2 d11_18 rfl ?_
  refine g_iconst C X2 (pc' := 22) d11_21 (v := (1 : Int32)) (by decide) rfl ?_
  refine g_iadd C X2 (pc' := 23) d11_22 rfl ?_
  rw [show ((1 : Int32) + (1 : Int32) : Int32) = 2 from by decide]
  refine g_callS C X2 (k10_copyOf l Z a0 hw h2 n0 Z2  ad1 dense kd1    Ad1) (hw _ (List.mem_of_getElem? (i := 77) rfl)) (hw _ (List.mem_of_getElem? (i := 78) rfl)) (hw _ (List.mem_of_getElem? (i := 79) rfl)) (hw _ (List.mem_of_getElem? (i := 80) rfl)) (by decide) e2 d11_23 rfl kk_24 [(.ref ad1), (.int (2 : Int32))] [(.ref pr)] rfl rfl rfl 1 rfl (by decide) (by decide) (by decide) (by decide) rfl ?_
  rintro _ T3 L3 X3 ⟨b1, kc2, rfl, M3, K3, w_b1, FF3, FF4⟩
  have ne_ad1_b1 : ad1 ≠ b1 := Nat.ne_of_lt (Nat.lt_of_lt_of_le Ad1.lt w_b1)
  have ne_ad2_b1 : ad2 ≠ b1 := Nat.ne_of_lt (Nat.lt_of_lt_of_le Ad2.lt w_b1)
  have ne_ad3_b1 : ad3 ≠ b1 := Nat.ne_of_lt (Nat.lt_of_lt_of_le Ad3.lt w_b1)
  have ne_ad4_b1 : ad4 ≠ b1 := Nat.ne_of_lt (Nat.lt_of_lt_of_le Ad4.lt w_b1)
  have ne_ad5_b1 : ad5 ≠ b1 := Nat.ne_of_lt (Nat.lt_of_lt_of_le Ad5.lt w_b1)
  have ne_bu_b1 : bu ≠ b1 := Nat.ne_of_lt (Nat.lt_of_lt_of_le XB.lt w_b1)
  have ne_pr_b1 : pr ≠ b1 := Nat.ne_of_lt (Nat.lt_of_lt_of_le XP.lt w_b1)
  have ne_rb_b1 : rb ≠ b1 := Nat.ne_of_lt (Nat.lt_of_lt_of_le Ad6.lt w_b1)
  have z_b1 : n0 ≤ b1 := Nat.le_trans Z2 w_b1
  have y_b1 : h.size ≤ b1 := Nat.le_trans P2.1 w_b1
  have XP := XP.keep K3
  have Pf0 := Pf0.keep K3 nin0
  have Pf1 := Pf1.keep K3 nin0
  have Pf2 := Pf2.keep K3 nin0
  have Pf3 := Pf3.keep K3 nin0
  have Pf4 := Pf4.keep K3 nin0
  have Pf5 := Pf5.keep K3 nin0
  have Pf6 := Pf6.keep K3 nin0
  have Pf7 := Pf7.keep K3 nin0
  have XB := XB.keep K3
  have G0 := G0.keep K3 nin0
  have G1 := G1.keep K3 nin0
  have G2 := G2.keep K3 nin0
  have G3 := G3.keep K3 nin0
  have G4 := G4.keep K3 nin0
  have G5 := G5.keep K3 nin0
  have G6 := G6.keep K3 nin0
  have G7 := G7.keep K3 nin0
  have G8 := G8.keep K3 nin0
  have G9 := G9.keep K3 nin0
  have G10 := G10.keep K3 nin0
  have Ad1 := Ad1.keep K3 nin0
  have Ad2 := Ad2.keep K3 nin0
  have Ad3 := Ad3.keep K3 nin0
  have Ad4 := Ad4.keep K3 nin0
  have Ad5 := Ad5.keep K3 nin0
  have Ad6 := Ad6.keep K3 nin0
  have XR := XR.keep K3
  have Z3 : n0 ≤ T3.heap.size := Nat.le_trans Z2 K3.1
  have P3 := P2.trans K3 al0
  have N3 := Fr.app N2 M3
  obtain ⟨h3, e3⟩ : ∃ z, T3.heap = z := ⟨_, rfl⟩
  rw [e3] at XP Pf0 Pf1 Pf2 Pf3 Pf4 Pf5 Pf6 Pf7 XB G0 G1 G2 G3 G4 G5 G6 G7 G8 G9 G10 Ad1 Ad2 Ad3 Ad4 Ad5 Ad6 XR FF3 FF4 Z3 P3
  show Go p.tables e below _ T3 (mkF m 26 #[.val (.ref pr), .val (.ref bu), .unset] [(.ref b1), (.ref pr)])
  refine g_putF C X3 (host := "") (Or.inl (hw _ (List.mem_of_getElem? (i := 88) rfl))) Via.refl e3 Pf1 XP (Or.inr ⟨(hw _ (List.mem_of_getElem? (i := 89) rfl)), rfl, rfl⟩) (hw _ (List.mem_of_getElem? (i := 66) rfl)) (ty := (.array .int)) (by decide) rfl rfl d11_26 rfl ?_
  intro T4 h4 X4 e4 W4
  have XP := XP.wr W4
  have Pf0 := Pf0.other W4 (Or.inr (slot_ne (Or.inr (hw _ (List.mem_of_getElem? (i := 74) rfl))) (Or.inr (hw _ (List.mem_of_getElem? (i := 89) rfl))) (by decide) rfl rfl))
  have Pf1 := Pf1.same W4
  have Pf2 := Pf2.other W4 (Or.inr (slot_ne (Or.inr (hw _ (List.mem_of_getElem? (i := 92) rfl))) (Or.inr (hw _ (List.mem_of_getElem? (i := 89) rfl))) (by decide) rfl rfl))
  have Pf3 := Pf3.other W4 (Or.inr (slot_ne (Or.inr (hw _ (List.mem_of_getElem? (i := 102) rfl))) (Or.inr (hw _ (List.mem_of_getElem? (i := 89) rfl))) (by decide) rfl rfl))
  have Pf4 := Pf4.other W4 (Or.inr (slot_ne (Or.inr (hw _ (List.mem_of_getElem? (i := 107) rfl))) (Or.inr (hw _ (List.mem_of_getElem? (i := 89) rfl))) (by decide) rfl rfl))
  have Pf5 := Pf5.other W4 (Or.inr (slot_ne (Or.inr (hw _ (List.mem_of_getElem? (i := 113) rfl))) (Or.inr (hw _ (List.mem_of_getElem? (i := 89) rfl))) (by decide) rfl rfl))
  have Pf6 := Pf6.other W4 (Or.inr (slot_ne (Or.inr (hw _ (List.mem_of_getElem? (i := 116) rfl))) (Or.inr (hw _ (List.mem_of_getElem? (i := 89) rfl))) (by decide) rfl rfl))
  have Pf7 := Pf7.other W4 (Or.inr (slot_ne (Or.inr (hw _ (List.mem_of_getElem? (i := 119) rfl))) (Or.inr (hw _ (List.mem_of_getElem? (i := 89) rfl))) (by decide) rfl rfl))
  have XB := XB.wr W4
  have G0 := G0.other W4 (Or.inl (Ne.symm ne_pr_bu))
  have G1 := G1.other W4 (Or.inl (Ne.symm ne_pr_bu))
  have G2 := G2.other W4 (Or.inl (Ne.symm ne_pr_bu))
  have G3 := G3.other W4 (Or.inl (Ne.symm ne_pr_bu))
  have G4 := G4.other W4 (Or.inl (Ne.symm ne_pr_bu))
  have G5 := G5.other W4 (Or.inl (Ne.symm ne_pr_bu))
  have G6 := G6.other W4 (Or.inl (Ne.symm ne_pr_bu))
  have G7 := G7.other W4 (Or.inl (Ne.symm ne_pr_bu))
  have G8 := G8.other W4 (Or.inl (Ne.symm ne_pr_bu))
  have G9 := G9.other W4 (Or.inl (Ne.symm ne_pr_bu))
  have G10 := G10.other W4 (Or.inl (Ne.symm ne_pr_bu))
  have Ad1 := Ad1.other W4 (Ne.symm ne_pr_ad1)
  have Ad2 := Ad2.other W4 (Ne.symm ne_pr_ad2)
  have Ad3 := Ad3.other W4 (Ne.symm ne_pr_ad3)
  have Ad4 := Ad4.other W4 (Ne.symm ne_pr_ad4)
  have Ad5 := Ad5.other W4 (Ne.symm ne_pr_ad5)
  have Ad6 := Ad6.other W4 (Ne.symm ne_pr_rb)
  have XR := XR.wr W4
  have FF3 := FF3.wr W4
  have FF4 := FF4.other W4 (Ne.symm ne_pr_b1)
  have Z4 : n0 ≤ h4.size := by rw [W4.size]; exact Z3
  have N4 := Fr.snoc X4 N3 z_pr
  have P4 := P3.wr W4 (Or.inl (List.mem_of_getElem? (i := 0) rfl))
  refine g_aloadN C X4 (pc' := 30) d11_29 rfl rfl rfl ?_
  refine g_getF C X4 (host := "") (Or.inl (hw _ (List.mem_of_getElem? (i := 88) rfl))) Via.refl e4 Pf1 d11_30 rfl ?_
  intro T5 X5 e5
  refine g_aloadN C X5 (pc' := 34) d11_33 rfl rfl rfl ?_
  refine g_getFR C X5 (pc' := 37) (hw _ (List.mem_of_getElem? (i := 76) rfl)) e5 G2 d11_34 rfl ?_
  refine g_aloadN C X5 (pc' := 38) d11_37 rfl rfl rfl ?_
  refine g_getFR C X5 (pc' := 41) (hw _ (List.mem_of_getElem? (i := 90) rfl)) e5 G1 d11_38 rfl ?_
  refine g_iastore C X5 (pc' := 42) e5 FF4 (by decide) (by decide) 1 0 (by decide) (of_decide_eq_true rfl) d11_41 rfl ?_
  intro T6 h6 X6 e6 W6 Aq
  have XP := XP.wr W6
  have Pf0 := Pf0.other W6 (Or.inl ne_pr_b1)
  have Pf1 := Pf1.other W6 (Or.inl ne_pr_b1)
  have Pf2 := Pf2.other W6 (Or.inl ne_pr_b1)
  have Pf3 := Pf3.other W6 (Or.inl ne_pr_b1)
  have Pf4 := Pf4.other W6 (Or.inl ne_pr_b1)
  have Pf5 := Pf5.other W6 (Or.inl ne_pr_b1)
  have Pf6 := Pf6.other W6 (Or.inl ne_pr_b1)
  have Pf7 := Pf7.other W6 (Or.inl ne_pr_b1)
  have XB := XB.wr W6
  have G0 := G0.other W6 (Or.inl ne_bu_b1)
  have G1 := G1.other W6 (Or.inl ne_bu_b1)
  have G2 := G2.other W6 (Or.inl ne_bu_b1)
  have G3 := G3.other W6 (Or.inl ne_bu_b1)
  have G4 := G4.other W6 (Or.inl ne_bu_b1)
  have G5 := G5.other W6 (Or.inl ne_bu_b1)
  have G6 := G6.other W6 (Or.inl ne_bu_b1)
  have G7 := G7.other W6 (Or.inl ne_bu_b1)
  have G8 := G8.other W6 (Or.inl ne_bu_b1)
  have G9 := G9.other W6 (Or.inl ne_bu_b1)
  have G10 := G10.other W6 (Or.inl ne_bu_b1)
  have Ad1 := Ad1.other W6 ne_ad1_b1
  have Ad2 := Ad2.other W6 ne_ad2_b1
  have Ad3 := Ad3.other W6 ne_ad3_b1
  have Ad4 := Ad4.other W6 ne_ad4_b1
  have Ad5 := Ad5.other W6 ne_ad5_b1
  have Ad6 := Ad6.other W6 ne_rb_b1
  have XR := XR.wr W6
  have FF3 := FF3.wr W6
  have Z6 : n0 ≤ h6.size := by rw [W6.size]; exact Z4
  have N6 := Fr.snoc X6 N4 z_b1
  have P6 := P4.wr W6 (Or.inr y_b1)
  have FF4 : Arv Z h6 b1 kc2 .int (2 : Int32) [(.int dense), (.int rows)] (.int (0 : Int32)) := Aq
  refine g_aloadN C X6 (pc' := 43) d11_42 rfl rfl rfl ?_
  refine g_aloadN C X6 (pc' := 44) d11_43 rfl rfl rfl ?_
  refine g_getFR C X6 (pc' := 47) (hw _ (List.mem_of_getElem? (i := 90) rfl)) e6 G1 d11_44 rfl ?_
  refine g_newPE C X6 (aty := .int) (ad := "[I") (by decide) (hw _ (List.mem_of_getElem? (i := 9) rfl)) e6 d11_47 (bn_nneg hrb (by decide)) 47 (bn_cap hrb (by decide)) (by decide) (by decide) (by decide) rfl ?_
  intro T7 h7 a7 k7 g7 X7 e7 E7 A7 B7
  have ne_ad1_a7 : ad1 ≠ a7 := Nat.ne_of_lt (by rw [g7]; exact Ad1.lt)
  have ne_ad2_a7 : ad2 ≠ a7 := Nat.ne_of_lt (by rw [g7]; exact Ad2.lt)
  have ne_ad3_a7 : ad3 ≠ a7 := Nat.ne_of_lt (by rw [g7]; exact Ad3.lt)
  have ne_ad4_a7 : ad4 ≠ a7 := Nat.ne_of_lt (by rw [g7]; exact Ad4.lt)
  have ne_ad5_a7 : ad5 ≠ a7 := Nat.ne_of_lt (by rw [g7]; exact Ad5.lt)
  have ne_b1_a7 : b1 ≠ a7 := Nat.ne_of_lt (by rw [g7]; exact FF3.lt)
  have ne_bu_a7 : bu ≠ a7 := Nat.ne_of_lt (by rw [g7]; exact XB.lt)
  have ne_pr_a7 : pr ≠ a7 := Nat.ne_of_lt (by rw [g7]; exact XP.lt)
  have ne_rb_a7 : rb ≠ a7 := Nat.ne_of_lt (by rw [g7]; exact Ad6.lt)
  have z_a7 : n0 ≤ a7 := by rw [g7]; exact Z6
  have y_a7 : h.size ≤ a7 := by rw [g7]; exact P6.1
  have XP := XP.ext E7
  have Pf0 := Pf0.ext E7
  have Pf1 := Pf1.ext E7
  have Pf2 := Pf2.ext E7
  have Pf3 := Pf3.ext E7
  have Pf4 := Pf4.ext E7
  have Pf5 := Pf5.ext E7
  have Pf6 := Pf6.ext E7
  have Pf7 := Pf7.ext E7
  have XB := XB.ext E7
  have G0 := G0.ext E7
  have G1 := G1.ext E7
  have G2 := G2.ext E7
  have G3 := G3.ext E7
  have G4 := G4.ext E7
  have G5 := G5.ext E7
  have G6 := G6.ext E7
  have G7 := G7.ext E7
  have G8 := G8.ext E7
  have G9 := G9.ext E7
  have G10 := G10.ext E7
  have Ad1 := Ad1.ext E7
  have Ad2 := Ad2.ext E7
  have Ad3 := Ad3.ext E7
  have Ad4 := Ad4.ext E7
  have Ad5 := Ad5.ext E7
  have Ad6 := Ad6.ext E7
  have XR := XR.ext E7
  have FF3 := FF3.ext E7
  have FF4 := FF4.ext E7
  have P7 := P6.ext E7
  have Z7 : n0 ≤ h7.size := Nat.le_trans Z6 E7.1
  have A7 : Arv Z h7 a7 k7 .int rows [] (.int (0 : Int32)) := A7
  refine g_putF C X7 (host := "") (Or.inl (hw _ (List.mem_of_getElem? (i := 91) rfl))) Via.refl e7 Pf2 XP (Or.inr ⟨(hw _ (List.mem_of_getElem? (i := 92) rfl)), rfl, rfl⟩) (hw _ (List.mem_of_getElem? (i := 66) rfl)) (ty := (.array .int)) (by decide) rfl rfl d11_49 rfl ?_
  intro T8 h8 X8 e8 W8
  have XP := XP.wr W8
  have Pf0 := Pf0.other W8 (Or.inr (slot_ne (Or.inr (hw _ (List.mem_of_getElem? (i := 74) rfl))) (Or.inr (hw _ (List.mem_of_getElem? (i := 92) rfl))) (by decide) rfl rfl))
  have Pf1 := Pf1.other W8 (Or.inr (slot_ne (Or.inr (hw _ (List.mem_of_getElem? (i := 89) rfl))) (Or.inr (hw _ (List.mem_of_getElem? (i := 92) rfl))) (by decide) rfl rfl))
  have Pf2 := Pf2.same W8
  have Pf3 := Pf3.other W8 (Or.inr (slot_ne (Or.inr (hw _ (List.mem_of_getElem? (i := 102) rfl))) (Or.inr (hw _ (List.mem_of_getElem? (i := 92) rfl))) (by decide) rfl rfl))
  have Pf4 := Pf4.other W8 (Or.inr (slot_ne (Or.inr (hw _ (List.mem_of_getElem? (i := 107) rfl))) (Or.inr (hw _ (List.mem_of_getElem? (i := 92) rfl))) (by decide) rfl rfl))
  have Pf5 := Pf5.other W8 (Or.inr (slot_ne (Or.inr (hw _ (List.mem_of_getElem? (i := 113) rfl))) (Or.inr (hw _ (List.mem_of_getElem? (i := 92) rfl))) (by decide) rfl rfl))
  have Pf6 := Pf6.other W8 (Or.inr (slot_ne (Or.inr (hw _ (List.mem_of_getElem? (i := 116) rfl))) (Or.inr (hw _ (List.mem_of_getElem? (i := 92) rfl))) (by decide) rfl rfl))
  have Pf7 := Pf7.other W8 (Or.inr (slot_ne (Or.inr (hw _ (List.mem_of_getElem? (i := 119) rfl))) (Or.inr (hw _ (List.mem_of_getElem? (i := 92) rfl))) (by decide) rfl rfl))
  have XB := XB.wr W8
  have G0 := G0.other W8 (Or.inl (Ne.symm ne_pr_bu))
  have G1 := G1.other W8 (Or.inl (Ne.symm ne_pr_bu))
  have G2 := G2.other W8 (Or.inl (Ne.symm ne_pr_bu))
  have G3 := G3.other W8 (Or.inl (Ne.symm ne_pr_bu))
  have G4 := G4.other W8 (Or.inl (Ne.symm ne_pr_bu))
  have G5 := G5.other W8 (Or.inl (Ne.symm ne_pr_bu))
  have G6 := G6.other W8 (Or.inl (Ne.symm ne_pr_bu))
  have G7 := G7.other W8 (Or.inl (Ne.symm ne_pr_bu))
  have G8 := G8.other W8 (Or.inl (Ne.symm ne_pr_bu))
  have G9 := G9.other W8 (Or.inl (Ne.symm ne_pr_bu))
  have G10 := G10.other W8 (Or.inl (Ne.symm ne_pr_bu))
  have Ad1 := Ad1.other W8 (Ne.symm ne_pr_ad1)
  have Ad2 := Ad2.other W8 (Ne.symm ne_pr_ad2)
  have Ad3 := Ad3.other W8 (Ne.symm ne_pr_ad3)
  have Ad4 := Ad4.other W8 (Ne.symm ne_pr_ad4)
  have Ad5 := Ad5.other W8 (Ne.symm ne_pr_ad5)
  have Ad6 := Ad6.other W8 (Ne.symm ne_pr_rb)
  have XR := XR.wr W8
  have FF3 := FF3.wr W8
  have FF4 := FF4.other W8 (Ne.symm ne_pr_b1)
  have A7 := A7.other W8 (Ne.symm ne_pr_a7)
  have B7 := B7.wr W8
  have Z8 : n0 ≤ h8.size := by rw [W8.size]; exact Z7
  have N8 := Fr.snoc X8 N6 z_pr
  have P8 := P7.wr W8 (Or.inl (List.mem_of_getElem? (i := 0) rfl))
  refine g_aloadN C X8 (pc' := 53) d11_52 rfl rfl rfl ?_
  refine g_getF C X8 (host := "") (Or.inl (hw _ (List.mem_of_getElem? (i := 91) rfl))) Via.refl e8 Pf2 d11_53 rfl ?_
  intro T9 X9 e9
  refine g_iconst C X9 (pc' := 57) d11_56 (v := (0 : Int32)) (by decide) rfl ?_
  refine g_aloadN C X9 (pc' := 58) d11_57 rfl rfl rfl ?_
  refine g_getF C X9 (host := "") (Or.inl (hw _ (List.mem_of_getElem? (i := 73) rfl))) Via.refl e9 Pf0 d11_58 rfl ?_
  intro T10 X10 e10
  refine g_iconst C X10 (pc' := 62) d11_61 (v := (-1 : Int32)) (by decide) rfl ?_
  refine g_callS C X10 (c_fill l Z a0 hw h8 n0 Z8 a7 k7 rows (0 : Int32) dense (-1 : Int32) z_a7 (by show _ ≤ _; omega) (by show _ ≤ _; omega) (by show _ ≤ _; omega) ⟨_, A7⟩) (hw _ (List.mem_of_getElem? (i := 93) rfl)) (hw _ (List.mem_of_getElem? (i := 94) rfl)) (hw _ (List.mem_of_getElem? (i := 79) rfl)) (hw _ (List.mem_of_getElem? (i := 95) rfl)) (by decide) e10 d11_62 rfl kk_31 [(.ref a7), (.int (0 : Int32)), (.int dense), (.int (-1 : Int32))] [] rfl rfl rfl 0 rfl (by decide) (by decide) (by decide) (by decide) rfl ?_
  rintro _ T11 L11 X11 ⟨rfl, M11, K11, FI11⟩
  have NS11_a7 := A7.nostat
  have XP := XP.keep K11
  have Pf0 := Pf0.keep K11 (ninS ne_pr_a7 nin0)
  have Pf1 := Pf1.keep K11 (ninS ne_pr_a7 nin0)
  have Pf2 := Pf2.keep K11 (ninS ne_pr_a7 nin0)
  have Pf3 := Pf3.keep K11 (ninS ne_pr_a7 nin0)
  have Pf4 := Pf4.keep K11 (ninS ne_pr_a7 nin0)
  have Pf5 := Pf5.keep K11 (ninS ne_pr_a7 nin0)
  have Pf6 := Pf6.keep K11 (ninS ne_pr_a7 nin0)
  have Pf7 := Pf7.keep K11 (ninS ne_pr_a7 nin0)
  have XB := XB.keep K11
  have G0 := G0.keep K11 (ninS ne_bu_a7 nin0)
  have G1 := G1.keep K11 (ninS ne_bu_a7 nin0)
  have G2 := G2.keep K11 (ninS ne_bu_a7 nin0)
  have G3 := G3.keep K11 (ninS ne_bu_a7 nin0)
  have G4 := G4.keep K11 (ninS ne_bu_a7 nin0)
  have G5 := G5.keep K11 (ninS ne_bu_a7 nin0)
  have G6 := G6.keep K11 (ninS ne_bu_a7 nin0)
  have G7 := G7.keep K11 (ninS ne_bu_a7 nin0)
  have G8 := G8.keep K11 (ninS ne_bu_a7 nin0)
  have G9 := G9.keep K11 (ninS ne_bu_a7 nin0)
  have G10 := G10.keep K11 (ninS ne_bu_a7 nin0)
  have Ad1 := Ad1.keep K11 (ninS ne_ad1_a7 nin0)
  have Ad2 := Ad2.keep K11 (ninS ne_ad2_a7 nin0)
  have Ad3 := Ad3.keep K11 (ninS ne_ad3_a7 nin0)
  have Ad4 := Ad4.keep K11 (ninS ne_ad4_a7 nin0)
  have Ad5 := Ad5.keep K11 (ninS ne_ad5_a7 nin0)
  have Ad6 := Ad6.keep K11 (ninS ne_rb_a7 nin0)
  have XR := XR.keep K11
  have FF3 := FF3.keep K11
  have FF4 := FF4.keep K11 (ninS ne_b1_a7 nin0)
  have B7 := B7.keep K11
  have Z11 : n0 ≤ T11.heap.size := Nat.le_trans Z8 K11.1
  have P11 := P8.trans K11 (alc (Or.inr y_a7) al0)
  have N11 := Fr.app N8 M11
  obtain ⟨h11, e11⟩ : ∃ z, T11.heap = z := ⟨_, rfl⟩
  rw [e11] at XP Pf0 Pf1 Pf2 Pf3 Pf4 Pf5 Pf6 Pf7 XB G0 G1 G2 G3 G4 G5 G6 G7 G8 G9 G10 Ad1 Ad2 Ad3 Ad4 Ad5 Ad6 XR FF3 FF4 B7 FI11 Z11 P11
  show Go p.tables e below _ T11 (mkF m 65 #[.val (.ref pr), .val (.ref bu), .unset] [])
  refine g_iconst C X11 (pc' := 66) d11_65 (v := (0 : Int32)) (by decide) rfl ?_
  refine g_istoreN C X11 (pc' := 67) d11_66 (x := (0 : Int32)) rfl (l' := #[.val (.ref pr), .val (.ref bu), .val (.int (0 : Int32))]) rfl rfl ?_
  refine g_iloadN C X11 (pc' := 68) d11_67 rfl rfl ?_
  refine g_aloadN C X11 (pc' := 69) d11_68 rfl rfl rfl ?_
  refine g_getFR C X11 (pc' := 72) (hw _ (List.mem_of_getElem? (i := 76) rfl)) e11 G2 d11_69 rfl ?_
  refine g_icmpN C X11 d11_72 (by decide) rfl ?_
  refine g_aloadN C X11 (pc' := 76) d11_75 rfl rfl rfl ?_
  refine g_getF C X11 (host := "") (Or.inl (hw _ (List.mem_of_getElem? (i := 91) rfl))) Via.refl e11 Pf2 d11_76 rfl ?_
  intro T12 X12 e12
  refine g_aloadN C X12 (pc' := 80) d11_79 rfl rfl rfl ?_
  refine g_getF C X12 (host := "") (Or.inl (hw _ (List.mem_of_getElem? (i := 88) rfl))) Via.refl e12 Pf1 d11_80 rfl ?_
  intro T13 X13 e13
  refine g_iloadN C X13 (pc' := 84) d11_83 rfl rfl ?_
  refine g_iaload C X13 (pc' := 85) e13 FF4 (by decide) (by decide) 0 (by decide) rfl d11_84 rfl ?_
  refine g_aloadN C X13 (pc' := 86) d11_85 rfl rfl rfl ?_
  refine g_getF C X13 (host := "") (Or.inl (hw _ (List.mem_of_getElem? (i := 88) rfl))) Via.refl e13 Pf1 d11_86 rfl ?_
  intro T14 X14 e14
  refine g_iloadN C X14 (pc' := 90) d11_89 rfl rfl ?_
  refine g_iconst C X14 (pc' := 91) d11_90 (v := (1 : Int32)) (by decide) rfl ?_
  refine g_iadd C X14 (pc' := 92) d11_91 rfl ?_
  refine g_iaload C X14 (pc' := 93) e14 FF4 (by decide) (by decide) 1 (by decide) rfl d11_92 rfl ?_
  refine g_iloadN C X14 (pc' := 94) d11_93 rfl rfl ?_
  refine g_callS C X14 (c_fill l Z a0 hw h11 n0 Z11 a7 k7 rows dense rows (0 : Int32) z_a7 (by show _ ≤ _; omega) (by show _ ≤ _; omega) (by show _ ≤ _; omega) FI11) (hw _ (List.mem_of_getElem? (i := 93) rfl)) (hw _ (List.mem_of_getElem? (i := 94) rfl)) (hw _ (List.mem_of_getElem? (i := 79) rfl)) (hw _ (List.mem_of_getElem? (i := 95) rfl)) (by decide) e14 d11_94 rfl kk_31 [(.ref a7), (.int dense), (.int rows), (.int (0 : Int32))] [] rfl rfl rfl 0 rfl (by decide) (by decide) (by decide) (by decide) rfl ?_
  rintro _ T15 L15 X15 ⟨rfl, M15, K15, FI15⟩
  have NS15_a7 := B7.nostat
  have XP := XP.keep K15
  have Pf0 := Pf0.keep K15 (ninS ne_pr_a7 nin0)
  have Pf1 := Pf1.keep K15 (ninS ne_pr_a7 nin0)
  have Pf2 := Pf2.keep K15 (ninS ne_pr_a7 nin0)
  have Pf3 := Pf3.keep K15 (ninS ne_pr_a7 nin0)
  have Pf4 := Pf4.keep K15 (ninS ne_pr_a7 nin0)
  have Pf5 := Pf5.keep K15 (ninS ne_pr_a7 nin0)
  have Pf6 := Pf6.keep K15 (ninS ne_pr_a7 nin0)
  have Pf7 := Pf7.keep K15 (ninS ne_pr_a7 nin0)
  have XB := XB.keep K15
  have G0 := G0.keep K15 (ninS ne_bu_a7 nin0)
  have G1 := G1.keep K15 (ninS ne_bu_a7 nin0)
  have G2 := G2.keep K15 (ninS ne_bu_a7 nin0)
  have G3 := G3.keep K15 (ninS ne_bu_a7 nin0)
  have G4 := G4.keep K15 (ninS ne_bu_a7 nin0)
  have G5 := G5.keep K15 (ninS ne_bu_a7 nin0)
  have G6 := G6.keep K15 (ninS ne_bu_a7 nin0)
  have G7 := G7.keep K15 (ninS ne_bu_a7 nin0)
  have G8 := G8.keep K15 (ninS ne_bu_a7 nin0)
  have G9 := G9.keep K15 (ninS ne_bu_a7 nin0)
  have G10 := G10.keep K15 (ninS ne_bu_a7 nin0)
  have Ad1 := Ad1.keep K15 (ninS ne_ad1_a7 nin0)
  have Ad2 := Ad2.keep K15 (ninS ne_ad2_a7 nin0)
  have Ad3 := Ad3.keep K15 (ninS ne_ad3_a7 nin0)
  have Ad4 := Ad4.keep K15 (ninS ne_ad4_a7 nin0)
  have Ad5 := Ad5.keep K15 (ninS ne_ad5_a7 nin0)
  have Ad6 := Ad6.keep K15 (ninS ne_rb_a7 nin0)
  have XR := XR.keep K15
  have FF3 := FF3.keep K15
  have FF4 := FF4.keep K15 (ninS ne_b1_a7 nin0)
  have B7 := B7.keep K15
  have Z15 : n0 ≤ T15.heap.size := Nat.le_trans Z11 K15.1
  have P15 := P11.trans K15 (alc (Or.inr y_a7) al0)
  have N15 := Fr.app N11 M15
  obtain ⟨h15, e15⟩ : ∃ z, T15.heap = z := ⟨_, rfl⟩
  rw [e15] at XP Pf0 Pf1 Pf2 Pf3 Pf4 Pf5 Pf6 Pf7 XB G0 G1 G2 G3 G4 G5 G6 G7 G8 G9 G10 Ad1 Ad2 Ad3 Ad4 Ad5 Ad6 XR FF3 FF4 B7 FI15 Z15 P15
  show Go p.tables e below _ T15 (mkF m 97 #[.val (.ref pr), .val (.ref bu), .val (.int (0 : Int32))] [])
  refine g_iinc C X15 (pc' := 100) d11_97 rfl (z := (1 : Int32)) (by decide) (l' := #[.val (.ref pr), .val (.ref bu), .val (.int (1 : Int32))]) rfl rfl ?_
  refine g_goto C X15 d11_100 (pc' := 67) (by decide) (by decide) ?_
  refine g_iloadN C X15 (pc' := 68) d11_67 rfl rfl ?_
  refine g_aloadN C X15 (pc' := 69) d11_68 rfl rfl rfl ?_
  refine g_getFR C X15 (pc' := 72) (hw _ (List.mem_of_getElem? (i := 76) rfl)) e15 G2 d11_69 rfl ?_
  refine g_icmpY C X15 d11_72 (pc' := 103) (by decide) (by decide) (by decide) ?_
  refine g_aloadN C X15 (pc' := 104) d11_103 rfl rfl rfl ?_
  refine g_aloadN C X15 (pc' := 105) d11_104 rfl rfl rfl ?_
  refine g_getFR C X15 (pc' := 108) (hw _ (List.mem_of_getElem? (i := 99) rfl)) e15 G6 d11_105 rfl ?_
  refine g_aloadN C X15 (pc' := 109) d11_108 rfl rfl rfl ?_
  refine g_getFR C X15 (pc' := 112) (hw _ (List.mem_of_getElem? (i := 100) rfl)) e15 G3 d11_109 rfl ?_
  refine g_iconst C X15 (pc' := 113) d11_112 (v := (1 : Int32)) (by decide) rfl ?_
  refine g_iadd C X15 (pc' := 114) d11_113 rfl ?_
  rw [show ((0 : Int32) + (1 : Int32) : Int32) = 1 from by decide]
  refine g_callS C X15 (k5_copyOf l Z a0 hw h15 n0 Z15  ad2 kd2    Ad2) (hw _ (List.mem_of_getElem? (i := 77) rfl)) (hw _ (List.mem_of_getElem? (i := 78) rfl)) (hw _ (List.mem_of_getElem? (i := 79) rfl)) (hw _ (List.mem_of_getElem? (i := 80) rfl)) (by decide) e15 d11_114 rfl kk_24 [(.ref ad2), (.int (1 : Int32))] [(.ref pr)] rfl rfl rfl 1 rfl (by decide) (by decide) (by decide) (by decide) rfl ?_
  rintro _ T16 L16 X16 ⟨b5, kc6, rfl, M16, K16, w_b5, FF7, FF8⟩
  have ne_a7_b5 : a7 ≠ b5 := Nat.ne_of_lt (Nat.lt_of_lt_of_le B7.lt w_b5)
  have ne_ad1_b5 : ad1 ≠ b5 := Nat.ne_of_lt (Nat.lt_of_lt_of_le Ad1.lt w_b5)
  have ne_ad2_b5 : ad2 ≠ b5 := Nat.ne_of_lt (Nat.lt_of_lt_of_le Ad2.lt w_b5)
  have ne_ad3_b5 : ad3 ≠ b5 := Nat.ne_of_lt (Nat.lt_of_lt_of_le Ad3.lt w_b5)
  have ne_ad4_b5 : ad4 ≠ b5 := Nat.ne_of_lt (Nat.lt_of_lt_of_le Ad4.lt w_b5)
  have ne_ad5_b5 : ad5 ≠ b5 := Nat.ne_of_lt (Nat.lt_of_lt_of_le Ad5.lt w_b5)
  have ne_b1_b5 : b1 ≠ b5 := Nat.ne_of_lt (Nat.lt_of_lt_of_le FF3.lt w_b5)
  have ne_bu_b5 : bu ≠ b5 := Nat.ne_of_lt (Nat.lt_of_lt_of_le XB.lt w_b5)
  have ne_pr_b5 : pr ≠ b5 := Nat.ne_of_lt (Nat.lt_of_lt_of_le XP.lt w_b5)
  have ne_rb_b5 : rb ≠ b5 := Nat.ne_of_lt (Nat.lt_of_lt_of_le Ad6.lt w_b5)
  have z_b5 : n0 ≤ b5 := Nat.le_trans Z15 w_b5
  have y_b5 : h.size ≤ b5 := Nat.le_trans P15.1 w_b5
  have XP := XP.keep K16
  have Pf0 := Pf0.keep K16 nin0
  have Pf1 := Pf1.keep K16 nin0
  have Pf2 := Pf2.keep K16 nin0
  have Pf3 := Pf3.keep K16 nin0
  have Pf4 := Pf4.keep K16 nin0
  have Pf5 := Pf5.keep K16 nin0
  have Pf6 := Pf6.keep K16 nin0
  have Pf7 := Pf7.keep K16 nin0
  have XB := XB.keep K16
  have G0 := G0.keep K16 nin0
  have G1 := G1.keep K16 nin0
  have G2 := G2.keep K16 nin0
  have G3 := G3.keep K16 nin0
  have G4 := G4.keep K16 nin0
  have G5 := G5.keep K16 nin0
  have G6 := G6.keep K16 nin0
  have G7 := G7.keep K16 nin0
  have G8 := G8.keep K16 nin0
  have G9 := G9.keep K16 nin0
  have G10 := G10.keep K16 nin0
  have Ad1 := Ad1.keep K16 nin0
  have Ad2 := Ad2.keep K16 nin0
  have Ad3 := Ad3.keep K16 nin0
  have Ad4 := Ad4.keep K16 nin0
  have Ad5 := Ad5.keep K16 nin0
  have Ad6 := Ad6.keep K16 nin0
  have XR := XR.keep K16
  have FF3 := FF3.keep K16
  have FF4 := FF4.keep K16 nin0
  have B7 := B7.keep K16
  have FI15 := FI15.keep K16 nin0
  have Z16 : n0 ≤ T16.heap.size := Nat.le_trans Z15 K16.1
  have P16 := P15.trans K16 al0
  have N16 := Fr.app N15 M16
  obtain ⟨h16, e16⟩ : ∃ z, T16.heap = z := ⟨_, rfl⟩
  rw [e16] at XP Pf0 Pf1 Pf2 Pf3 Pf4 Pf5 Pf6 Pf7 XB G0 G1 G2 G3 G4 G5 G6 G7 G8 G9 G10 Ad1 Ad2 Ad3 Ad4 Ad5 Ad6 XR FF3 FF4 B7 FI15 FF7 FF8 Z16 P16
  show Go p.tables e below _ T16 (mkF m 117 #[.val (.ref pr), .val (.ref bu), .val (.int (1 : Int32))] [(.ref b5), (.ref pr)])
  refine g_putF C X16 (host := "") (Or.inl (hw _ (List.mem_of_getElem? (i := 101) rfl))) Via.refl e16 Pf3 XP (Or.inr ⟨(hw _ (List.mem_of_getElem? (i := 102) rfl)), rfl, rfl⟩) (hw _ (List.mem_of_getElem? (i := 66) rfl)) (ty := (.array .int)) (by decide) rfl rfl d11_117 rfl ?_
  intro T17 h17 X17 e17 W17
  have XP := XP.wr W17
  have Pf0 := Pf0.other W17 (Or.inr (slot_ne (Or.inr (hw _ (List.mem_of_getElem? (i := 74) rfl))) (Or.inr (hw _ (List.mem_of_getElem? (i := 102) rfl))) (by decide) rfl rfl))
  have Pf1 := Pf1.other W17 (Or.inr (slot_ne (Or.inr (hw _ (List.mem_of_getElem? (i := 89) rfl))) (Or.inr (hw _ (List.mem_of_getElem? (i := 102) rfl))) (by decide) rfl rfl))
  have Pf2 := Pf2.other W17 (Or.inr (slot_ne (Or.inr (hw _ (List.mem_of_getElem? (i := 92) rfl))) (Or.inr (hw _ (List.mem_of_getElem? (i := 102) rfl))) (by decide) rfl rfl))
  have Pf3 := Pf3.same W17
  have Pf4 := Pf4.other W17 (Or.inr (slot_ne (Or.inr (hw _ (List.mem_of_getElem? (i := 107) rfl))) (Or.inr (hw _ (List.mem_of_getElem? (i := 102) rfl))) (by decide) rfl rfl))
  have Pf5 := Pf5.other W17 (Or.inr (slot_ne (Or.inr (hw _ (List.mem_of_getElem? (i := 113) rfl))) (Or.inr (hw _ (List.mem_of_getElem? (i := 102) rfl))) (by decide) rfl rfl))
  have Pf6 := Pf6.other W17 (Or.inr (slot_ne (Or.inr (hw _ (List.mem_of_getElem? (i := 116) rfl))) (Or.inr (hw _ (List.mem_of_getElem? (i := 102) rfl))) (by decide) rfl rfl))
  have Pf7 := Pf7.other W17 (Or.inr (slot_ne (Or.inr (hw _ (List.mem_of_getElem? (i := 119) rfl))) (Or.inr (hw _ (List.mem_of_getElem? (i := 102) rfl))) (by decide) rfl rfl))
  have XB := XB.wr W17
  have G0 := G0.other W17 (Or.inl (Ne.symm ne_pr_bu))
  have G1 := G1.other W17 (Or.inl (Ne.symm ne_pr_bu))
  have G2 := G2.other W17 (Or.inl (Ne.symm ne_pr_bu))
  have G3 := G3.other W17 (Or.inl (Ne.symm ne_pr_bu))
  have G4 := G4.other W17 (Or.inl (Ne.symm ne_pr_bu))
  have G5 := G5.other W17 (Or.inl (Ne.symm ne_pr_bu))
  have G6 := G6.other W17 (Or.inl (Ne.symm ne_pr_bu))
  have G7 := G7.other W17 (Or.inl (Ne.symm ne_pr_bu))
  have G8 := G8.other W17 (Or.inl (Ne.symm ne_pr_bu))
  have G9 := G9.other W17 (Or.inl (Ne.symm ne_pr_bu))
  have G10 := G10.other W17 (Or.inl (Ne.symm ne_pr_bu))
  have Ad1 := Ad1.other W17 (Ne.symm ne_pr_ad1)
  have Ad2 := Ad2.other W17 (Ne.symm ne_pr_ad2)
  have Ad3 := Ad3.other W17 (Ne.symm ne_pr_ad3)
  have Ad4 := Ad4.other W17 (Ne.symm ne_pr_ad4)
  have Ad5 := Ad5.other W17 (Ne.symm ne_pr_ad5)
  have Ad6 := Ad6.other W17 (Ne.symm ne_pr_rb)
  have XR := XR.wr W17
  have FF3 := FF3.wr W17
  have FF4 := FF4.other W17 (Ne.symm ne_pr_b1)
  have B7 := B7.wr W17
  have FI15 := FI15.other W17 (Ne.symm ne_pr_a7)
  have FF7 := FF7.wr W17
  have FF8 := FF8.other W17 (Ne.symm ne_pr_b5)
  have Z17 : n0 ≤ h17.size := by rw [W17.size]; exact Z16
  have N17 := Fr.snoc X17 N16 z_pr
  have P17 := P16.wr W17 (Or.inl (List.mem_of_getElem? (i := 0) rfl))
  refine g_aloadN C X17 (pc' := 121) d11_120 rfl rfl rfl ?_
  refine g_getF C X17 (host := "") (Or.inl (hw _ (List.mem_of_getElem? (i := 101) rfl))) Via.refl e17 Pf3 d11_121 rfl ?_
  intro T18 X18 e18
  refine g_aloadN C X18 (pc' := 125) d11_124 rfl rfl rfl ?_
  refine g_getFR C X18 (pc' := 128) (hw _ (List.mem_of_getElem? (i := 100) rfl)) e18 G3 d11_125 rfl ?_
  refine g_aloadN C X18 (pc' := 129) d11_128 rfl rfl rfl ?_
  refine g_getFR C X18 (pc' := 132) (hw _ (List.mem_of_getElem? (i := 103) rfl)) e18 G4 d11_129 rfl ?_
  refine g_iastore C X18 (pc' := 133) e18 FF8 (by decide) (by decide) 0 0 (by decide) (of_decide_eq_true rfl) d11_132 rfl ?_
  intro T19 h19 X19 e19 W19 Aq
  have XP := XP.wr W19
  have Pf0 := Pf0.other W19 (Or.inl ne_pr_b5)
  have Pf1 := Pf1.other W19 (Or.inl ne_pr_b5)
  have Pf2 := Pf2.other W19 (Or.inl ne_pr_b5)
  have Pf3 := Pf3.other W19 (Or.inl ne_pr_b5)
  have Pf4 := Pf4.other W19 (Or.inl ne_pr_b5)
  have Pf5 := Pf5.other W19 (Or.inl ne_pr_b5)
  have Pf6 := Pf6.other W19 (Or.inl ne_pr_b5)
  have Pf7 := Pf7.other W19 (Or.inl ne_pr_b5)
  have XB := XB.wr W19
  have G0 := G0.other W19 (Or.inl ne_bu_b5)
  have G1 := G1.other W19 (Or.inl ne_bu_b5)
  have G2 := G2.other W19 (Or.inl ne_bu_b5)
  have G3 := G3.other W19 (Or.inl ne_bu_b5)
  have G4 := G4.other W19 (Or.inl ne_bu_b5)
  have G5 := G5.other W19 (Or.inl ne_bu_b5)
  have G6 := G6.other W19 (Or.inl ne_bu_b5)
  have G7 := G7.other W19 (Or.inl ne_bu_b5)
  have G8 := G8.other W19 (Or.inl ne_bu_b5)
  have G9 := G9.other W19 (Or.inl ne_bu_b5)
  have G10 := G10.other W19 (Or.inl ne_bu_b5)
  have Ad1 := Ad1.other W19 ne_ad1_b5
  have Ad2 := Ad2.other W19 ne_ad2_b5
  have Ad3 := Ad3.other W19 ne_ad3_b5
  have Ad4 := Ad4.other W19 ne_ad4_b5
  have Ad5 := Ad5.other W19 ne_ad5_b5
  have Ad6 := Ad6.other W19 ne_rb_b5
  have XR := XR.wr W19
  have FF3 := FF3.wr W19
  have FF4 := FF4.other W19 ne_b1_b5
  have B7 := B7.wr W19
  have FI15 := FI15.other W19 ne_a7_b5
  have FF7 := FF7.wr W19
  have Z19 : n0 ≤ h19.size := by rw [W19.size]; exact Z17
  have N19 := Fr.snoc X19 N17 z_b5
  have P19 := P17.wr W19 (Or.inr y_b5)
  have FF8 : Arv Z h19 b5 kc6 .int (1 : Int32) [(.int (0 : Int32))] (.int (0 : Int32)) := Aq
  refine g_aloadN C X19 (pc' := 134) d11_133 rfl rfl rfl ?_
  refine g_aloadN C X19 (pc' := 135) d11_134 rfl rfl rfl ?_
  refine g_getFR C X19 (pc' := 138) (hw _ (List.mem_of_getElem? (i := 105) rfl)) e19 G7 d11_135 rfl ?_
  refine g_aloadN C X19 (pc' := 139) d11_138 rfl rfl rfl ?_
  refine g_getFR C X19 (pc' := 142) (hw _ (List.mem_of_getElem? (i := 103) rfl)) e19 G4 d11_139 rfl ?_
  refine g_callS C X19 (k7_copyOf l Z a0 hw h19 n0 Z19  ad3 kd3    Ad3) (hw _ (List.mem_of_getElem? (i := 77) rfl)) (hw _ (List.mem_of_getElem? (i := 78) rfl)) (hw _ (List.mem_of_getElem? (i := 79) rfl)) (hw _ (List.mem_of_getElem? (i := 80) rfl)) (by decide) e19 d11_142 rfl kk_24 [(.ref ad3), (.int (0 : Int32))] [(.ref pr)] rfl rfl rfl 1 rfl (by decide) (by decide) (by decide) (by decide) rfl ?_
  rintro _ T20 L20 X20 ⟨b9, kc10, rfl, M20, K20, w_b9, FF11, FF12⟩
  have ne_a7_b9 : a7 ≠ b9 := Nat.ne_of_lt (Nat.lt_of_lt_of_le B7.lt w_b9)
  have ne_ad1_b9 : ad1 ≠ b9 := Nat.ne_of_lt (Nat.lt_of_lt_of_le Ad1.lt w_b9)
  have ne_ad2_b9 : ad2 ≠ b9 := Nat.ne_of_lt (Nat.lt_of_lt_of_le Ad2.lt w_b9)
  have ne_ad3_b9 : ad3 ≠ b9 := Nat.ne_of_lt (Nat.lt_of_lt_of_le Ad3.lt w_b9)
  have ne_ad4_b9 : ad4 ≠ b9 := Nat.ne_of_lt (Nat.lt_of_lt_of_le Ad4.lt w_b9)
  have ne_ad5_b9 : ad5 ≠ b9 := Nat.ne_of_lt (Nat.lt_of_lt_of_le Ad5.lt w_b9)
  have ne_b1_b9 : b1 ≠ b9 := Nat.ne_of_lt (Nat.lt_of_lt_of_le FF3.lt w_b9)
  have ne_b5_b9 : b5 ≠ b9 := Nat.ne_of_lt (Nat.lt_of_lt_of_le FF7.lt w_b9)
  have ne_bu_b9 : bu ≠ b9 := Nat.ne_of_lt (Nat.lt_of_lt_of_le XB.lt w_b9)
  have ne_pr_b9 : pr ≠ b9 := Nat.ne_of_lt (Nat.lt_of_lt_of_le XP.lt w_b9)
  have ne_rb_b9 : rb ≠ b9 := Nat.ne_of_lt (Nat.lt_of_lt_of_le Ad6.lt w_b9)
  have z_b9 : n0 ≤ b9 := Nat.le_trans Z19 w_b9
  have y_b9 : h.size ≤ b9 := Nat.le_trans P19.1 w_b9
  have XP := XP.keep K20
  have Pf0 := Pf0.keep K20 nin0
  have Pf1 := Pf1.keep K20 nin0
  have Pf2 := Pf2.keep K20 nin0
  have Pf3 := Pf3.keep K20 nin0
  have Pf4 := Pf4.keep K20 nin0
  have Pf5 := Pf5.keep K20 nin0
  have Pf6 := Pf6.keep K20 nin0
  have Pf7 := Pf7.keep K20 nin0
  have XB := XB.keep K20
  have G0 := G0.keep K20 nin0
  have G1 := G1.keep K20 nin0
  have G2 := G2.keep K20 nin0
  have G3 := G3.keep K20 nin0
  have G4 := G4.keep K20 nin0
  have G5 := G5.keep K20 nin0
  have G6 := G6.keep K20 nin0
  have G7 := G7.keep K20 nin0
  have G8 := G8.keep K20 nin0
  have G9 := G9.keep K20 nin0
  have G10 := G10.keep K20 nin0
  have Ad1 := Ad1.keep K20 nin0
  have Ad2 := Ad2.keep K20 nin0
  have Ad3 := Ad3.keep K20 nin0
  have Ad4 := Ad4.keep K20 nin0
  have Ad5 := Ad5.keep K20 nin0
  have Ad6 := Ad6.keep K20 nin0
  have XR := XR.keep K20
  have FF3 := FF3.keep K20
  have FF4 := FF4.keep K20 nin0
  have B7 := B7.keep K20
  have FI15 := FI15.keep K20 nin0
  have FF7 := FF7.keep K20
  have FF8 := FF8.keep K20 nin0
  have Z20 : n0 ≤ T20.heap.size := Nat.le_trans Z19 K20.1
  have P20 := P19.trans K20 al0
  have N20 := Fr.app N19 M20
  obtain ⟨h20, e20⟩ : ∃ z, T20.heap = z := ⟨_, rfl⟩
  rw [e20] at XP Pf0 Pf1 Pf2 Pf3 Pf4 Pf5 Pf6 Pf7 XB G0 G1 G2 G3 G4 G5 G6 G7 G8 G9 G10 Ad1 Ad2 Ad3 Ad4 Ad5 Ad6 XR FF3 FF4 B7 FI15 FF7 FF8 FF11 FF12 Z20 P20
  show Go p.tables e below _ T20 (mkF m 145 #[.val (.ref pr), .val (.ref bu), .val (.int (1 : Int32))] [(.ref b9), (.ref pr)])
  refine g_putF C X20 (host := "") (Or.inl (hw _ (List.mem_of_getElem? (i := 106) rfl))) Via.refl e20 Pf4 XP (Or.inr ⟨(hw _ (List.mem_of_getElem? (i := 107) rfl)), rfl, rfl⟩) (hw _ (List.mem_of_getElem? (i := 66) rfl)) (ty := (.array .int)) (by decide) rfl rfl d11_145 rfl ?_
  intro T21 h21 X21 e21 W21
  have XP := XP.wr W21
  have Pf0 := Pf0.other W21 (Or.inr (slot_ne (Or.inr (hw _ (List.mem_of_getElem? (i := 74) rfl))) (Or.inr (hw _ (List.mem_of_getElem? (i := 107) rfl))) (by decide) rfl rfl))
  have Pf1 := Pf1.other W21 (Or.inr (slot_ne (Or.inr (hw _ (List.mem_of_getElem? (i := 89) rfl))) (Or.inr (hw _ (List.mem_of_getElem? (i := 107) rfl))) (by decide) rfl rfl))
  have Pf2 := Pf2.other W21 (Or.inr (slot_ne (Or.inr (hw _ (List.mem_of_getElem? (i := 92) rfl))) (Or.inr (hw _ (List.mem_of_getElem? (i := 107) rfl))) (by decide) rfl rfl))
  have Pf3 := Pf3.other W21 (Or.inr (slot_ne (Or.inr (hw _ (List.mem_of_getElem? (i := 102) rfl))) (Or.inr (hw _ (List.mem_of_getElem? (i := 107) rfl))) (by decide) rfl rfl))
  have Pf4 := Pf4.same W21
  have Pf5 := Pf5.other W21 (Or.inr (slot_ne (Or.inr (hw _ (List.mem_of_getElem? (i := 113) rfl))) (Or.inr (hw _ (List.mem_of_getElem? (i := 107) rfl))) (by decide) rfl rfl))
  have Pf6 := Pf6.other W21 (Or.inr (slot_ne (Or.inr (hw _ (List.mem_of_getElem? (i := 116) rfl))) (Or.inr (hw _ (List.mem_of_getElem? (i := 107) rfl))) (by decide) rfl rfl))
  have Pf7 := Pf7.other W21 (Or.inr (slot_ne (Or.inr (hw _ (List.mem_of_getElem? (i := 119) rfl))) (Or.inr (hw _ (List.mem_of_getElem? (i := 107) rfl))) (by decide) rfl rfl))
  have XB := XB.wr W21
  have G0 := G0.other W21 (Or.inl (Ne.symm ne_pr_bu))
  have G1 := G1.other W21 (Or.inl (Ne.symm ne_pr_bu))
  have G2 := G2.other W21 (Or.inl (Ne.symm ne_pr_bu))
  have G3 := G3.other W21 (Or.inl (Ne.symm ne_pr_bu))
  have G4 := G4.other W21 (Or.inl (Ne.symm ne_pr_bu))
  have G5 := G5.other W21 (Or.inl (Ne.symm ne_pr_bu))
  have G6 := G6.other W21 (Or.inl (Ne.symm ne_pr_bu))
  have G7 := G7.other W21 (Or.inl (Ne.symm ne_pr_bu))
  have G8 := G8.other W21 (Or.inl (Ne.symm ne_pr_bu))
  have G9 := G9.other W21 (Or.inl (Ne.symm ne_pr_bu))
  have G10 := G10.other W21 (Or.inl (Ne.symm ne_pr_bu))
  have Ad1 := Ad1.other W21 (Ne.symm ne_pr_ad1)
  have Ad2 := Ad2.other W21 (Ne.symm ne_pr_ad2)
  have Ad3 := Ad3.other W21 (Ne.symm ne_pr_ad3)
  have Ad4 := Ad4.other W21 (Ne.symm ne_pr_ad4)
  have Ad5 := Ad5.other W21 (Ne.symm ne_pr_ad5)
  have Ad6 := Ad6.other W21 (Ne.symm ne_pr_rb)
  have XR := XR.wr W21
  have FF3 := FF3.wr W21
  have FF4 := FF4.other W21 (Ne.symm ne_pr_b1)
  have B7 := B7.wr W21
  have FI15 := FI15.other W21 (Ne.symm ne_pr_a7)
  have FF7 := FF7.wr W21
  have FF8 := FF8.other W21 (Ne.symm ne_pr_b5)
  have FF11 := FF11.wr W21
  have FF12 := FF12.other W21 (Ne.symm ne_pr_b9)
  have Z21 : n0 ≤ h21.size := by rw [W21.size]; exact Z20
  have N21 := Fr.snoc X21 N20 z_pr
  have P21 := P20.wr W21 (Or.inl (List.mem_of_getElem? (i := 0) rfl))
  refine g_aloadN C X21 (pc' := 149) d11_148 rfl rfl rfl ?_
  refine g_aloadN C X21 (pc' := 150) d11_149 rfl rfl rfl ?_
  refine g_getFR C X21 (pc' := 153) (hw _ (List.mem_of_getElem? (i := 108) rfl)) e21 G8 d11_150 rfl ?_
  refine g_aloadN C X21 (pc' := 154) d11_153 rfl rfl rfl ?_
  refine g_getFR C X21 (pc' := 157) (hw _ (List.mem_of_getElem? (i := 103) rfl)) e21 G4 d11_154 rfl ?_
  refine g_callS C X21 (k8_copyOf l Z a0 hw h21 n0 Z21  ad4 kd4    Ad4) (hw _ (List.mem_of_getElem? (i := 109) rfl)) (hw _ (List.mem_of_getElem? (i := 110) rfl)) (hw _ (List.mem_of_getElem? (i := 79) rfl)) (hw _ (List.mem_of_getElem? (i := 111) rfl)) (by decide) e21 d11_157 rfl kk_15 [(.ref ad4), (.int (0 : Int32))] [(.ref pr)] rfl rfl rfl 1 rfl (by decide) (by decide) (by decide) (by decide) rfl ?_
  rintro _ T22 L22 X22 ⟨b13, kc14, rfl, M22, K22, w_b13, FF15, FF16⟩
  have ne_a7_b13 : a7 ≠ b13 := Nat.ne_of_lt (Nat.lt_of_lt_of_le B7.lt w_b13)
  have ne_ad1_b13 : ad1 ≠ b13 := Nat.ne_of_lt (Nat.lt_of_lt_of_le Ad1.lt w_b13)
  have ne_ad2_b13 : ad2 ≠ b13 := Nat.ne_of_lt (Nat.lt_of_lt_of_le Ad2.lt w_b13)
  have ne_ad3_b13 : ad3 ≠ b13 := Nat.ne_of_lt (Nat.lt_of_lt_of_le Ad3.lt w_b13)
  have ne_ad4_b13 : ad4 ≠ b13 := Nat.ne_of_lt (Nat.lt_of_lt_of_le Ad4.lt w_b13)
  have ne_ad5_b13 : ad5 ≠ b13 := Nat.ne_of_lt (Nat.lt_of_lt_of_le Ad5.lt w_b13)
  have ne_b1_b13 : b1 ≠ b13 := Nat.ne_of_lt (Nat.lt_of_lt_of_le FF3.lt w_b13)
  have ne_b5_b13 : b5 ≠ b13 := Nat.ne_of_lt (Nat.lt_of_lt_of_le FF7.lt w_b13)
  have ne_b9_b13 : b9 ≠ b13 := Nat.ne_of_lt (Nat.lt_of_lt_of_le FF11.lt w_b13)
  have ne_bu_b13 : bu ≠ b13 := Nat.ne_of_lt (Nat.lt_of_lt_of_le XB.lt w_b13)
  have ne_pr_b13 : pr ≠ b13 := Nat.ne_of_lt (Nat.lt_of_lt_of_le XP.lt w_b13)
  have ne_rb_b13 : rb ≠ b13 := Nat.ne_of_lt (Nat.lt_of_lt_of_le Ad6.lt w_b13)
  have z_b13 : n0 ≤ b13 := Nat.le_trans Z21 w_b13
  have y_b13 : h.size ≤ b13 := Nat.le_trans P21.1 w_b13
  have XP := XP.keep K22
  have Pf0 := Pf0.keep K22 nin0
  have Pf1 := Pf1.keep K22 nin0
  have Pf2 := Pf2.keep K22 nin0
  have Pf3 := Pf3.keep K22 nin0
  have Pf4 := Pf4.keep K22 nin0
  have Pf5 := Pf5.keep K22 nin0
  have Pf6 := Pf6.keep K22 nin0
  have Pf7 := Pf7.keep K22 nin0
  have XB := XB.keep K22
  have G0 := G0.keep K22 nin0
  have G1 := G1.keep K22 nin0
  have G2 := G2.keep K22 nin0
  have G3 := G3.keep K22 nin0
  have G4 := G4.keep K22 nin0
  have G5 := G5.keep K22 nin0
  have G6 := G6.keep K22 nin0
  have G7 := G7.keep K22 nin0
  have G8 := G8.keep K22 nin0
  have G9 := G9.keep K22 nin0
  have G10 := G10.keep K22 nin0
  have Ad1 := Ad1.keep K22 nin0
  have Ad2 := Ad2.keep K22 nin0
  have Ad3 := Ad3.keep K22 nin0
  have Ad4 := Ad4.keep K22 nin0
  have Ad5 := Ad5.keep K22 nin0
  have Ad6 := Ad6.keep K22 nin0
  have XR := XR.keep K22
  have FF3 := FF3.keep K22
  have FF4 := FF4.keep K22 nin0
  have B7 := B7.keep K22
  have FI15 := FI15.keep K22 nin0
  have FF7 := FF7.keep K22
  have FF8 := FF8.keep K22 nin0
  have FF11 := FF11.keep K22
  have FF12 := FF12.keep K22 nin0
  have Z22 : n0 ≤ T22.heap.size := Nat.le_trans Z21 K22.1
  have P22 := P21.trans K22 al0
  have N22 := Fr.app N21 M22
  obtain ⟨h22, e22⟩ : ∃ z, T22.heap = z := ⟨_, rfl⟩
  rw [e22] at XP Pf0 Pf1 Pf2 Pf3 Pf4 Pf5 Pf6 Pf7 XB G0 G1 G2 G3 G4 G5 G6 G7 G8 G9 G10 Ad1 Ad2 Ad3 Ad4 Ad5 Ad6 XR FF3 FF4 B7 FI15 FF7 FF8 FF11 FF12 FF15 FF16 Z22 P22
  show Go p.tables e below _ T22 (mkF m 160 #[.val (.ref pr), .val (.ref bu), .val (.int (1 : Int32))] [(.ref b13), (.ref pr)])
  refine g_putF C X22 (host := "") (Or.inl (hw _ (List.mem_of_getElem? (i := 112) rfl))) Via.refl e22 Pf5 XP (Or.inr ⟨(hw _ (List.mem_of_getElem? (i := 113) rfl)), rfl, rfl⟩) (hw _ (List.mem_of_getElem? (i := 66) rfl)) (ty := (.array .double)) (by decide) rfl rfl d11_160 rfl ?_
  intro T23 h23 X23 e23 W23
  have XP := XP.wr W23
  have Pf0 := Pf0.other W23 (Or.inr (slot_ne (Or.inr (hw _ (List.mem_of_getElem? (i := 74) rfl))) (Or.inr (hw _ (List.mem_of_getElem? (i := 113) rfl))) (by decide) rfl rfl))
  have Pf1 := Pf1.other W23 (Or.inr (slot_ne (Or.inr (hw _ (List.mem_of_getElem? (i := 89) rfl))) (Or.inr (hw _ (List.mem_of_getElem? (i := 113) rfl))) (by decide) rfl rfl))
  have Pf2 := Pf2.other W23 (Or.inr (slot_ne (Or.inr (hw _ (List.mem_of_getElem? (i := 92) rfl))) (Or.inr (hw _ (List.mem_of_getElem? (i := 113) rfl))) (by decide) rfl rfl))
  have Pf3 := Pf3.other W23 (Or.inr (slot_ne (Or.inr (hw _ (List.mem_of_getElem? (i := 102) rfl))) (Or.inr (hw _ (List.mem_of_getElem? (i := 113) rfl))) (by decide) rfl rfl))
  have Pf4 := Pf4.other W23 (Or.inr (slot_ne (Or.inr (hw _ (List.mem_of_getElem? (i := 107) rfl))) (Or.inr (hw _ (List.mem_of_getElem? (i := 113) rfl))) (by decide) rfl rfl))
  have Pf5 := Pf5.same W23
  have Pf6 := Pf6.other W23 (Or.inr (slot_ne (Or.inr (hw _ (List.mem_of_getElem? (i := 116) rfl))) (Or.inr (hw _ (List.mem_of_getElem? (i := 113) rfl))) (by decide) rfl rfl))
  have Pf7 := Pf7.other W23 (Or.inr (slot_ne (Or.inr (hw _ (List.mem_of_getElem? (i := 119) rfl))) (Or.inr (hw _ (List.mem_of_getElem? (i := 113) rfl))) (by decide) rfl rfl))
  have XB := XB.wr W23
  have G0 := G0.other W23 (Or.inl (Ne.symm ne_pr_bu))
  have G1 := G1.other W23 (Or.inl (Ne.symm ne_pr_bu))
  have G2 := G2.other W23 (Or.inl (Ne.symm ne_pr_bu))
  have G3 := G3.other W23 (Or.inl (Ne.symm ne_pr_bu))
  have G4 := G4.other W23 (Or.inl (Ne.symm ne_pr_bu))
  have G5 := G5.other W23 (Or.inl (Ne.symm ne_pr_bu))
  have G6 := G6.other W23 (Or.inl (Ne.symm ne_pr_bu))
  have G7 := G7.other W23 (Or.inl (Ne.symm ne_pr_bu))
  have G8 := G8.other W23 (Or.inl (Ne.symm ne_pr_bu))
  have G9 := G9.other W23 (Or.inl (Ne.symm ne_pr_bu))
  have G10 := G10.other W23 (Or.inl (Ne.symm ne_pr_bu))
  have Ad1 := Ad1.other W23 (Ne.symm ne_pr_ad1)
  have Ad2 := Ad2.other W23 (Ne.symm ne_pr_ad2)
  have Ad3 := Ad3.other W23 (Ne.symm ne_pr_ad3)
  have Ad4 := Ad4.other W23 (Ne.symm ne_pr_ad4)
  have Ad5 := Ad5.other W23 (Ne.symm ne_pr_ad5)
  have Ad6 := Ad6.other W23 (Ne.symm ne_pr_rb)
  have XR := XR.wr W23
  have FF3 := FF3.wr W23
  have FF4 := FF4.other W23 (Ne.symm ne_pr_b1)
  have B7 := B7.wr W23
  have FI15 := FI15.other W23 (Ne.symm ne_pr_a7)
  have FF7 := FF7.wr W23
  have FF8 := FF8.other W23 (Ne.symm ne_pr_b5)
  have FF11 := FF11.wr W23
  have FF12 := FF12.other W23 (Ne.symm ne_pr_b9)
  have FF15 := FF15.wr W23
  have FF16 := FF16.other W23 (Ne.symm ne_pr_b13)
  have Z23 : n0 ≤ h23.size := by rw [W23.size]; exact Z22
  have N23 := Fr.snoc X23 N22 z_pr
  have P23 := P22.wr W23 (Or.inl (List.mem_of_getElem? (i := 0) rfl))
  refine g_aloadN C X23 (pc' := 164) d11_163 rfl rfl rfl ?_
  refine g_aloadN C X23 (pc' := 165) d11_164 rfl rfl rfl ?_
  refine g_getFR C X23 (pc' := 168) (hw _ (List.mem_of_getElem? (i := 114) rfl)) e23 G9 d11_165 rfl ?_
  refine g_aloadN C X23 (pc' := 169) d11_168 rfl rfl rfl ?_
  refine g_getFR C X23 (pc' := 172) (hw _ (List.mem_of_getElem? (i := 100) rfl)) e23 G3 d11_169 rfl ?_
  refine g_callS C X23 (k8_copyOf l Z a0 hw h23 n0 Z23  ad5 kd5    Ad5) (hw _ (List.mem_of_getElem? (i := 109) rfl)) (hw _ (List.mem_of_getElem? (i := 110) rfl)) (hw _ (List.mem_of_getElem? (i := 79) rfl)) (hw _ (List.mem_of_getElem? (i := 111) rfl)) (by decide) e23 d11_172 rfl kk_15 [(.ref ad5), (.int (0 : Int32))] [(.ref pr)] rfl rfl rfl 1 rfl (by decide) (by decide) (by decide) (by decide) rfl ?_
  rintro _ T24 L24 X24 ⟨b17, kc18, rfl, M24, K24, w_b17, FF19, FF20⟩
  have ne_a7_b17 : a7 ≠ b17 := Nat.ne_of_lt (Nat.lt_of_lt_of_le B7.lt w_b17)
  have ne_ad1_b17 : ad1 ≠ b17 := Nat.ne_of_lt (Nat.lt_of_lt_of_le Ad1.lt w_b17)
  have ne_ad2_b17 : ad2 ≠ b17 := Nat.ne_of_lt (Nat.lt_of_lt_of_le Ad2.lt w_b17)
  have ne_ad3_b17 : ad3 ≠ b17 := Nat.ne_of_lt (Nat.lt_of_lt_of_le Ad3.lt w_b17)
  have ne_ad4_b17 : ad4 ≠ b17 := Nat.ne_of_lt (Nat.lt_of_lt_of_le Ad4.lt w_b17)
  have ne_ad5_b17 : ad5 ≠ b17 := Nat.ne_of_lt (Nat.lt_of_lt_of_le Ad5.lt w_b17)
  have ne_b1_b17 : b1 ≠ b17 := Nat.ne_of_lt (Nat.lt_of_lt_of_le FF3.lt w_b17)
  have ne_b13_b17 : b13 ≠ b17 := Nat.ne_of_lt (Nat.lt_of_lt_of_le FF15.lt w_b17)
  have ne_b5_b17 : b5 ≠ b17 := Nat.ne_of_lt (Nat.lt_of_lt_of_le FF7.lt w_b17)
  have ne_b9_b17 : b9 ≠ b17 := Nat.ne_of_lt (Nat.lt_of_lt_of_le FF11.lt w_b17)
  have ne_bu_b17 : bu ≠ b17 := Nat.ne_of_lt (Nat.lt_of_lt_of_le XB.lt w_b17)
  have ne_pr_b17 : pr ≠ b17 := Nat.ne_of_lt (Nat.lt_of_lt_of_le XP.lt w_b17)
  have ne_rb_b17 : rb ≠ b17 := Nat.ne_of_lt (Nat.lt_of_lt_of_le Ad6.lt w_b17)
  have z_b17 : n0 ≤ b17 := Nat.le_trans Z23 w_b17
  have y_b17 : h.size ≤ b17 := Nat.le_trans P23.1 w_b17
  have XP := XP.keep K24
  have Pf0 := Pf0.keep K24 nin0
  have Pf1 := Pf1.keep K24 nin0
  have Pf2 := Pf2.keep K24 nin0
  have Pf3 := Pf3.keep K24 nin0
  have Pf4 := Pf4.keep K24 nin0
  have Pf5 := Pf5.keep K24 nin0
  have Pf6 := Pf6.keep K24 nin0
  have Pf7 := Pf7.keep K24 nin0
  have XB := XB.keep K24
  have G0 := G0.keep K24 nin0
  have G1 := G1.keep K24 nin0
  have G2 := G2.keep K24 nin0
  have G3 := G3.keep K24 nin0
  have G4 := G4.keep K24 nin0
  have G5 := G5.keep K24 nin0
  have G6 := G6.keep K24 nin0
  have G7 := G7.keep K24 nin0
  have G8 := G8.keep K24 nin0
  have G9 := G9.keep K24 nin0
  have G10 := G10.keep K24 nin0
  have Ad1 := Ad1.keep K24 nin0
  have Ad2 := Ad2.keep K24 nin0
  have Ad3 := Ad3.keep K24 nin0
  have Ad4 := Ad4.keep K24 nin0
  have Ad5 := Ad5.keep K24 nin0
  have Ad6 := Ad6.keep K24 nin0
  have XR := XR.keep K24
  have FF3 := FF3.keep K24
  have FF4 := FF4.keep K24 nin0
  have B7 := B7.keep K24
  have FI15 := FI15.keep K24 nin0
  have FF7 := FF7.keep K24
  have FF8 := FF8.keep K24 nin0
  have FF11 := FF11.keep K24
  have FF12 := FF12.keep K24 nin0
  have FF15 := FF15.keep K24
  have FF16 := FF16.keep K24 nin0
  have Z24 : n0 ≤ T24.heap.size := Nat.le_trans Z23 K24.1
  have P24 := P23.trans K24 al0
  have N24 := Fr.app N23 M24
  obtain ⟨h24, e24⟩ : ∃ z, T24.heap = z := ⟨_, rfl⟩
  rw [e24] at XP Pf0 Pf1 Pf2 Pf3 Pf4 Pf5 Pf6 Pf7 XB G0 G1 G2 G3 G4 G5 G6 G7 G8 G9 G10 Ad1 Ad2 Ad3 Ad4 Ad5 Ad6 XR FF3 FF4 B7 FI15 FF7 FF8 FF11 FF12 FF15 FF16 FF19 FF20 Z24 P24
  show Go p.tables e below _ T24 (mkF m 175 #[.val (.ref pr), .val (.ref bu), .val (.int (1 : Int32))] [(.ref b17), (.ref pr)])
  refine g_putF C X24 (host := "") (Or.inl (hw _ (List.mem_of_getElem? (i := 115) rfl))) Via.refl e24 Pf6 XP (Or.inr ⟨(hw _ (List.mem_of_getElem? (i := 116) rfl)), rfl, rfl⟩) (hw _ (List.mem_of_getElem? (i := 66) rfl)) (ty := (.array .double)) (by decide) rfl rfl d11_175 rfl ?_
  intro T25 h25 X25 e25 W25
  have XP := XP.wr W25
  have Pf0 := Pf0.other W25 (Or.inr (slot_ne (Or.inr (hw _ (List.mem_of_getElem? (i := 74) rfl))) (Or.inr (hw _ (List.mem_of_getElem? (i := 116) rfl))) (by decide) rfl rfl))
  have Pf1 := Pf1.other W25 (Or.inr (slot_ne (Or.inr (hw _ (List.mem_of_getElem? (i := 89) rfl))) (Or.inr (hw _ (List.mem_of_getElem? (i := 116) rfl))) (by decide) rfl rfl))
  have Pf2 := Pf2.other W25 (Or.inr (slot_ne (Or.inr (hw _ (List.mem_of_getElem? (i := 92) rfl))) (Or.inr (hw _ (List.mem_of_getElem? (i := 116) rfl))) (by decide) rfl rfl))
  have Pf3 := Pf3.other W25 (Or.inr (slot_ne (Or.inr (hw _ (List.mem_of_getElem? (i := 102) rfl))) (Or.inr (hw _ (List.mem_of_getElem? (i := 116) rfl))) (by decide) rfl rfl))
  have Pf4 := Pf4.other W25 (Or.inr (slot_ne (Or.inr (hw _ (List.mem_of_getElem? (i := 107) rfl))) (Or.inr (hw _ (List.mem_of_getElem? (i := 116) rfl))) (by decide) rfl rfl))
  have Pf5 := Pf5.other W25 (Or.inr (slot_ne (Or.inr (hw _ (List.mem_of_getElem? (i := 113) rfl))) (Or.inr (hw _ (List.mem_of_getElem? (i := 116) rfl))) (by decide) rfl rfl))
  have Pf6 := Pf6.same W25
  have Pf7 := Pf7.other W25 (Or.inr (slot_ne (Or.inr (hw _ (List.mem_of_getElem? (i := 119) rfl))) (Or.inr (hw _ (List.mem_of_getElem? (i := 116) rfl))) (by decide) rfl rfl))
  have XB := XB.wr W25
  have G0 := G0.other W25 (Or.inl (Ne.symm ne_pr_bu))
  have G1 := G1.other W25 (Or.inl (Ne.symm ne_pr_bu))
  have G2 := G2.other W25 (Or.inl (Ne.symm ne_pr_bu))
  have G3 := G3.other W25 (Or.inl (Ne.symm ne_pr_bu))
  have G4 := G4.other W25 (Or.inl (Ne.symm ne_pr_bu))
  have G5 := G5.other W25 (Or.inl (Ne.symm ne_pr_bu))
  have G6 := G6.other W25 (Or.inl (Ne.symm ne_pr_bu))
  have G7 := G7.other W25 (Or.inl (Ne.symm ne_pr_bu))
  have G8 := G8.other W25 (Or.inl (Ne.symm ne_pr_bu))
  have G9 := G9.other W25 (Or.inl (Ne.symm ne_pr_bu))
  have G10 := G10.other W25 (Or.inl (Ne.symm ne_pr_bu))
  have Ad1 := Ad1.other W25 (Ne.symm ne_pr_ad1)
  have Ad2 := Ad2.other W25 (Ne.symm ne_pr_ad2)
  have Ad3 := Ad3.other W25 (Ne.symm ne_pr_ad3)
  have Ad4 := Ad4.other W25 (Ne.symm ne_pr_ad4)
  have Ad5 := Ad5.other W25 (Ne.symm ne_pr_ad5)
  have Ad6 := Ad6.other W25 (Ne.symm ne_pr_rb)
  have XR := XR.wr W25
  have FF3 := FF3.wr W25
  have FF4 := FF4.other W25 (Ne.symm ne_pr_b1)
  have B7 := B7.wr W25
  have FI15 := FI15.other W25 (Ne.symm ne_pr_a7)
  have FF7 := FF7.wr W25
  have FF8 := FF8.other W25 (Ne.symm ne_pr_b5)
  have FF11 := FF11.wr W25
  have FF12 := FF12.other W25 (Ne.symm ne_pr_b9)
  have FF15 := FF15.wr W25
  have FF16 := FF16.other W25 (Ne.symm ne_pr_b13)
  have FF19 := FF19.wr W25
  have FF20 := FF20.other W25 (Ne.symm ne_pr_b17)
  have Z25 : n0 ≤ h25.size := by rw [W25.size]; exact Z24
  have N25 := Fr.snoc X25 N24 z_pr
  have P25 := P24.wr W25 (Or.inl (List.mem_of_getElem? (i := 0) rfl))
  refine g_aloadN C X25 (pc' := 179) d11_178 rfl rfl rfl ?_
  refine g_aloadN C X25 (pc' := 180) d11_179 rfl rfl rfl ?_
  refine g_getFR C X25 (pc' := 183) (hw _ (List.mem_of_getElem? (i := 117) rfl)) e25 G10 d11_180 rfl ?_
  refine g_aloadN C X25 (pc' := 184) d11_183 rfl rfl rfl ?_
  refine g_getFR C X25 (pc' := 187) (hw _ (List.mem_of_getElem? (i := 90) rfl)) e25 G1 d11_184 rfl ?_
  refine g_callS C X25 (c_copyD l Z a0 hw h25 n0 Z25 rb kb zz rows Lq (by omega) (by omega) hLq Ad6 XR) (hw _ (List.mem_of_getElem? (i := 109) rfl)) (hw _ (List.mem_of_getElem? (i := 110) rfl)) (hw _ (List.mem_of_getElem? (i := 79) rfl)) (hw _ (List.mem_of_getElem? (i := 111) rfl)) (by decide) e25 d11_187 rfl kk_15 [(.ref rb), (.int rows)] [(.ref pr)] rfl rfl rfl 1 rfl (by decide) (by decide) (by decide) (by decide) rfl ?_
  rintro _ T26 L26 X26 ⟨bz, kbz, rfl, M26, K26, y9_bz, Abz, Xbz⟩
  have ne_a7_bz : a7 ≠ bz := Nat.ne_of_lt (Nat.lt_of_lt_of_le B7.lt y9_bz)
  have ne_ad1_bz : ad1 ≠ bz := Nat.ne_of_lt (Nat.lt_of_lt_of_le Ad1.lt y9_bz)
  have ne_ad2_bz : ad2 ≠ bz := Nat.ne_of_lt (Nat.lt_of_lt_of_le Ad2.lt y9_bz)
  have ne_ad3_bz : ad3 ≠ bz := Nat.ne_of_lt (Nat.lt_of_lt_of_le Ad3.lt y9_bz)
  have ne_ad4_bz : ad4 ≠ bz := Nat.ne_of_lt (Nat.lt_of_lt_of_le Ad4.lt y9_bz)
  have ne_ad5_bz : ad5 ≠ bz := Nat.ne_of_lt (Nat.lt_of_lt_of_le Ad5.lt y9_bz)
  have ne_b1_bz : b1 ≠ bz := Nat.ne_of_lt (Nat.lt_of_lt_of_le FF3.lt y9_bz)
  have ne_b13_bz : b13 ≠ bz := Nat.ne_of_lt (Nat.lt_of_lt_of_le FF15.lt y9_bz)
  have ne_b17_bz : b17 ≠ bz := Nat.ne_of_lt (Nat.lt_of_lt_of_le FF19.lt y9_bz)
  have ne_b5_bz : b5 ≠ bz := Nat.ne_of_lt (Nat.lt_of_lt_of_le FF7.lt y9_bz)
  have ne_b9_bz : b9 ≠ bz := Nat.ne_of_lt (Nat.lt_of_lt_of_le FF11.lt y9_bz)
  have ne_bu_bz : bu ≠ bz := Nat.ne_of_lt (Nat.lt_of_lt_of_le XB.lt y9_bz)
  have ne_pr_bz : pr ≠ bz := Nat.ne_of_lt (Nat.lt_of_lt_of_le XP.lt y9_bz)
  have ne_rb_bz : rb ≠ bz := Nat.ne_of_lt (Nat.lt_of_lt_of_le Ad6.lt y9_bz)
  have z_bz : n0 ≤ bz := Nat.le_trans Z25 y9_bz
  have y_bz : h.size ≤ bz := Nat.le_trans P25.1 y9_bz
  have z_bz : n0 ≤ bz := Nat.le_trans Z25 y9_bz
  have y_bz : h.size ≤ bz := Nat.le_trans P25.1 y9_bz
  have XP := XP.keep K26
  have Pf0 := Pf0.keep K26 nin0
  have Pf1 := Pf1.keep K26 nin0
  have Pf2 := Pf2.keep K26 nin0
  have Pf3 := Pf3.keep K26 nin0
  have Pf4 := Pf4.keep K26 nin0
  have Pf5 := Pf5.keep K26 nin0
  have Pf6 := Pf6.keep K26 nin0
  have Pf7 := Pf7.keep K26 nin0
  have XB := XB.keep K26
  have G0 := G0.keep K26 nin0
  have G1 := G1.keep K26 nin0
  have G2 := G2.keep K26 nin0
  have G3 := G3.keep K26 nin0
  have G4 := G4.keep K26 nin0
  have G5 := G5.keep K26 nin0
  have G6 := G6.keep K26 nin0
  have G7 := G7.keep K26 nin0
  have G8 := G8.keep K26 nin0
  have G9 := G9.keep K26 nin0
  have G10 := G10.keep K26 nin0
  have Ad1 := Ad1.keep K26 nin0
  have Ad2 := Ad2.keep K26 nin0
  have Ad3 := Ad3.keep K26 nin0
  have Ad4 := Ad4.keep K26 nin0
  have Ad5 := Ad5.keep K26 nin0
  have Ad6 := Ad6.keep K26 nin0
  have XR := XR.keep K26
  have FF3 := FF3.keep K26
  have FF4 := FF4.keep K26 nin0
  have B7 := B7.keep K26
  have FI15 := FI15.keep K26 nin0
  have FF7 := FF7.keep K26
  have FF8 := FF8.keep K26 nin0
  have FF11 := FF11.keep K26
  have FF12 := FF12.keep K26 nin0
  have FF15 := FF15.keep K26
  have FF16 := FF16.keep K26 nin0
  have FF19 := FF19.keep K26
  have FF20 := FF20.keep K26 nin0
  have Z26 : n0 ≤ T26.heap.size := Nat.le_trans Z25 K26.1
  have P26 := P25.trans K26 al0
  have N26 := Fr.app N25 M26
  obtain ⟨h26, e26⟩ : ∃ z, T26.heap = z := ⟨_, rfl⟩
  rw [e26] at XP Pf0 Pf1 Pf2 Pf3 Pf4 Pf5 Pf6 Pf7 XB G0 G1 G2 G3 G4 G5 G6 G7 G8 G9 G10 Ad1 Ad2 Ad3 Ad4 Ad5 Ad6 XR FF3 FF4 B7 FI15 FF7 FF8 FF11 FF12 FF15 FF16 FF19 FF20 Abz Xbz Z26 P26
  show Go p.tables e below _ T26 (mkF m 190 #[.val (.ref pr), .val (.ref bu), .val (.int (1 : Int32))] [(.ref bz), (.ref pr)])
  refine g_putF C X26 (host := "") (Or.inl (hw _ (List.mem_of_getElem? (i := 118) rfl))) Via.refl e26 Pf7 XP (Or.inr ⟨(hw _ (List.mem_of_getElem? (i := 119) rfl)), rfl, rfl⟩) (hw _ (List.mem_of_getElem? (i := 66) rfl)) (ty := (.array .double)) (by decide) rfl rfl d11_190 rfl ?_
  intro T27 h27 X27 e27 W27
  have XP := XP.wr W27
  have Pf0 := Pf0.other W27 (Or.inr (slot_ne (Or.inr (hw _ (List.mem_of_getElem? (i := 74) rfl))) (Or.inr (hw _ (List.mem_of_getElem? (i := 119) rfl))) (by decide) rfl rfl))
  have Pf1 := Pf1.other W27 (Or.inr (slot_ne (Or.inr (hw _ (List.mem_of_getElem? (i := 89) rfl))) (Or.inr (hw _ (List.mem_of_getElem? (i := 119) rfl))) (by decide) rfl rfl))
  have Pf2 := Pf2.other W27 (Or.inr (slot_ne (Or.inr (hw _ (List.mem_of_getElem? (i := 92) rfl))) (Or.inr (hw _ (List.mem_of_getElem? (i := 119) rfl))) (by decide) rfl rfl))
  have Pf3 := Pf3.other W27 (Or.inr (slot_ne (Or.inr (hw _ (List.mem_of_getElem? (i := 102) rfl))) (Or.inr (hw _ (List.mem_of_getElem? (i := 119) rfl))) (by decide) rfl rfl))
  have Pf4 := Pf4.other W27 (Or.inr (slot_ne (Or.inr (hw _ (List.mem_of_getElem? (i := 107) rfl))) (Or.inr (hw _ (List.mem_of_getElem? (i := 119) rfl))) (by decide) rfl rfl))
  have Pf5 := Pf5.other W27 (Or.inr (slot_ne (Or.inr (hw _ (List.mem_of_getElem? (i := 113) rfl))) (Or.inr (hw _ (List.mem_of_getElem? (i := 119) rfl))) (by decide) rfl rfl))
  have Pf6 := Pf6.other W27 (Or.inr (slot_ne (Or.inr (hw _ (List.mem_of_getElem? (i := 116) rfl))) (Or.inr (hw _ (List.mem_of_getElem? (i := 119) rfl))) (by decide) rfl rfl))
  have Pf7 := Pf7.same W27
  have XB := XB.wr W27
  have G0 := G0.other W27 (Or.inl (Ne.symm ne_pr_bu))
  have G1 := G1.other W27 (Or.inl (Ne.symm ne_pr_bu))
  have G2 := G2.other W27 (Or.inl (Ne.symm ne_pr_bu))
  have G3 := G3.other W27 (Or.inl (Ne.symm ne_pr_bu))
  have G4 := G4.other W27 (Or.inl (Ne.symm ne_pr_bu))
  have G5 := G5.other W27 (Or.inl (Ne.symm ne_pr_bu))
  have G6 := G6.other W27 (Or.inl (Ne.symm ne_pr_bu))
  have G7 := G7.other W27 (Or.inl (Ne.symm ne_pr_bu))
  have G8 := G8.other W27 (Or.inl (Ne.symm ne_pr_bu))
  have G9 := G9.other W27 (Or.inl (Ne.symm ne_pr_bu))
  have G10 := G10.other W27 (Or.inl (Ne.symm ne_pr_bu))
  have Ad1 := Ad1.other W27 (Ne.symm ne_pr_ad1)
  have Ad2 := Ad2.other W27 (Ne.symm ne_pr_ad2)
  have Ad3 := Ad3.other W27 (Ne.symm ne_pr_ad3)
  have Ad4 := Ad4.other W27 (Ne.symm ne_pr_ad4)
  have Ad5 := Ad5.other W27 (Ne.symm ne_pr_ad5)
  have Ad6 := Ad6.other W27 (Ne.symm ne_pr_rb)
  have XR := XR.wr W27
  have FF3 := FF3.wr W27
  have FF4 := FF4.other W27 (Ne.symm ne_pr_b1)
  have B7 := B7.wr W27
  have FI15 := FI15.other W27 (Ne.symm ne_pr_a7)
  have FF7 := FF7.wr W27
  have FF8 := FF8.other W27 (Ne.symm ne_pr_b5)
  have FF11 := FF11.wr W27
  have FF12 := FF12.other W27 (Ne.symm ne_pr_b9)
  have FF15 := FF15.wr W27
  have FF16 := FF16.other W27 (Ne.symm ne_pr_b13)
  have FF19 := FF19.wr W27
  have FF20 := FF20.other W27 (Ne.symm ne_pr_b17)
  have Abz := Abz.other W27 (Ne.symm ne_pr_bz)
  have Xbz := Xbz.wr W27
  have Z27 : n0 ≤ h27.size := by rw [W27.size]; exact Z26
  have N27 := Fr.snoc X27 N26 z_pr
  have P27 := P26.wr W27 (Or.inl (List.mem_of_getElem? (i := 0) rfl))
  exact g_return C X27 d11_193 ⟨rfl, N27, by rw [e27]; exact P27, SKeep.of (by rw [e27]; exact P27) (alc z_pr al0) (alc XP0.nostat al0), CKeep.of (by rw [e27]; exact P27) (fun EL vm al => (sfS (Safe.exa al XP0 (by decide) (by decide)) sf0)), bz, kbz, y_bz, by rw [e27]; exact XP, by rw [e27]; exact Pf7, by rw [e27]; exact Abz⟩ (by decide) (by decide)
theorem d17_0 : decode prog_3_method_2_code 0 = .ok (.aload_n 0, 1) := by decide +kernel
theorem d17_1 : decode prog_3_method_2_code 1 = .ok (.getfield 69, 3) := by decide +kernel
theorem d17_4 : decode prog_3_method_2_code 4 = .ok (.arraylength, 1) := by decide +kernel
theorem d17_5 : decode prog_3_method_2_code 5 = .ok (.ireturn, 1) := by decide +kernel
theorem kk_34 : plainFor (⟨"com/example/fleetloom/fleetloom/ChainedProgramme", "rows", "()I"⟩ : MethodName) = true := by decide +kernel
theorem kk_35 (m : MethodId) (x0 : Addr) : entryFrame m #[(.ref x0)] 1 = mkF m 0 #[.val (.ref x0)] [] := by first | (simp [entryFrame, mkF, argsToLocals, Value.category]; done) | rfl
set_option maxRecDepth 65536 in
set_option maxHeartbeats 40000000 in
theorem c_rows (l : Launch) (Z : State) (a0 : Array Value) (hw : ∀ d ∈ tables_1, d.before a0 Z = true) (h : Heap) (n0 : Nat) (Z0 : n0 ≤ h.size) (pr rb : Addr) (kb : ClassId) (rows : Int32) (Lq : List Value) (FP : Fld Z h pr "com/example/fleetloom/fleetloom/ChainedProgramme" "rhs" "[D" (.ref rb)) (AP : Arv Z h rb kb .double rows Lq (.double (0 : UInt64))) :
    Con l Z (⟨"com/example/fleetloom/fleetloom/ChainedProgramme", "rows", "()I"⟩ : MethodName) prog_3_method_2_code 1 (some .int) ⟨0, 0, 0, 0⟩ #[(.ref pr)] h (fun v h' L => v = some (.int rows) ∧ L = [] ∧ h' = h) := by
  refine con_of_goF kk_34 (fun m => kk_35 m pr) ?_
  intro p e s m below meth c T0 C X0 e0
  refine g_aloadN C X0 (pc' := 1) d17_0 rfl rfl rfl ?_
  refine g_getF C X0 (host := "") (Or.inl (hw _ (List.mem_of_getElem? (i := 118) rfl))) Via.refl e0 FP d17_1 rfl ?_
  intro T1 X1 e1
  refine g_len C X1 (pc' := 5) e1 AP d17_4 rfl ?_
  exact g_ireturn C X1 d17_5 ⟨rfl, rfl, e1⟩ (by decide) (by decide)
theorem d45_0 : decode prog_3_method_12_code 0 = .ok (.aload_n 0, 1) := by decide +kernel
theorem d45_1 : decode prog_3_method_12_code 1 = .ok (.getfield 69, 3) := by decide +kernel
theorem d45_4 : decode prog_3_method_12_code 4 = .ok (.areturn, 1) := by decide +kernel
theorem kk_36 : plainFor (⟨"com/example/fleetloom/fleetloom/ChainedProgramme", "rhs", "()[D"⟩ : MethodName) = true := by decide +kernel
theorem kk_37 (m : MethodId) (x0 : Addr) : entryFrame m #[(.ref x0)] 1 = mkF m 0 #[.val (.ref x0)] [] := by first | (simp [entryFrame, mkF, argsToLocals, Value.category]; done) | rfl
set_option maxRecDepth 65536 in
set_option maxHeartbeats 40000000 in
theorem c_prh (l : Launch) (Z : State) (a0 : Array Value) (hw : ∀ d ∈ tables_1, d.before a0 Z = true) (h : Heap) (n0 : Nat) (Z0 : n0 ≤ h.size) (pr rb : Addr) (kb : ClassId) (rows : Int32) (Lq : List Value) (FP : Fld Z h pr "com/example/fleetloom/fleetloom/ChainedProgramme" "rhs" "[D" (.ref rb)) (AP : Arv Z h rb kb .double rows Lq (.double (0 : UInt64))) :
    Con l Z (⟨"com/example/fleetloom/fleetloom/ChainedProgramme", "rhs", "()[D"⟩ : MethodName) prog_3_method_12_code 1 (some (.array .double)) ⟨0, 0, 0, 0⟩ #[(.ref pr)] h (fun v h' L => v = some (.ref rb) ∧ L = [] ∧ h' = h) := by
  refine con_of_goF kk_36 (fun m => kk_37 m pr) ?_
  intro p e s m below meth c T0 C X0 e0
  refine g_aloadN C X0 (pc' := 1) d45_0 rfl rfl rfl ?_
  refine g_getF C X0 (host := "") (Or.inl (hw _ (List.mem_of_getElem? (i := 118) rfl))) Via.refl e0 FP d45_1 rfl ?_
  intro T1 X1 e1
  exact g_areturn C X1 d45_4 rfl rfl rfl ⟨rfl, rfl, e1⟩ (by decide) (by decide)
theorem d43_0 : decode jdk_117_method_8_code 0 = .ok (.dload_n 0, 1) := by decide +kernel
theorem d43_1 : decode jdk_117_method_8_code 1 = .ok (.invokestatic 38, 3) := by decide +kernel
theorem d43_4 : decode jdk_117_method_8_code 4 = .ok (.ldc2_w 111, 3) := by decide +kernel
theorem d43_7 : decode jdk_117_method_8_code 7 = .ok (.dcmp .g, 1) := by decide +kernel
theorem d43_8 : decode jdk_117_method_8_code 8 = .ok (.ifCond .gt 7, 3) := by decide +kernel
theorem d43_11 : decode jdk_117_method_8_code 11 = .ok (.iconst 1, 1) := by decide +kernel
theorem d43_12 : decode jdk_117_method_8_code 12 = .ok (.goto 4, 3) := by decide +kernel
theorem d43_15 : decode jdk_117_method_8_code 15 = .ok (.iconst 0, 1) := by decide +kernel
theorem d43_16 : decode jdk_117_method_8_code 16 = .ok (.ireturn, 1) := by decide +kernel
theorem kk_38 : plainFor (⟨"java/lang/Double", "isFinite", "(D)Z"⟩ : MethodName) = true := by decide +kernel
theorem kk_39 (m : MethodId) (x0 : UInt64) : entryFrame m #[(.double x0)] 2 = mkF m 0 #[.val (.double x0), .second] [] := by first | (simp [entryFrame, mkF, argsToLocals, Value.category]; done) | rfl
set_option maxRecDepth 65536 in
set_option maxHeartbeats 40000000 in
theorem c_isf (l : Launch) (Z : State) (a0 : Array Value) (hw : ∀ d ∈ tables_1, d.before a0 Z = true) (h : Heap) (n0 : Nat) (Z0 : n0 ≤ h.size) (w : UInt64) (hF : Fin w) :
    Con l Z (⟨"java/lang/Double", "isFinite", "(D)Z"⟩ : MethodName) jdk_117_method_8_code 2 (some .boolean) ⟨1, 0, 0, 13⟩ #[(.double w)] h (fun v h' L => v = some (.int 1) ∧ L = [] ∧ h' = h) := by
  refine con_of_goF kk_38 (fun m => kk_39 m w) ?_
  intro p e s m below meth c T0 C X0 e0
  refine g_dloadN C X0 (pc' := 1) d43_0 rfl rfl ?_
  refine g_absD C X0 (hw _ (List.mem_of_getElem? (i := 265) rfl)) (hw _ (List.mem_of_getElem? (i := 266) rfl)) (hw _ (List.mem_of_getElem? (i := 27) rfl)) (hw _ (List.mem_of_getElem? (i := 267) rfl)) e0 hF.1 d43_1 rfl 0 rfl (by decide) (by decide) (by decide) (by decide) rfl ?_
  intro T1 X1 e1
  refine g_ldc2D C X1 (pc' := 7) (hw _ (List.mem_of_getElem? (i := 268) rfl)) d43_4 rfl ?_
  refine g_dcmp C X1 (pc' := 8) d43_7 rfl ?_
  refine g_if C X1 d43_8 (pc' := 15) (pc'' := 11) (by decide) (by decide) rfl (fun c8 => ?_) (fun c8 => ?_)
  · have c8 : 0 < (cmpValue (FP.dcmp (w &&& 0x7fffffffffffffff) (9218868437227405311 : UInt64)) .g).toInt := c8
    exact absurd c8 hF.2
  · have c8 : ¬ (0 < (cmpValue (FP.dcmp (w &&& 0x7fffffffffffffff) (9218868437227405311 : UInt64)) .g).toInt) := c8
    refine g_iconst C X1 (pc' := 12) d43_11 (v := (1 : Int32)) (by decide) rfl ?_
    refine g_goto C X1 d43_12 (pc' := 16) (by decide) (by decide) ?_
    exact g_zreturn C X1 d43_16 (w := 1) (by decide) ⟨rfl, rfl, e1⟩ (by decide) (by decide)
theorem d42_0 : decode prog_4_method_9_code 0 = .ok (.dload_n 0, 1) := by decide +kernel
theorem d42_1 : decode prog_4_method_9_code 1 = .ok (.invokestatic 122, 3) := by decide +kernel
theorem d42_4 : decode prog_4_method_9_code 4 = .ok (.ifCond .ne 34, 3) := by decide +kernel
theorem d42_7 : decode prog_4_method_9_code 7 = .ok (.new 52, 3) := by decide +kernel
theorem d42_10 : decode prog_4_method_9_code 10 = .ok (.dup, 1) := by decide +kernel
theorem d42_11 : decode prog_4_method_9_code 11 = .ok (.new 54, 3) := by decide +kernel
theorem d42_14 : decode prog_4_method_9_code 14 = .ok (.dup, 1) := by decide +kernel
theorem d42_15 : decode prog_4_method_9_code 15 = .ok (.invokespecial 56, 3) := by decide +kernel
theorem d42_18 : decode prog_4_method_9_code 18 = .ok (.aload_n 2, 1) := by decide +kernel
theorem d42_19 : decode prog_4_method_9_code 19 = .ok (.invokevirtual 59, 3) := by decide +kernel
theorem d42_22 : decode prog_4_method_9_code 22 = .ok (.ldc 128, 2) := by decide +kernel
theorem d42_24 : decode prog_4_method_9_code 24 = .ok (.invokevirtual 59, 3) := by decide +kernel
theorem d42_27 : decode prog_4_method_9_code 27 = .ok (.dload_n 0, 1) := by decide +kernel
theorem d42_28 : decode prog_4_method_9_code 28 = .ok (.invokevirtual 130, 3) := by decide +kernel
theorem d42_31 : decode prog_4_method_9_code 31 = .ok (.invokevirtual 68, 3) := by decide +kernel
theorem d42_34 : decode prog_4_method_9_code 34 = .ok (.invokespecial 72, 3) := by decide +kernel
theorem d42_37 : decode prog_4_method_9_code 37 = .ok (.athrow, 1) := by decide +kernel
theorem d42_38 : decode prog_4_method_9_code 38 = .ok (.return_, 1) := by decide +kernel
theorem kk_40 : parseMethodDescriptor "(D)Z" = some ⟨[.double], (some .boolean)⟩ := by decide +kernel
theorem kk_41 : plainFor (⟨"com/example/fleetloom/fleetloom/ChainedProgramme$Builder", "finite", "(DLjava/lang/String;)V"⟩ : MethodName) = true := by decide +kernel
theorem kk_42 (m : MethodId) (x0 : UInt64) (x1 : Addr) : entryFrame m #[(.double x0), (.ref x1)] 3 = mkF m 0 #[.val (.double x0), .second, .val (.ref x1)] [] := by first | (simp [entryFrame, mkF, argsToLocals, Value.category]; done) | rfl
set_option maxRecDepth 65536 in
set_option maxHeartbeats 40000000 in
theorem c_fin (l : Launch) (Z : State) (a0 : Array Value) (hw : ∀ d ∈ tables_1, d.before a0 Z = true) (h : Heap) (n0 : Nat) (Z0 : n0 ≤ h.size) (w : UInt64) (sa : Addr) (hF : Fin w) :
    Con l Z (⟨"com/example/fleetloom/fleetloom/ChainedProgramme$Builder", "finite", "(DLjava/lang/String;)V"⟩ : MethodName) prog_4_method_9_code 3 none ⟨2, 0, 0, 26⟩ #[(.double w), (.ref sa)] h (fun v h' L => v = none ∧ L = [] ∧ h' = h) := by
  refine con_of_goF kk_41 (fun m => kk_42 m w sa) ?_
  intro p e s m below meth c T0 C X0 e0
  refine g_dloadN C X0 (pc' := 1) d42_0 rfl rfl ?_
  refine g_callS C X0 (c_isf l Z a0 hw h n0 Z0 w hF) (hw _ (List.mem_of_getElem? (i := 261) rfl)) (hw _ (List.mem_of_getElem? (i := 262) rfl)) (hw _ (List.mem_of_getElem? (i := 263) rfl)) (hw _ (List.mem_of_getElem? (i := 264) rfl)) (by decide) e0 d42_1 rfl kk_40 [(.double w)] [] rfl rfl rfl 0 rfl (by decide) (by decide) (by decide) (by decide) rfl ?_
  rintro _ T1 _ X1 ⟨rfl, rfl, e1⟩
  rw [List.append_nil] at X1
  show Go p.tables e below _ T1 (mkF m 4 #[.val (.double w), .second, .val (.ref sa)] [(.int (1 : Int32))])
  refine g_ifY C X1 d42_4 (pc' := 38) (by decide) (by decide) (by decide) ?_
  exact g_return C X1 d42_38 ⟨rfl, rfl, e1⟩ (by decide) (by decide)
theorem d10_0 : decode prog_4_method_6_code 0 = .ok (.new 93, 3) := by decide +kernel
theorem d10_3 : decode prog_4_method_6_code 3 = .ok (.dup, 1) := by decide +kernel
theorem d10_4 : decode prog_4_method_6_code 4 = .ok (.aload_n 0, 1) := by decide +kernel
theorem d10_5 : decode prog_4_method_6_code 5 = .ok (.invokespecial 95, 3) := by decide +kernel
theorem d10_8 : decode prog_4_method_6_code 8 = .ok (.astore_n 1, 1) := by decide +kernel
theorem d10_9 : decode prog_4_method_6_code 9 = .ok (.iconst 0, 1) := by decide +kernel
theorem d10_10 : decode prog_4_method_6_code 10 = .ok (.istore_n 2, 1) := by decide +kernel
theorem d10_11 : decode prog_4_method_6_code 11 = .ok (.iload_n 2, 1) := by decide +kernel
theorem d10_12 : decode prog_4_method_6_code 12 = .ok (.aload_n 1, 1) := by decide +kernel
theorem d10_13 : decode prog_4_method_6_code 13 = .ok (.invokevirtual 98, 3) := by decide +kernel
theorem d10_16 : decode prog_4_method_6_code 16 = .ok (.if_icmp .ge 37, 3) := by decide +kernel
theorem d10_19 : decode prog_4_method_6_code 19 = .ok (.aload_n 1, 1) := by decide +kernel
theorem d10_20 : decode prog_4_method_6_code 20 = .ok (.getfield 101, 3) := by decide +kernel
theorem d10_23 : decode prog_4_method_6_code 23 = .ok (.iload_n 2, 1) := by decide +kernel
theorem d10_24 : decode prog_4_method_6_code 24 = .ok (.daload, 1) := by decide +kernel
theorem d10_25 : decode prog_4_method_6_code 25 = .ok (.new 54, 3) := by decide +kernel
theorem d10_28 : decode prog_4_method_6_code 28 = .ok (.dup, 1) := by decide +kernel
theorem d10_29 : decode prog_4_method_6_code 29 = .ok (.invokespecial 56, 3) := by decide +kernel
theorem d10_32 : decode prog_4_method_6_code 32 = .ok (.ldc 102, 2) := by decide +kernel
theorem d10_34 : decode prog_4_method_6_code 34 = .ok (.invokevirtual 59, 3) := by decide +kernel
theorem d10_37 : decode prog_4_method_6_code 37 = .ok (.iload_n 2, 1) := by decide +kernel
theorem d10_38 : decode prog_4_method_6_code 38 = .ok (.invokevirtual 63, 3) := by decide +kernel
theorem d10_41 : decode prog_4_method_6_code 41 = .ok (.invokevirtual 68, 3) := by decide +kernel
theorem d10_44 : decode prog_4_method_6_code 44 = .ok (.invokestatic 104, 3) := by decide +kernel
theorem d10_47 : decode prog_4_method_6_code 47 = .ok (.iinc 2 1, 3) := by decide +kernel
theorem d10_50 : decode prog_4_method_6_code 50 = .ok (.goto (-39), 3) := by decide +kernel
theorem d10_53 : decode prog_4_method_6_code 53 = .ok (.iconst 0, 1) := by decide +kernel
theorem d10_54 : decode prog_4_method_6_code 54 = .ok (.istore_n 2, 1) := by decide +kernel
theorem d10_55 : decode prog_4_method_6_code 55 = .ok (.iload_n 2, 1) := by decide +kernel
theorem d10_56 : decode prog_4_method_6_code 56 = .ok (.aload_n 0, 1) := by decide +kernel
theorem d10_57 : decode prog_4_method_6_code 57 = .ok (.getfield 42, 3) := by decide +kernel
theorem d10_60 : decode prog_4_method_6_code 60 = .ok (.if_icmp .ge 42, 3) := by decide +kernel
theorem d10_63 : decode prog_4_method_6_code 63 = .ok (.aload_n 1, 1) := by decide +kernel
theorem d10_64 : decode prog_4_method_6_code 64 = .ok (.getfield 108, 3) := by decide +kernel
theorem d10_67 : decode prog_4_method_6_code 67 = .ok (.iload_n 2, 1) := by decide +kernel
theorem d10_68 : decode prog_4_method_6_code 68 = .ok (.daload, 1) := by decide +kernel
theorem d10_69 : decode prog_4_method_6_code 69 = .ok (.new 54, 3) := by decide +kernel
theorem d10_72 : decode prog_4_method_6_code 72 = .ok (.dup, 1) := by decide +kernel
theorem d10_73 : decode prog_4_method_6_code 73 = .ok (.invokespecial 56, 3) := by decide +kernel
theorem d10_76 : decode prog_4_method_6_code 76 = .ok (.ldc 109, 2) := by decide +kernel
theorem d10_78 : decode prog_4_method_6_code 78 = .ok (.invokevirtual 59, 3) := by decide +kernel
theorem d10_81 : decode prog_4_method_6_code 81 = .ok (.iload_n 2, 1) := by decide +kernel
theorem d10_82 : decode prog_4_method_6_code 82 = .ok (.invokevirtual 63, 3) := by decide +kernel
theorem d10_85 : decode prog_4_method_6_code 85 = .ok (.invokevirtual 68, 3) := by decide +kernel
theorem d10_88 : decode prog_4_method_6_code 88 = .ok (.invokestatic 104, 3) := by decide +kernel
theorem d10_91 : decode prog_4_method_6_code 91 = .ok (.aload_n 1, 1) := by decide +kernel
theorem d10_92 : decode prog_4_method_6_code 92 = .ok (.iload_n 2, 1) := by decide +kernel
theorem d10_93 : decode prog_4_method_6_code 93 = .ok (.invokevirtual 111, 3) := by decide +kernel
theorem d10_96 : decode prog_4_method_6_code 96 = .ok (.iinc 2 1, 3) := by decide +kernel
theorem d10_99 : decode prog_4_method_6_code 99 = .ok (.goto (-44), 3) := by decide +kernel
theorem d10_102 : decode prog_4_method_6_code 102 = .ok (.aload_n 1, 1) := by decide +kernel
theorem d10_103 : decode prog_4_method_6_code 103 = .ok (.areturn, 1) := by decide +kernel
theorem d20_0 : decode jdk_67_method_7_code 0 = .ok (.aload_n 0, 1) := by decide +kernel
theorem d20_1 : decode jdk_67_method_7_code 1 = .ok (.aload_n 1, 1) := by decide +kernel
theorem d20_2 : decode jdk_67_method_7_code 2 = .ok (.invokespecial 29, 3) := by decide +kernel
theorem d20_5 : decode jdk_67_method_7_code 5 = .ok (.pop, 1) := by decide +kernel
theorem d20_6 : decode jdk_67_method_7_code 6 = .ok (.aload_n 0, 1) := by decide +kernel
theorem d20_7 : decode jdk_67_method_7_code 7 = .ok (.areturn, 1) := by decide +kernel
theorem d21_0 : decode jdk_68_method_22_code 0 = .ok (.aload_n 1, 1) := by decide +kernel
theorem d21_1 : decode jdk_68_method_22_code 1 = .ok (.ifnonnull 8, 3) := by decide +kernel
theorem d21_4 : decode jdk_68_method_22_code 4 = .ok (.aload_n 0, 1) := by decide +kernel
theorem d21_5 : decode jdk_68_method_22_code 5 = .ok (.invokevirtual 204, 3) := by decide +kernel
theorem d21_8 : decode jdk_68_method_22_code 8 = .ok (.areturn, 1) := by decide +kernel
theorem d21_9 : decode jdk_68_method_22_code 9 = .ok (.aload_n 1, 1) := by decide +kernel
theorem d21_10 : decode jdk_68_method_22_code 10 = .ok (.invokevirtual 32, 3) := by decide +kernel
theorem d21_13 : decode jdk_68_method_22_code 13 = .ok (.istore_n 2, 1) := by decide +kernel
theorem d21_14 : decode jdk_68_method_22_code 14 = .ok (.aload_n 0, 1) := by decide +kernel
theorem d21_15 : decode jdk_68_method_22_code 15 = .ok (.aload_n 0, 1) := by decide +kernel
theorem d21_16 : decode jdk_68_method_22_code 16 = .ok (.getfield 79, 3) := by decide +kernel
theorem d21_19 : decode jdk_68_method_22_code 19 = .ok (.iload_n 2, 1) := by decide +kernel
theorem d21_20 : decode jdk_68_method_22_code 20 = .ok (.iadd, 1) := by decide +kernel
theorem d21_21 : decode jdk_68_method_22_code 21 = .ok (.invokevirtual 100, 3) := by decide +kernel
theorem d21_24 : decode jdk_68_method_22_code 24 = .ok (.aload_n 0, 1) := by decide +kernel
theorem d21_25 : decode jdk_68_method_22_code 25 = .ok (.aload_n 0, 1) := by decide +kernel
theorem d21_26 : decode jdk_68_method_22_code 26 = .ok (.getfield 79, 3) := by decide +kernel
theorem d21_29 : decode jdk_68_method_22_code 29 = .ok (.aload_n 1, 1) := by decide +kernel
theorem d21_30 : decode jdk_68_method_22_code 30 = .ok (.invokevirtual 208, 3) := by decide +kernel
theorem d21_33 : decode jdk_68_method_22_code 33 = .ok (.aload_n 0, 1) := by decide +kernel
theorem d21_34 : decode jdk_68_method_22_code 34 = .ok (.dup, 1) := by decide +kernel
theorem d21_35 : decode jdk_68_method_22_code 35 = .ok (.getfield 79, 3) := by decide +kernel
theorem d21_38 : decode jdk_68_method_22_code 38 = .ok (.iload_n 2, 1) := by decide +kernel
theorem d21_39 : decode jdk_68_method_22_code 39 = .ok (.iadd, 1) := by decide +kernel
theorem d21_40 : decode jdk_68_method_22_code 40 = .ok (.putfield 79, 3) := by decide +kernel
theorem d21_43 : decode jdk_68_method_22_code 43 = .ok (.aload_n 0, 1) := by decide +kernel
theorem d21_44 : decode jdk_68_method_22_code 44 = .ok (.areturn, 1) := by decide +kernel
theorem d22_0 : decode jdk_42_method_54_code 0 = .ok (.aload_n 0, 1) := by decide +kernel
theorem d22_1 : decode jdk_42_method_54_code 1 = .ok (.getfield 9, 3) := by decide +kernel
theorem d22_4 : decode jdk_42_method_54_code 4 = .ok (.arraylength, 1) := by decide +kernel
theorem d22_5 : decode jdk_42_method_54_code 5 = .ok (.aload_n 0, 1) := by decide +kernel
theorem d22_6 : decode jdk_42_method_54_code 6 = .ok (.invokevirtual 335, 3) := by decide +kernel
theorem d22_9 : decode jdk_42_method_54_code 9 = .ok (.ishr, 1) := by decide +kernel
theorem d22_10 : decode jdk_42_method_54_code 10 = .ok (.ireturn, 1) := by decide +kernel
theorem d23_0 : decode jdk_42_method_152_code 0 = .ok (.getstatic 38, 3) := by decide +kernel
theorem d23_3 : decode jdk_42_method_152_code 3 = .ok (.ifCond .eq 10, 3) := by decide +kernel
theorem d23_6 : decode jdk_42_method_152_code 6 = .ok (.aload_n 0, 1) := by decide +kernel
theorem d23_7 : decode jdk_42_method_152_code 7 = .ok (.getfield 15, 3) := by decide +kernel
theorem d23_10 : decode jdk_42_method_152_code 10 = .ok (.goto 4, 3) := by decide +kernel
theorem d23_13 : decode jdk_42_method_152_code 13 = .ok (.iconst 1, 1) := by decide +kernel
theorem d23_14 : decode jdk_42_method_152_code 14 = .ok (.ireturn, 1) := by decide +kernel
theorem kk_43 (m : MethodId) (x0 : Addr) : entryFrame m #[(.ref x0)] 1 = mkF m 0 #[.val (.ref x0)] [] := by first | (simp [entryFrame, mkF, argsToLocals, Value.category]; done) | rfl
theorem kk_44 : plainFor (⟨"java/lang/String", "coder", "()B"⟩ : MethodName) = true := by decide +kernel
set_option maxRecDepth 65536 in
set_option maxHeartbeats 40000000 in
theorem k11_coder (l : Launch) (Z : State) (a0 : Array Value) (hw : ∀ d ∈ tables_1, d.before a0 Z = true) (h : Heap) (n0 : Nat) (Z0 : n0 ≤ h.size) (qa1 : Addr) (qi1 : Int32) (C0_qi1 : ¬ (qi1.toInt = 0)) (H1 : Sta Z h "java/lang/String" "COMPACT_STRINGS" "Z" (.int qi1)) (H2 : Fld Z h qa1 "java/lang/String" "coder" "B" (.int (0 : Int32))) :
    Con l Z (⟨"java/lang/String", "coder", "()B"⟩ : MethodName) jdk_42_method_152_code 1 (some .byte) ⟨0, 0, 0, 0⟩ #[(.ref qa1)] h (fun v h' L => v = some (.int (0 : Int32)) ∧ L = [] ∧ h' = h) := by
  refine con_of_goF kk_44 (fun m => kk_43 m qa1) ?_
  intro p e s m below meth c T0 C X0 e0
  refine g_getS C X0 (hw _ (List.mem_of_getElem? (i := 173) rfl)) Via.refl e0 H1 d23_0 rfl ?_
  intro T1 X1 e1
  refine g_ifN C X1 d23_3 (C0_qi1) rfl ?_
  refine g_aloadN C X1 (pc' := 7) d23_6 rfl rfl rfl ?_
  refine g_getF C X1 (host := "") (Or.inl (hw _ (List.mem_of_getElem? (i := 174) rfl))) Via.refl e1 H2 d23_7 rfl ?_
  intro T2 X2 e2
  refine g_goto C X2 d23_10 (pc' := 14) (by decide) (by decide) ?_
  exact g_breturn C X2 d23_14 (w := (0 : Int32)) (by decide) (⟨rfl, rfl, e2⟩) (by decide) (by decide)
theorem kk_45 : parseMethodDescriptor "()B" = some ⟨[], (some .byte)⟩ := by decide +kernel
theorem kk_46 (m : MethodId) (x0 : Addr) : entryFrame m #[(.ref x0)] 1 = mkF m 0 #[.val (.ref x0)] [] := by first | (simp [entryFrame, mkF, argsToLocals, Value.category]; done) | rfl
theorem kk_47 : plainFor (⟨"java/lang/String", "length", "()I"⟩ : MethodName) = true := by decide +kernel
set_option maxRecDepth 65536 in
set_option maxHeartbeats 40000000 in
theorem k12_length (l : Launch) (Z : State) (a0 : Array Value) (hw : ∀ d ∈ tables_1, d.before a0 Z = true) (h : Heap) (n0 : Nat) (Z0 : n0 ≤ h.size) (qa1 : Addr) (qi1 : Int32) (qa2 : Addr) (qw1 : Value) (qw2 : Value) (qw3 : Value) (qw4 : Value) (qw5 : Value) (qw6 : Value) (qk1 : ClassId) (C0_qi1 : ¬ (qi1.toInt = 0)) (H1 : Sta Z h "java/lang/String" "COMPACT_STRINGS" "Z" (.int qi1)) (H2 : Exa Z h qa1 "java/lang/String") (H3 : Fld Z h qa1 "java/lang/String" "coder" "B" (.int (0 : Int32))) (H4 : Fld Z h qa1 "java/lang/String" "value" "[B" (.ref qa2)) (H5 : Arv Z h qa2 qk1 .byte (9 : Int32) [qw1, qw2, qw3, qw4, qw2, qw5, qw3, qw6, qw2] (.int (0 : Int32))) :
    Con l Z (⟨"java/lang/String", "length", "()I"⟩ : MethodName) jdk_42_method_54_code 1 (some .int) ⟨1, 0, 0, 13⟩ #[(.ref qa1)] h (fun v h' L => v = some (.int ((9 : Int32) >>> ((0 : Int32) &&& 31))) ∧ L = [] ∧ h' = h) := by
  refine con_of_goF kk_47 (fun m => kk_46 m qa1) ?_
  intro p e s m below meth c T0 C X0 e0
  refine g_aloadN C X0 (pc' := 1) d22_0 rfl rfl rfl ?_
  refine g_getF C X0 (host := "") (Or.inl (hw _ (List.mem_of_getElem? (i := 167) rfl))) Via.refl e0 H4 d22_1 rfl ?_
  intro T1 X1 e1
  refine g_len C X1 (pc' := 5) e1 H5 d22_4 rfl ?_
  refine g_aloadN C X1 (pc' := 6) d22_5 rfl rfl rfl ?_
  refine g_callV C X1 (k11_coder l Z a0 hw h n0 Z0  qa1 qi1   C0_qi1 H1 H3) (hw _ (List.mem_of_getElem? (i := 168) rfl)) (hw _ (List.mem_of_getElem? (i := 169) rfl)) (hw _ (List.mem_of_getElem? (i := 171) rfl)) (hw _ (List.mem_of_getElem? (i := 170) rfl)) (hw _ (List.mem_of_getElem? (i := 140) rfl)) (hw _ (List.mem_of_getElem? (i := 172) rfl)) (by decide) e1 H2 d22_6 rfl kk_45 [] [(.int (9 : Int32))] rfl rfl rfl 1 rfl (by decide) (by decide) (by decide) (by decide) rfl ?_
  rintro _ T2 _ X2 ⟨rfl, rfl, e2⟩
  rw [List.append_nil] at X2
  show Go p.tables e below _ T2 (mkF m 9 #[.val (.ref qa1)] [(.int (0 : Int32)), (.int (9 : Int32))])
  refine g_ishr C X2 (pc' := 10) d22_9 rfl ?_
  exact g_ireturn C X2 d22_10 (⟨rfl, rfl, e2⟩) (by decide) (by decide)
theorem kk_48 : parseMethodDescriptor "()I" = some ⟨[], (some .int)⟩ := by decide +kernel
theorem d24_0 : decode jdk_68_method_9_code 0 = .ok (.aload_n 0, 1) := by decide +kernel
theorem d24_1 : decode jdk_68_method_9_code 1 = .ok (.getfield 15, 3) := by decide +kernel
theorem d24_4 : decode jdk_68_method_9_code 4 = .ok (.arraylength, 1) := by decide +kernel
theorem d24_5 : decode jdk_68_method_9_code 5 = .ok (.aload_n 0, 1) := by decide +kernel
theorem d24_6 : decode jdk_68_method_9_code 6 = .ok (.getfield 22, 3) := by decide +kernel
theorem d24_9 : decode jdk_68_method_9_code 9 = .ok (.ishr, 1) := by decide +kernel
theorem d24_10 : decode jdk_68_method_9_code 10 = .ok (.istore_n 2, 1) := by decide +kernel
theorem d24_11 : decode jdk_68_method_9_code 11 = .ok (.iload_n 1, 1) := by decide +kernel
theorem d24_12 : decode jdk_68_method_9_code 12 = .ok (.iload_n 2, 1) := by decide +kernel
theorem d24_13 : decode jdk_68_method_9_code 13 = .ok (.isub, 1) := by decide +kernel
theorem d24_14 : decode jdk_68_method_9_code 14 = .ok (.ifCond .le 24, 3) := by decide +kernel
theorem d24_17 : decode jdk_68_method_9_code 17 = .ok (.aload_n 0, 1) := by decide +kernel
theorem d24_18 : decode jdk_68_method_9_code 18 = .ok (.aload_n 0, 1) := by decide +kernel
theorem d24_19 : decode jdk_68_method_9_code 19 = .ok (.getfield 15, 3) := by decide +kernel
theorem d24_22 : decode jdk_68_method_9_code 22 = .ok (.aload_n 0, 1) := by decide +kernel
theorem d24_23 : decode jdk_68_method_9_code 23 = .ok (.iload_n 1, 1) := by decide +kernel
theorem d24_24 : decode jdk_68_method_9_code 24 = .ok (.invokevirtual 104, 3) := by decide +kernel
theorem d24_27 : decode jdk_68_method_9_code 27 = .ok (.aload_n 0, 1) := by decide +kernel
theorem d24_28 : decode jdk_68_method_9_code 28 = .ok (.getfield 22, 3) := by decide +kernel
theorem d24_31 : decode jdk_68_method_9_code 31 = .ok (.ishl, 1) := by decide +kernel
theorem d24_32 : decode jdk_68_method_9_code 32 = .ok (.invokestatic 108, 3) := by decide +kernel
theorem d24_35 : decode jdk_68_method_9_code 35 = .ok (.putfield 15, 3) := by decide +kernel
theorem d24_38 : decode jdk_68_method_9_code 38 = .ok (.return_, 1) := by decide +kernel
theorem kk_49 (m : MethodId) (x0 : Addr) (x1 : Int32) : entryFrame m #[(.ref x0), (.int x1)] 3 = mkF m 0 #[.val (.ref x0), .val (.int x1), .unset] [] := by first | (simp [entryFrame, mkF, argsToLocals, Value.category]; done) | rfl
theorem kk_50 : plainFor (⟨"java/lang/AbstractStringBuilder", "ensureCapacityInternal", "(I)V"⟩ : MethodName) = true := by decide +kernel
set_option maxRecDepth 65536 in
set_option maxHeartbeats 40000000 in
theorem k13_ensureCapacityInternal (l : Launch) (Z : State) (a0 : Array Value) (hw : ∀ d ∈ tables_1, d.before a0 Z = true) (h : Heap) (n0 : Nat) (Z0 : n0 ≤ h.size) (qa1 : Addr) (qa2 : Addr) (qk1 : ClassId) (H1 : Fld Z h qa1 "java/lang/AbstractStringBuilder" "value" "[B" (.ref qa2)) (H2 : Fld Z h qa1 "java/lang/AbstractStringBuilder" "coder" "B" (.int (0 : Int32))) (H3 : Arv Z h qa2 qk1 .byte (16 : Int32) [] (.int (0 : Int32))) :
    Con l Z (⟨"java/lang/AbstractStringBuilder", "ensureCapacityInternal", "(I)V"⟩ : MethodName) jdk_68_method_9_code 3 none ⟨0, 0, 0, 0⟩ #[(.ref qa1), (.int (9 : Int32))] h (fun v h' L => v = none ∧ L = [] ∧ h' = h) := by
  refine con_of_goF kk_50 (fun m => kk_49 m qa1 (9 : Int32)) ?_
  intro p e s m below meth c T0 C X0 e0
  refine g_aloadN C X0 (pc' := 1) d24_0 rfl rfl rfl ?_
  refine g_getF C X0 (host := "") (Or.inl (hw _ (List.mem_of_getElem? (i := 142) rfl))) Via.refl e0 H1 d24_1 rfl ?_
  intro T1 X1 e1
  refine g_len C X1 (pc' := 5) e1 H3 d24_4 rfl ?_
  refine g_aloadN C X1 (pc' := 6) d24_5 rfl rfl rfl ?_
  refine g_getF C X1 (host := "") (Or.inl (hw _ (List.mem_of_getElem? (i := 144) rfl))) Via.refl e1 H2 d24_6 rfl ?_
  intro T2 X2 e2
  refine g_ishr C X2 (pc' := 10) d24_9 rfl ?_
  refine g_istoreN C X2 (pc' := 11) d24_10 (x := (16 : Int32)) (by decide) (l' := #[.val (.ref qa1), .val (.int (9 : Int32)), .val (.int (16 : Int32))]) rfl rfl ?_
  refine g_iloadN C X2 (pc' := 12) d24_11 rfl rfl ?_
  refine g_iloadN C X2 (pc' := 13) d24_12 rfl rfl ?_
  refine g_isub C X2 (pc' := 14) d24_13 rfl ?_
  refine g_ifY C X2 d24_14 (pc' := 38) (by decide) (by decide) (by decide) ?_
  exact g_return C X2 d24_38 (⟨rfl, rfl, e2⟩) (by decide) (by decide)
theorem kk_51 : parseMethodDescriptor "(I)V" = some ⟨[.int], none⟩ := by decide +kernel
theorem d25_0 : decode jdk_68_method_73_code 0 = .ok (.aload_n 0, 1) := by decide +kernel
theorem d25_1 : decode jdk_68_method_73_code 1 = .ok (.aload_n 2, 1) := by decide +kernel
theorem d25_2 : decode jdk_68_method_73_code 2 = .ok (.invokevirtual 397, 3) := by decide +kernel
theorem d25_5 : decode jdk_68_method_73_code 5 = .ok (.aload_n 2, 1) := by decide +kernel
theorem d25_6 : decode jdk_68_method_73_code 6 = .ok (.aload_n 0, 1) := by decide +kernel
theorem d25_7 : decode jdk_68_method_73_code 7 = .ok (.getfield 15, 3) := by decide +kernel
theorem d25_10 : decode jdk_68_method_73_code 10 = .ok (.iload_n 1, 1) := by decide +kernel
theorem d25_11 : decode jdk_68_method_73_code 11 = .ok (.aload_n 0, 1) := by decide +kernel
theorem d25_12 : decode jdk_68_method_73_code 12 = .ok (.getfield 22, 3) := by decide +kernel
theorem d25_15 : decode jdk_68_method_73_code 15 = .ok (.invokevirtual 399, 3) := by decide +kernel
theorem d25_18 : decode jdk_68_method_73_code 18 = .ok (.return_, 1) := by decide +kernel
theorem d26_0 : decode jdk_68_method_71_code 0 = .ok (.getstatic 18, 3) := by decide +kernel
theorem d26_3 : decode jdk_68_method_71_code 3 = .ok (.ifCond .eq 18, 3) := by decide +kernel
theorem d26_6 : decode jdk_68_method_71_code 6 = .ok (.aload_n 0, 1) := by decide +kernel
theorem d26_7 : decode jdk_68_method_71_code 7 = .ok (.getfield 22, 3) := by decide +kernel
theorem d26_10 : decode jdk_68_method_71_code 10 = .ok (.aload_n 1, 1) := by decide +kernel
theorem d26_11 : decode jdk_68_method_71_code 11 = .ok (.invokevirtual 40, 3) := by decide +kernel
theorem d26_14 : decode jdk_68_method_71_code 14 = .ok (.if_icmp .eq 7, 3) := by decide +kernel
theorem d26_17 : decode jdk_68_method_71_code 17 = .ok (.aload_n 0, 1) := by decide +kernel
theorem d26_18 : decode jdk_68_method_71_code 18 = .ok (.invokevirtual 195, 3) := by decide +kernel
theorem d26_21 : decode jdk_68_method_71_code 21 = .ok (.return_, 1) := by decide +kernel
theorem kk_52 (m : MethodId) (x0 : Addr) (x1 : Addr) : entryFrame m #[(.ref x0), (.ref x1)] 2 = mkF m 0 #[.val (.ref x0), .val (.ref x1)] [] := by first | (simp [entryFrame, mkF, argsToLocals, Value.category]; done) | rfl
theorem kk_53 : plainFor (⟨"java/lang/AbstractStringBuilder", "inflateIfNeededFor", "(Ljava/lang/String;)V"⟩ : MethodName) = true := by decide +kernel
set_option maxRecDepth 65536 in
set_option maxHeartbeats 40000000 in
theorem k14_inflateIfNeededFor (l : Launch) (Z : State) (a0 : Array Value) (hw : ∀ d ∈ tables_1, d.before a0 Z = true) (h : Heap) (n0 : Nat) (Z0 : n0 ≤ h.size) (qa1 : Addr) (qa2 : Addr) (qi1 : Int32) (C0_qi1 : ¬ (qi1.toInt = 0)) (H1 : Sta Z h "java/lang/String" "COMPACT_STRINGS" "Z" (.int qi1)) (H2 : Fld Z h qa1 "java/lang/AbstractStringBuilder" "coder" "B" (.int (0 : Int32))) (H3 : Exa Z h qa2 "java/lang/String") (H4 : Fld Z h qa2 "java/lang/String" "coder" "B" (.int (0 : Int32))) :
    Con l Z (⟨"java/lang/AbstractStringBuilder", "inflateIfNeededFor", "(Ljava/lang/String;)V"⟩ : MethodName) jdk_68_method_71_code 2 none ⟨1, 0, 0, 13⟩ #[(.ref qa1), (.ref qa2)] h (fun v h' L => v = none ∧ L = [] ∧ h' = h) := by
  refine con_of_goF kk_53 (fun m => kk_52 m qa1 qa2) ?_
  intro p e s m below meth c T0 C X0 e0
  refine g_getS C X0 (hw _ (List.mem_of_getElem? (i := 139) rfl)) Via.refl e0 H1 d26_0 rfl ?_
  intro T1 X1 e1
  refine g_ifN C X1 d26_3 (C0_qi1) rfl ?_
  refine g_aloadN C X1 (pc' := 7) d26_6 rfl rfl rfl ?_
  refine g_getF C X1 (host := "") (Or.inl (hw _ (List.mem_of_getElem? (i := 144) rfl))) Via.refl e1 H2 d26_7 rfl ?_
  intro T2 X2 e2
  refine g_aloadN C X2 (pc' := 11) d26_10 rfl rfl rfl ?_
  refine g_callV C X2 (k11_coder l Z a0 hw h n0 Z0  qa2 qi1   C0_qi1 H1 H4) (hw _ (List.mem_of_getElem? (i := 192) rfl)) (hw _ (List.mem_of_getElem? (i := 169) rfl)) (hw _ (List.mem_of_getElem? (i := 171) rfl)) (hw _ (List.mem_of_getElem? (i := 170) rfl)) (hw _ (List.mem_of_getElem? (i := 140) rfl)) (hw _ (List.mem_of_getElem? (i := 172) rfl)) (by decide) e2 H3 d26_11 rfl kk_45 [] [(.int (0 : Int32))] rfl rfl rfl 1 rfl (by decide) (by decide) (by decide) (by decide) rfl ?_
  rintro _ T3 _ X3 ⟨rfl, rfl, e3⟩
  rw [List.append_nil] at X3
  show Go p.tables e below _ T3 (mkF m 14 #[.val (.ref qa1), .val (.ref qa2)] [(.int (0 : Int32)), (.int (0 : Int32))])
  refine g_icmpY C X3 d26_14 (pc' := 21) (by decide) (by decide) (by decide) ?_
  exact g_return C X3 d26_21 (⟨rfl, rfl, e3⟩) (by decide) (by decide)
theorem kk_54 : parseMethodDescriptor "(Ljava/lang/String;)V" = some ⟨[(.object "java/lang/String")], none⟩ := by decide +kernel
theorem d27_0 : decode jdk_42_method_147_code 0 = .ok (.aload_n 0, 1) := by decide +kernel
theorem d27_1 : decode jdk_42_method_147_code 1 = .ok (.invokevirtual 335, 3) := by decide +kernel
theorem d27_4 : decode jdk_42_method_147_code 4 = .ok (.iload_n 3, 1) := by decide +kernel
theorem d27_5 : decode jdk_42_method_147_code 5 = .ok (.if_icmp .ne 23, 3) := by decide +kernel
theorem d27_8 : decode jdk_42_method_147_code 8 = .ok (.aload_n 0, 1) := by decide +kernel
theorem d27_9 : decode jdk_42_method_147_code 9 = .ok (.getfield 9, 3) := by decide +kernel
theorem d27_12 : decode jdk_42_method_147_code 12 = .ok (.iconst 0, 1) := by decide +kernel
theorem d27_13 : decode jdk_42_method_147_code 13 = .ok (.aload_n 1, 1) := by decide +kernel
theorem d27_14 : decode jdk_42_method_147_code 14 = .ok (.iload_n 2, 1) := by decide +kernel
theorem d27_15 : decode jdk_42_method_147_code 15 = .ok (.iload_n 3, 1) := by decide +kernel
theorem d27_16 : decode jdk_42_method_147_code 16 = .ok (.ishl, 1) := by decide +kernel
theorem d27_17 : decode jdk_42_method_147_code 17 = .ok (.aload_n 0, 1) := by decide +kernel
theorem d27_18 : decode jdk_42_method_147_code 18 = .ok (.getfield 9, 3) := by decide +kernel
theorem d27_21 : decode jdk_42_method_147_code 21 = .ok (.arraylength, 1) := by decide +kernel
theorem d27_22 : decode jdk_42_method_147_code 22 = .ok (.invokestatic 212, 3) := by decide +kernel
theorem d27_25 : decode jdk_42_method_147_code 25 = .ok (.goto 18, 3) := by decide +kernel
theorem d27_28 : decode jdk_42_method_147_code 28 = .ok (.aload_n 0, 1) := by decide +kernel
theorem d27_29 : decode jdk_42_method_147_code 29 = .ok (.getfield 9, 3) := by decide +kernel
theorem d27_32 : decode jdk_42_method_147_code 32 = .ok (.iconst 0, 1) := by decide +kernel
theorem d27_33 : decode jdk_42_method_147_code 33 = .ok (.aload_n 1, 1) := by decide +kernel
theorem d27_34 : decode jdk_42_method_147_code 34 = .ok (.iload_n 2, 1) := by decide +kernel
theorem d27_35 : decode jdk_42_method_147_code 35 = .ok (.aload_n 0, 1) := by decide +kernel
theorem d27_36 : decode jdk_42_method_147_code 36 = .ok (.getfield 9, 3) := by decide +kernel
theorem d27_39 : decode jdk_42_method_147_code 39 = .ok (.arraylength, 1) := by decide +kernel
theorem d27_40 : decode jdk_42_method_147_code 40 = .ok (.invokestatic 106, 3) := by decide +kernel
theorem d27_43 : decode jdk_42_method_147_code 43 = .ok (.return_, 1) := by decide +kernel
theorem kk_55 (m : MethodId) (x0 : Addr) (x1 : Addr) (x2 : Int32) (x3 : Int32) : entryFrame m #[(.ref x0), (.ref x1), (.int x2), (.int x3)] 4 = mkF m 0 #[.val (.ref x0), .val (.ref x1), .val (.int x2), .val (.int x3)] [] := by first | (simp [entryFrame, mkF, argsToLocals, Value.category]; done) | rfl
theorem kk_56 : plainFor (⟨"java/lang/String", "getBytes", "([BIB)V"⟩ : MethodName) = true := by decide +kernel
set_option maxRecDepth 65536 in
set_option maxHeartbeats 40000000 in
theorem k15_getBytes (l : Launch) (Z : State) (a0 : Array Value) (hw : ∀ d ∈ tables_1, d.before a0 Z = true) (h : Heap) (n0 : Nat) (Z0 : n0 ≤ h.size) (qa1 : Addr) (qa2 : Addr) (qi1 : Int32) (qa3 : Addr) (qk1 : ClassId) (qk2 : ClassId) (z_qa2 : n0 ≤ qa2) (ne_qa1_qa2 : qa1 ≠ qa2) (ne_qa2_qa3 : qa2 ≠ qa3) (C0_qi1 : ¬ (qi1.toInt = 0)) (H1 : Sta Z h "java/lang/String" "COMPACT_STRINGS" "Z" (.int qi1)) (H2 : Exa Z h qa1 "java/lang/String") (H3 : Fld Z h qa1 "java/lang/String" "coder" "B" (.int (0 : Int32))) (H4 : Fld Z h qa1 "java/lang/String" "value" "[B" (.ref qa3)) (H5 : Arv Z h qa2 qk1 .byte (16 : Int32) [] (.int (0 : Int32))) (H6 : Exa Z h qa2 "[B") (H7 : Arv Z h qa3 qk2 .byte (9 : Int32) [(.int (98 : Int32)), (.int (32 : Int32)), (.int (111 : Int32)), (.int (102 : Int32)), (.int (32 : Int32)), (.int (114 : Int32)), (.int (111 : Int32)), (.int (119 : Int32)), (.int (32 : Int32))] (.int (0 : Int32))) :
    Con l Z (⟨"java/lang/String", "getBytes", "([BIB)V"⟩ : MethodName) jdk_42_method_147_code 4 none ⟨1, 0, 0, 32⟩ #[(.ref qa1), (.ref qa2), (.int (0 : Int32)), (.int (0 : Int32))] h (fun v h' L => v = none ∧ Fr n0 L ∧ Keep h h' [qa2] ∧ Exa Z h' qa2 "[B" ∧ Arv Z h' qa2 qk1 .byte (16 : Int32) [(.int (98 : Int32)), (.int (32 : Int32)), (.int (111 : Int32)), (.int (102 : Int32)), (.int (32 : Int32)), (.int (114 : Int32)), (.int (111 : Int32)), (.int (119 : Int32)), (.int (32 : Int32))] (.int (0 : Int32))) := by
  refine con_of_goF kk_56 (fun m => kk_55 m qa1 qa2 (0 : Int32) (0 : Int32)) ?_
  intro p e s m below meth c T0 C X0 e0
  refine g_aloadN C X0 (pc' := 1) d27_0 rfl rfl rfl ?_
  refine g_callV C X0 (k11_coder l Z a0 hw h n0 Z0  qa1 qi1   C0_qi1 H1 H3) (hw _ (List.mem_of_getElem? (i := 168) rfl)) (hw _ (List.mem_of_getElem? (i := 169) rfl)) (hw _ (List.mem_of_getElem? (i := 171) rfl)) (hw _ (List.mem_of_getElem? (i := 170) rfl)) (hw _ (List.mem_of_getElem? (i := 140) rfl)) (hw _ (List.mem_of_getElem? (i := 172) rfl)) (by decide) e0 H2 d27_1 rfl kk_45 [] [] rfl rfl rfl 0 rfl (by decide) (by decide) (by decide) (by decide) rfl ?_
  rintro _ T1 _ X1 ⟨rfl, rfl, e1⟩
  rw [List.append_nil] at X1
  show Go p.tables e below _ T1 (mkF m 4 #[.val (.ref qa1), .val (.ref qa2), .val (.int (0 : Int32)), .val (.int (0 : Int32))] [(.int (0 : Int32))])
  refine g_iloadN C X1 (pc' := 5) d27_4 rfl rfl ?_
  refine g_icmpN C X1 d27_5 (by decide) rfl ?_
  refine g_aloadN C X1 (pc' := 9) d27_8 rfl rfl rfl ?_
  refine g_getF C X1 (host := "") (Or.inl (hw _ (List.mem_of_getElem? (i := 167) rfl))) Via.refl e1 H4 d27_9 rfl ?_
  intro T2 X2 e2
  refine g_iconst C X2 (pc' := 13) d27_12 (v := (0 : Int32)) (by decide) rfl ?_
  refine g_aloadN C X2 (pc' := 14) d27_13 rfl rfl rfl ?_
  refine g_iloadN C X2 (pc' := 15) d27_14 rfl rfl ?_
  refine g_iloadN C X2 (pc' := 16) d27_15 rfl rfl ?_
  refine g_ishl C X2 (pc' := 17) d27_16 rfl ?_
  refine g_aloadN C X2 (pc' := 18) d27_17 rfl rfl rfl ?_
  refine g_getF C X2 (host := "") (Or.inl (hw _ (List.mem_of_getElem? (i := 167) rfl))) Via.refl e2 H4 d27_18 rfl ?_
  intro T3 X3 e3
  refine g_len C X3 (pc' := 22) e3 H7 d27_21 rfl ?_
  rw [show ((0 : Int32) <<< ((0 : Int32) &&& 31) : Int32) = 0 from by decide]
  have H5 : Arv Z h qa2 qk1 .byte (16 : Int32) [(.int (0 : Int32)), (.int (0 : Int32)), (.int (0 : Int32)), (.int (0 : Int32)), (.int (0 : Int32)), (.int (0 : Int32)), (.int (0 : Int32)), (.int (0 : Int32)), (.int (0 : Int32))] (.int (0 : Int32)) := Arv.pad H5 (pad_rep [] (.int (0 : Int32)) 9)
  refine g_acopy C X3 (hw _ (List.mem_of_getElem? (i := 198) rfl)) (hw _ (List.mem_of_getElem? (i := 87) rfl)) (hw _ (List.mem_of_getElem? (i := 85) rfl)) (hw _ (List.mem_of_getElem? (i := 86) rfl)) e3 H7 H5 rfl (by decide) (by decide) (by decide) (by decide) (by decide) [(.int (98 : Int32)), (.int (32 : Int32)), (.int (111 : Int32)), (.int (102 : Int32)), (.int (32 : Int32)), (.int (114 : Int32)), (.int (111 : Int32)), (.int (119 : Int32)), (.int (32 : Int32))] rfl (by decide) (Fr.nil n0) z_qa2 d27_22 rfl 0 rfl (by decide) (by decide) rfl ?_
  intro T4 h4 L4 X4 e4 N4 K4 Aq
  have NS4 := H5.nostat
  have H1 := staKeep H1 K4 (alc NS4 al0)
  have H2 := H2.keep K4
  have H3 := H3.keep K4 (ninS ne_qa1_qa2 nin0)
  have H4 := H4.keep K4 (ninS ne_qa1_qa2 nin0)
  have H6 := H6.keep K4
  have H7 := H7.keep K4 (ninS (Ne.symm ne_qa2_qa3) nin0)
  have Z4 : n0 ≤ h4.size := Nat.le_trans Z0 K4.1
  have P4 := (Keep.refl h [qa2]).trans K4 (alc (Or.inl (List.mem_of_getElem? (i := 0) rfl)) al0)
  have H5 : Arv Z h4 qa2 qk1 .byte (16 : Int32) [(.int (98 : Int32)), (.int (32 : Int32)), (.int (111 : Int32)), (.int (102 : Int32)), (.int (32 : Int32)), (.int (114 : Int32)), (.int (111 : Int32)), (.int (119 : Int32)), (.int (32 : Int32))] (.int (0 : Int32)) := Aq
  refine g_goto C X4 d27_25 (pc' := 43) (by decide) (by decide) ?_
  exact g_return C X4 d27_43 (⟨rfl, N4, by rw [e4]; exact P4, by rw [e4]; exact H6, by rw [e4]; exact H5⟩) (by decide) (by decide)
theorem kk_57 : parseMethodDescriptor "([BIB)V" = some ⟨[(.array .byte), .int, .byte], none⟩ := by decide +kernel
theorem kk_58 (m : MethodId) (x0 : Addr) (x1 : Int32) (x2 : Addr) : entryFrame m #[(.ref x0), (.int x1), (.ref x2)] 3 = mkF m 0 #[.val (.ref x0), .val (.int x1), .val (.ref x2)] [] := by first | (simp [entryFrame, mkF, argsToLocals, Value.category]; done) | rfl
theorem kk_59 : plainFor (⟨"java/lang/AbstractStringBuilder", "putStringAt", "(ILjava/lang/String;)V"⟩ : MethodName) = true := by decide +kernel
set_option maxRecDepth 65536 in
set_option maxHeartbeats 40000000 in
theorem k16_putStringAt (l : Launch) (Z : State) (a0 : Array Value) (hw : ∀ d ∈ tables_1, d.before a0 Z = true) (h : Heap) (n0 : Nat) (Z0 : n0 ≤ h.size) (qa1 : Addr) (qa2 : Addr) (qi1 : Int32) (qa3 : Addr) (qa4 : Addr) (qk1 : ClassId) (qk2 : ClassId) (z_qa3 : n0 ≤ qa3) (ne_qa1_qa3 : qa1 ≠ qa3) (ne_qa2_qa3 : qa2 ≠ qa3) (ne_qa3_qa4 : qa3 ≠ qa4) (C0_qi1 : ¬ (qi1.toInt = 0)) (H1 : Sta Z h "java/lang/String" "COMPACT_STRINGS" "Z" (.int qi1)) (H2 : Exa Z h qa1 "java/lang/StringBuilder") (H3 : Fld Z h qa1 "java/lang/AbstractStringBuilder" "value" "[B" (.ref qa3)) (H4 : Fld Z h qa1 "java/lang/AbstractStringBuilder" "coder" "B" (.int (0 : Int32))) (H5 : Exa Z h qa2 "java/lang/String") (H6 : Fld Z h qa2 "java/lang/String" "coder" "B" (.int (0 : Int32))) (H7 : Fld Z h qa2 "java/lang/String" "value" "[B" (.ref qa4)) (H8 : Arv Z h qa3 qk1 .byte (16 : Int32) [] (.int (0 : Int32))) (H9 : Exa Z h qa3 "[B") (H10 : Arv Z h qa4 qk2 .byte (9 : Int32) [(.int (98 : Int32)), (.int (32 : Int32)), (.int (111 : Int32)), (.int (102 : Int32)), (.int (32 : Int32)), (.int (114 : Int32)), (.int (111 : Int32)), (.int (119 : Int32)), (.int (32 : Int32))] (.int (0 : Int32))) :
    Con l Z (⟨"java/lang/AbstractStringBuilder", "putStringAt", "(ILjava/lang/String;)V"⟩ : MethodName) jdk_68_method_73_code 3 none ⟨2, 0, 0, 47⟩ #[(.ref qa1), (.int (0 : Int32)), (.ref qa2)] h (fun v h' L => v = none ∧ Fr n0 L ∧ Keep h h' [qa3] ∧ Exa Z h' qa3 "[B" ∧ Arv Z h' qa3 qk1 .byte (16 : Int32) [(.int (98 : Int32)), (.int (32 : Int32)), (.int (111 : Int32)), (.int (102 : Int32)), (.int (32 : Int32)), (.int (114 : Int32)), (.int (111 : Int32)), (.int (119 : Int32)), (.int (32 : Int32))] (.int (0 : Int32))) := by
  refine con_of_goF kk_59 (fun m => kk_58 m qa1 (0 : Int32) qa2) ?_
  intro p e s m below meth c T0 C X0 e0
  refine g_aloadN C X0 (pc' := 1) d25_0 rfl rfl rfl ?_
  refine g_aloadN C X0 (pc' := 2) d25_1 rfl rfl rfl ?_
  refine g_callPS C X0 (k14_inflateIfNeededFor l Z a0 hw h n0 Z0  qa1 qa2 qi1   C0_qi1 H1 H4 H5 H6) (hw _ (List.mem_of_getElem? (i := 187) rfl)) (hw _ (List.mem_of_getElem? (i := 189) rfl)) (hw _ (List.mem_of_getElem? (i := 190) rfl)) (hw _ (List.mem_of_getElem? (i := 188) rfl)) (hw _ (List.mem_of_getElem? (i := 136) rfl)) (hw _ (List.mem_of_getElem? (i := 191) rfl)) (by decide) e0 H2 d25_2 rfl kk_54 [(.ref qa2)] [] rfl rfl rfl 0 rfl (by decide) (by decide) (by decide) (by decide) rfl ?_
  rintro _ T1 _ X1 ⟨rfl, rfl, e1⟩
  rw [List.append_nil] at X1
  show Go p.tables e below _ T1 (mkF m 5 #[.val (.ref qa1), .val (.int (0 : Int32)), .val (.ref qa2)] [])
  refine g_aloadN C X1 (pc' := 6) d25_5 rfl rfl rfl ?_
  refine g_aloadN C X1 (pc' := 7) d25_6 rfl rfl rfl ?_
  refine g_getF C X1 (host := "") (Or.inl (hw _ (List.mem_of_getElem? (i := 142) rfl))) Via.refl e1 H3 d25_7 rfl ?_
  intro T2 X2 e2
  refine g_iloadN C X2 (pc' := 11) d25_10 rfl rfl ?_
  refine g_aloadN C X2 (pc' := 12) d25_11 rfl rfl rfl ?_
  refine g_getF C X2 (host := "") (Or.inl (hw _ (List.mem_of_getElem? (i := 144) rfl))) Via.refl e2 H4 d25_12 rfl ?_
  intro T3 X3 e3
  refine g_callV C X3 (k15_getBytes l Z a0 hw h n0 Z0  qa2 qa3 qi1 qa4 qk1 qk2 z_qa3 ne_qa2_qa3 ne_qa3_qa4 C0_qi1 H1 H5 H6 H7 H8 H9 H10) (hw _ (List.mem_of_getElem? (i := 193) rfl)) (hw _ (List.mem_of_getElem? (i := 194) rfl)) (hw _ (List.mem_of_getElem? (i := 196) rfl)) (hw _ (List.mem_of_getElem? (i := 195) rfl)) (hw _ (List.mem_of_getElem? (i := 140) rfl)) (hw _ (List.mem_of_getElem? (i := 197) rfl)) (by decide) e3 H5 d25_15 rfl kk_57 [(.ref qa3), (.int (0 : Int32)), (.int (0 : Int32))] [] rfl rfl rfl 0 rfl (by decide) (by decide) (by decide) (by decide) rfl ?_
  rintro _ T4 L4 X4 ⟨rfl, M4, K4, FF1, FF2⟩
  have H1 := staKeep H1 K4 (alc H8.nostat al0)
  have H2 := H2.keep K4
  have H3 := H3.keep K4 (ninS ne_qa1_qa3 nin0)
  have H4 := H4.keep K4 (ninS ne_qa1_qa3 nin0)
  have H5 := H5.keep K4
  have H6 := H6.keep K4 (ninS ne_qa2_qa3 nin0)
  have H7 := H7.keep K4 (ninS ne_qa2_qa3 nin0)
  have H10 := H10.keep K4 (ninS (Ne.symm ne_qa3_qa4) nin0)
  have Z4 : n0 ≤ T4.heap.size := Nat.le_trans Z0 K4.1
  have P4 := (Keep.refl h [qa3]).trans K4 (alc (Or.inl (List.mem_of_getElem? (i := 0) rfl)) al0)
  have N4 := Fr.app (Fr.nil n0) M4
  obtain ⟨h4, e4⟩ : ∃ z, T4.heap = z := ⟨_, rfl⟩
  rw [e4] at H1 H2 H3 H4 H5 H6 H7 H10 FF1 FF2 Z4 P4
  show Go p.tables e below _ T4 (mkF m 18 #[.val (.ref qa1), .val (.int (0 : Int32)), .val (.ref qa2)] [])
  exact g_return C X4 d25_18 (⟨rfl, N4, by rw [e4]; exact P4, by rw [e4]; exact FF1, by rw [e4]; exact FF2⟩) (by decide) (by decide)
theorem kk_60 : parseMethodDescriptor "(ILjava/lang/String;)V" = some ⟨[.int, (.object "java/lang/String")], none⟩ := by decide +kernel
theorem kk_61 (m : MethodId) (x0 : Addr) (x1 : Addr) : entryFrame m #[(.ref x0), (.ref x1)] 3 = mkF m 0 #[.val (.ref x0), .val (.ref x1), .unset] [] := by first | (simp [entryFrame, mkF, argsToLocals, Value.category]; done) | rfl
theorem kk_62 : plainFor (⟨"java/lang/AbstractStringBuilder", "append", "(Ljava/lang/String;)Ljava/lang/AbstractStringBuilder;"⟩ : MethodName) = true := by decide +kernel
set_option maxRecDepth 65536 in
set_option maxHeartbeats 40000000 in
theorem k17_append (l : Launch) (Z : State) (a0 : Array Value) (hw : ∀ d ∈ tables_1, d.before a0 Z = true) (h : Heap) (n0 : Nat) (Z0 : n0 ≤ h.size) (qa1 : Addr) (qa2 : Addr) (qi1 : Int32) (qa3 : Addr) (qa4 : Addr) (qk1 : ClassId) (qk2 : ClassId) (z_qa1 : n0 ≤ qa1) (z_qa3 : n0 ≤ qa3) (ne_qa1_qa2 : qa1 ≠ qa2) (ne_qa1_qa3 : qa1 ≠ qa3) (ne_qa1_qa4 : qa1 ≠ qa4) (ne_qa2_qa3 : qa2 ≠ qa3) (ne_qa3_qa4 : qa3 ≠ qa4) (C0_qi1 : ¬ (qi1.toInt = 0)) (H1 : Sta Z h "java/lang/String" "COMPACT_STRINGS" "Z" (.int qi1)) (H2 : Exa Z h qa1 "java/lang/StringBuilder") (H3 : Fld Z h qa1 "java/lang/AbstractStringBuilder" "value" "[B" (.ref qa3)) (H4 : Fld Z h qa1 "java/lang/AbstractStringBuilder" "coder" "B" (.int (0 : Int32))) (H5 : Fld Z h qa1 "java/lang/AbstractStringBuilder" "count" "I" (.int (0 : Int32))) (H6 : Exa Z h qa2 "java/lang/String") (H7 : Fld Z h qa2 "java/lang/String" "coder" "B" (.int (0 : Int32))) (H8 : Fld Z h qa2 "java/lang/String" "value" "[B" (.ref qa4)) (H9 : Arv Z h qa3 qk1 .byte (16 : Int32) [] (.int (0 : Int32))) (H10 : Exa Z h qa3 "[B") (H11 : Arv Z h qa4 qk2 .byte (9 : Int32) [(.int (98 : Int32)), (.int (32 : Int32)), (.int (111 : Int32)), (.int (102 : Int32)), (.int (32 : Int32)), (.int (114 : Int32)), (.int (111 : Int32)), (.int (119 : Int32)), (.int (32 : Int32))] (.int (0 : Int32))) :
    Con l Z (⟨"java/lang/AbstractStringBuilder", "append", "(Ljava/lang/String;)Ljava/lang/AbstractStringBuilder;"⟩ : MethodName) jdk_68_method_22_code 3 (some (.object "java/lang/AbstractStringBuilder")) ⟨3, 0, 0, 61⟩ #[(.ref qa1), (.ref qa2)] h (fun v h' L => v = some (.ref qa1) ∧ Fr n0 L ∧ Keep h h' [qa1, qa3] ∧ Exa Z h' qa1 "java/lang/StringBuilder" ∧ Fld Z h' qa1 "java/lang/AbstractStringBuilder" "value" "[B" (.ref qa3) ∧ Fld Z h' qa1 "java/lang/AbstractStringBuilder" "coder" "B" (.int (0 : Int32)) ∧ Fld Z h' qa1 "java/lang/AbstractStringBuilder" "count" "I" (.int (9 : Int32)) ∧ Exa Z h' qa3 "[B" ∧ Arv Z h' qa3 qk1 .byte (16 : Int32) [(.int (98 : Int32)), (.int (32 : Int32)), (.int (111 : Int32)), (.int (102 : Int32)), (.int (32 : Int32)), (.int (114 : Int32)), (.int (111 : Int32)), (.int (119 : Int32)), (.int (32 : Int32))] (.int (0 : Int32))) := by
  refine con_of_goF kk_62 (fun m => kk_61 m qa1 qa2) ?_
  intro p e s m below meth c T0 C X0 e0
  refine g_aloadN C X0 (pc' := 1) d21_0 rfl rfl rfl ?_
  refine g_ifnonnullY C X0 d21_1 (pc' := 9) (by decide) (by decide) ?_
  refine g_aloadN C X0 (pc' := 10) d21_9 rfl rfl rfl ?_
  refine g_callV C X0 (k12_length l Z a0 hw h n0 Z0  qa2 qi1 qa4 (.int (98 : Int32)) (.int (32 : Int32)) (.int (111 : Int32)) (.int (102 : Int32)) (.int (114 : Int32)) (.int (119 : Int32)) qk2   C0_qi1 H1 H6 H7 H8 H11) (hw _ (List.mem_of_getElem? (i := 162) rfl)) (hw _ (List.mem_of_getElem? (i := 163) rfl)) (hw _ (List.mem_of_getElem? (i := 165) rfl)) (hw _ (List.mem_of_getElem? (i := 164) rfl)) (hw _ (List.mem_of_getElem? (i := 140) rfl)) (hw _ (List.mem_of_getElem? (i := 166) rfl)) (by decide) e0 H6 d21_10 rfl kk_48 [] [] rfl rfl rfl 0 rfl (by decide) (by decide) (by decide) (by decide) rfl ?_
  rintro _ T1 _ X1 ⟨rfl, rfl, e1⟩
  rw [List.append_nil] at X1
  show Go p.tables e below _ T1 (mkF m 13 #[.val (.ref qa1), .val (.ref qa2), .unset] [(.int ((9 : Int32) >>> ((0 : Int32) &&& 31)))])
  refine g_istoreN C X1 (pc' := 14) d21_13 (x := (9 : Int32)) (by decide) (l' := #[.val (.ref qa1), .val (.ref qa2), .val (.int (9 : Int32))]) rfl rfl ?_
  refine g_aloadN C X1 (pc' := 15) d21_14 rfl rfl rfl ?_
  refine g_aloadN C X1 (pc' := 16) d21_15 rfl rfl rfl ?_
  refine g_getF C X1 (host := "") (Or.inl (hw _ (List.mem_of_getElem? (i := 175) rfl))) Via.refl e1 H5 d21_16 rfl ?_
  intro T2 X2 e2
  refine g_iloadN C X2 (pc' := 20) d21_19 rfl rfl ?_
  refine g_iadd C X2 (pc' := 21) d21_20 rfl ?_
  rw [show ((0 : Int32) + (9 : Int32) : Int32) = 9 from by decide]
  refine g_callPS C X2 (k13_ensureCapacityInternal l Z a0 hw h n0 Z0  qa1 qa3 qk1    H3 H4 H9) (hw _ (List.mem_of_getElem? (i := 177) rfl)) (hw _ (List.mem_of_getElem? (i := 179) rfl)) (hw _ (List.mem_of_getElem? (i := 180) rfl)) (hw _ (List.mem_of_getElem? (i := 178) rfl)) (hw _ (List.mem_of_getElem? (i := 136) rfl)) (hw _ (List.mem_of_getElem? (i := 181) rfl)) (by decide) e2 H2 d21_21 rfl kk_51 [(.int (9 : Int32))] [] rfl rfl rfl 0 rfl (by decide) (by decide) (by decide) (by decide) rfl ?_
  rintro _ T3 _ X3 ⟨rfl, rfl, e3⟩
  rw [List.append_nil] at X3
  show Go p.tables e below _ T3 (mkF m 24 #[.val (.ref qa1), .val (.ref qa2), .val (.int (9 : Int32))] [])
  refine g_aloadN C X3 (pc' := 25) d21_24 rfl rfl rfl ?_
  refine g_aloadN C X3 (pc' := 26) d21_25 rfl rfl rfl ?_
  refine g_getF C X3 (host := "") (Or.inl (hw _ (List.mem_of_getElem? (i := 175) rfl))) Via.refl e3 H5 d21_26 rfl ?_
  intro T4 X4 e4
  refine g_aloadN C X4 (pc' := 30) d21_29 rfl rfl rfl ?_
  refine g_callPS C X4 (k16_putStringAt l Z a0 hw h n0 Z0  qa1 qa2 qi1 qa3 qa4 qk1 qk2 z_qa3 ne_qa1_qa3 ne_qa2_qa3 ne_qa3_qa4 C0_qi1 H1 H2 H3 H4 H6 H7 H8 H9 H10 H11) (hw _ (List.mem_of_getElem? (i := 182) rfl)) (hw _ (List.mem_of_getElem? (i := 184) rfl)) (hw _ (List.mem_of_getElem? (i := 185) rfl)) (hw _ (List.mem_of_getElem? (i := 183) rfl)) (hw _ (List.mem_of_getElem? (i := 136) rfl)) (hw _ (List.mem_of_getElem? (i := 186) rfl)) (by decide) e4 H2 d21_30 rfl kk_60 [(.int (0 : Int32)), (.ref qa2)] [] rfl rfl rfl 0 rfl (by decide) (by decide) (by decide) (by decide) rfl ?_
  rintro _ T5 L5 X5 ⟨rfl, M5, K5, FF1, FF2⟩
  have H1 := staKeep H1 K5 (alc H9.nostat al0)
  have H2 := H2.keep K5
  have H3 := H3.keep K5 (ninS ne_qa1_qa3 nin0)
  have H4 := H4.keep K5 (ninS ne_qa1_qa3 nin0)
  have H5 := H5.keep K5 (ninS ne_qa1_qa3 nin0)
  have H6 := H6.keep K5
  have H7 := H7.keep K5 (ninS ne_qa2_qa3 nin0)
  have H8 := H8.keep K5 (ninS ne_qa2_qa3 nin0)
  have H11 := H11.keep K5 (ninS (Ne.symm ne_qa3_qa4) nin0)
  have Z5 : n0 ≤ T5.heap.size := Nat.le_trans Z0 K5.1
  have P5 := (Keep.refl h [qa1, qa3]).trans K5 (alc (Or.inl (List.mem_of_getElem? (i := 1) rfl)) al0)
  have N5 := Fr.app (Fr.nil n0) M5
  obtain ⟨h5, e5⟩ : ∃ z, T5.heap = z := ⟨_, rfl⟩
  rw [e5] at H1 H2 H3 H4 H5 H6 H7 H8 H11 FF1 FF2 Z5 P5
  show Go p.tables e below _ T5 (mkF m 33 #[.val (.ref qa1), .val (.ref qa2), .val (.int (9 : Int32))] [])
  refine g_aloadN C X5 (pc' := 34) d21_33 rfl rfl rfl ?_
  refine g_dup C X5 (pc' := 35) d21_34 rfl rfl ?_
  refine g_getF C X5 (host := "") (Or.inl (hw _ (List.mem_of_getElem? (i := 175) rfl))) Via.refl e5 H5 d21_35 rfl ?_
  intro T6 X6 e6
  refine g_iloadN C X6 (pc' := 39) d21_38 rfl rfl ?_
  refine g_iadd C X6 (pc' := 40) d21_39 rfl ?_
  rw [show ((0 : Int32) + (9 : Int32) : Int32) = 9 from by decide]
  refine g_putF C X6 (host := "") (Or.inl (hw _ (List.mem_of_getElem? (i := 175) rfl))) Via.refl e6 H5 H2 (Or.inl (hw _ (List.mem_of_getElem? (i := 176) rfl))) (hw _ (List.mem_of_getElem? (i := 127) rfl)) (ty := .int) (by decide) rfl rfl d21_40 rfl ?_
  intro T7 h7 X7 e7 W7
  have H1 := H1.wr W7
  have H2 := H2.wr W7
  have H3 := H3.other W7 (Or.inr (slot_ne (Or.inl (hw _ (List.mem_of_getElem? (i := 143) rfl))) (Or.inl (hw _ (List.mem_of_getElem? (i := 176) rfl))) (by decide) rfl rfl))
  have H4 := H4.other W7 (Or.inr (slot_ne (Or.inl (hw _ (List.mem_of_getElem? (i := 145) rfl))) (Or.inl (hw _ (List.mem_of_getElem? (i := 176) rfl))) (by decide) rfl rfl))
  have H5 := H5.same W7
  have H6 := H6.wr W7
  have H7 := H7.other W7 (Or.inl (Ne.symm ne_qa1_qa2))
  have H8 := H8.other W7 (Or.inl (Ne.symm ne_qa1_qa2))
  have H11 := H11.other W7 (Ne.symm ne_qa1_qa4)
  have FF1 := FF1.wr W7
  have FF2 := FF2.other W7 (Ne.symm ne_qa1_qa3)
  have Z7 : n0 ≤ h7.size := by rw [W7.size]; exact Z5
  have N7 := Fr.snoc X7 N5 z_qa1
  have P7 := P5.wr W7 (Or.inl (List.mem_of_getElem? (i := 0) rfl))
  refine g_aloadN C X7 (pc' := 44) d21_43 rfl rfl rfl ?_
  exact g_areturn C X7 d21_44 rfl rfl rfl (⟨rfl, N7, by rw [e7]; exact P7, by rw [e7]; exact H2, by rw [e7]; exact H3, by rw [e7]; exact H4, by rw [e7]; exact H5, by rw [e7]; exact FF1, by rw [e7]; exact FF2⟩) (by decide) (by decide)
theorem kk_63 : parseMethodDescriptor "(Ljava/lang/String;)Ljava/lang/AbstractStringBuilder;" = some ⟨[(.object "java/lang/String")], (some (.object "java/lang/AbstractStringBuilder"))⟩ := by decide +kernel
theorem kk_64 (m : MethodId) (x0 : Addr) (x1 : Addr) : entryFrame m #[(.ref x0), (.ref x1)] 2 = mkF m 0 #[.val (.ref x0), .val (.ref x1)] [] := by first | (simp [entryFrame, mkF, argsToLocals, Value.category]; done) | rfl
theorem kk_65 : plainFor (⟨"java/lang/StringBuilder", "append", "(Ljava/lang/String;)Ljava/lang/StringBuilder;"⟩ : MethodName) = true := by decide +kernel
set_option maxRecDepth 65536 in
set_option maxHeartbeats 40000000 in
theorem k18_append (l : Launch) (Z : State) (a0 : Array Value) (hw : ∀ d ∈ tables_1, d.before a0 Z = true) (h : Heap) (n0 : Nat) (Z0 : n0 ≤ h.size) (qa1 : Addr) (qa2 : Addr) (qi1 : Int32) (qa3 : Addr) (qa4 : Addr) (qk1 : ClassId) (qk2 : ClassId) (z_qa1 : n0 ≤ qa1) (z_qa3 : n0 ≤ qa3) (ne_qa1_qa2 : qa1 ≠ qa2) (ne_qa1_qa3 : qa1 ≠ qa3) (ne_qa1_qa4 : qa1 ≠ qa4) (ne_qa2_qa3 : qa2 ≠ qa3) (ne_qa3_qa4 : qa3 ≠ qa4) (C0_qi1 : ¬ (qi1.toInt = 0)) (H1 : Sta Z h "java/lang/String" "COMPACT_STRINGS" "Z" (.int qi1)) (H2 : Exa Z h qa1 "java/lang/StringBuilder") (H3 : Fld Z h qa1 "java/lang/AbstractStringBuilder" "value" "[B" (.ref qa3)) (H4 : Fld Z h qa1 "java/lang/AbstractStringBuilder" "coder" "B" (.int (0 : Int32))) (H5 : Fld Z h qa1 "java/lang/AbstractStringBuilder" "count" "I" (.int (0 : Int32))) (H6 : Exa Z h qa2 "java/lang/String") (H7 : Fld Z h qa2 "java/lang/String" "coder" "B" (.int (0 : Int32))) (H8 : Fld Z h qa2 "java/lang/String" "value" "[B" (.ref qa4)) (H9 : Arv Z h qa3 qk1 .byte (16 : Int32) [] (.int (0 : Int32))) (H10 : Exa Z h qa3 "[B") (H11 : Arv Z h qa4 qk2 .byte (9 : Int32) [(.int (98 : Int32)), (.int (32 : Int32)), (.int (111 : Int32)), (.int (102 : Int32)), (.int (32 : Int32)), (.int (114 : Int32)), (.int (111 : Int32)), (.int (119 : Int32)), (.int (32 : Int32))] (.int (0 : Int32))) :
    Con l Z (⟨"java/lang/StringBuilder", "append", "(Ljava/lang/String;)Ljava/lang/StringBuilder;"⟩ : MethodName) jdk_67_method_7_code 2 (some (.object "java/lang/StringBuilder")) ⟨4, 0, 0, 75⟩ #[(.ref qa1), (.ref qa2)] h (fun v h' L => v = some (.ref qa1) ∧ Fr n0 L ∧ Keep h h' [qa1, qa3] ∧ Exa Z h' qa1 "java/lang/StringBuilder" ∧ Fld Z h' qa1 "java/lang/AbstractStringBuilder" "value" "[B" (.ref qa3) ∧ Fld Z h' qa1 "java/lang/AbstractStringBuilder" "coder" "B" (.int (0 : Int32)) ∧ Fld Z h' qa1 "java/lang/AbstractStringBuilder" "count" "I" (.int (9 : Int32)) ∧ Exa Z h' qa3 "[B" ∧ Arv Z h' qa3 qk1 .byte (16 : Int32) [(.int (98 : Int32)), (.int (32 : Int32)), (.int (111 : Int32)), (.int (102 : Int32)), (.int (32 : Int32)), (.int (114 : Int32)), (.int (111 : Int32)), (.int (119 : Int32)), (.int (32 : Int32))] (.int (0 : Int32))) := by
  refine con_of_goF kk_65 (fun m => kk_64 m qa1 qa2) ?_
  intro p e s m below meth c T0 C X0 e0
  refine g_aloadN C X0 (pc' := 1) d20_0 rfl rfl rfl ?_
  refine g_aloadN C X0 (pc' := 2) d20_1 rfl rfl rfl ?_
  refine g_callU C (y2 := ⟨"java/lang/AbstractStringBuilder", "ensureCapacityInternal", "(I)V"⟩) X0 (k17_append l Z a0 hw h n0 Z0  qa1 qa2 qi1 qa3 qa4 qk1 qk2 z_qa1 z_qa3 ne_qa1_qa2 ne_qa1_qa3 ne_qa1_qa4 ne_qa2_qa3 ne_qa3_qa4 C0_qi1 H1 H2 H3 H4 H5 H6 H7 H8 H9 H10 H11) (hw _ (List.mem_of_getElem? (i := 157) rfl)) (hw _ (List.mem_of_getElem? (i := 158) rfl)) (hw _ (List.mem_of_getElem? (i := 159) rfl)) (hw _ (List.mem_of_getElem? (i := 180) rfl)) rfl (hw _ (List.mem_of_getElem? (i := 136) rfl)) (hw _ (List.mem_of_getElem? (i := 161) rfl)) (by decide) (by decide) e0 H2 d20_2 rfl kk_63 [(.ref qa2)] [] rfl rfl rfl 0 rfl (by decide) (by decide) (by decide) (by decide) rfl ?_
  rintro _ T1 L1 X1 ⟨rfl, M1, K1, FF1, FF2, FF3, FF4, FF5, FF6⟩
  have H1 := staKeep H1 K1 (alc H2.nostat (alc H9.nostat al0))
  have H6 := H6.keep K1
  have H7 := H7.keep K1 (ninS (Ne.symm ne_qa1_qa2) (ninS ne_qa2_qa3 nin0))
  have H8 := H8.keep K1 (ninS (Ne.symm ne_qa1_qa2) (ninS ne_qa2_qa3 nin0))
  have H11 := H11.keep K1 (ninS (Ne.symm ne_qa1_qa4) (ninS (Ne.symm ne_qa3_qa4) nin0))
  have Z1 : n0 ≤ T1.heap.size := Nat.le_trans Z0 K1.1
  have P1 := (Keep.refl h [qa1, qa3]).trans K1 (alc (Or.inl (List.mem_of_getElem? (i := 0) rfl)) (alc (Or.inl (List.mem_of_getElem? (i := 1) rfl)) al0))
  have N1 := Fr.app (Fr.nil n0) M1
  obtain ⟨h1, e1⟩ : ∃ z, T1.heap = z := ⟨_, rfl⟩
  rw [e1] at H1 H6 H7 H8 H11 FF1 FF2 FF3 FF4 FF5 FF6 Z1 P1
  show Go p.tables e below _ T1 (mkF m 5 #[.val (.ref qa1), .val (.ref qa2)] [(.ref qa1)])
  refine g_pop C X1 (pc' := 6) d20_5 rfl rfl ?_
  refine g_aloadN C X1 (pc' := 7) d20_6 rfl rfl rfl ?_
  exact g_areturn C X1 d20_7 rfl rfl rfl (⟨rfl, N1, by rw [e1]; exact P1, by rw [e1]; exact FF1, by rw [e1]; exact FF2, by rw [e1]; exact FF3, by rw [e1]; exact FF4, by rw [e1]; exact FF5, by rw [e1]; exact FF6⟩) (by decide) (by decide)
theorem kk_66 : parseMethodDescriptor "(Ljava/lang/String;)Ljava/lang/StringBuilder;" = some ⟨[(.object "java/lang/String")], (some (.object "java/lang/StringBuilder"))⟩ := by decide +kernel
theorem d28_0 : decode jdk_67_method_15_code 0 = .ok (.aload_n 0, 1) := by decide +kernel
theorem d28_1 : decode jdk_67_method_15_code 1 = .ok (.iload_n 1, 1) := by decide +kernel
theorem d28_2 : decode jdk_67_method_15_code 2 = .ok (.invokespecial 53, 3) := by decide +kernel
theorem d28_5 : decode jdk_67_method_15_code 5 = .ok (.pop, 1) := by decide +kernel
theorem d28_6 : decode jdk_67_method_15_code 6 = .ok (.aload_n 0, 1) := by decide +kernel
theorem d28_7 : decode jdk_67_method_15_code 7 = .ok (.areturn, 1) := by decide +kernel
theorem d29_0 : decode jdk_68_method_32_code 0 = .ok (.aload_n 0, 1) := by decide +kernel
theorem d29_1 : decode jdk_68_method_32_code 1 = .ok (.getfield 79, 3) := by decide +kernel
theorem d29_4 : decode jdk_68_method_32_code 4 = .ok (.istore_n 2, 1) := by decide +kernel
theorem d29_5 : decode jdk_68_method_32_code 5 = .ok (.iload_n 2, 1) := by decide +kernel
theorem d29_6 : decode jdk_68_method_32_code 6 = .ok (.iload_n 1, 1) := by decide +kernel
theorem d29_7 : decode jdk_68_method_32_code 7 = .ok (.invokestatic 245, 3) := by decide +kernel
theorem d29_10 : decode jdk_68_method_32_code 10 = .ok (.iadd, 1) := by decide +kernel
theorem d29_11 : decode jdk_68_method_32_code 11 = .ok (.istore_n 3, 1) := by decide +kernel
theorem d29_12 : decode jdk_68_method_32_code 12 = .ok (.aload_n 0, 1) := by decide +kernel
theorem d29_13 : decode jdk_68_method_32_code 13 = .ok (.iload_n 3, 1) := by decide +kernel
theorem d29_14 : decode jdk_68_method_32_code 14 = .ok (.invokevirtual 100, 3) := by decide +kernel
theorem d29_17 : decode jdk_68_method_32_code 17 = .ok (.aload_n 0, 1) := by decide +kernel
theorem d29_18 : decode jdk_68_method_32_code 18 = .ok (.invokevirtual 83, 3) := by decide +kernel
theorem d29_21 : decode jdk_68_method_32_code 21 = .ok (.ifCond .eq 16, 3) := by decide +kernel
theorem d29_24 : decode jdk_68_method_32_code 24 = .ok (.iload_n 1, 1) := by decide +kernel
theorem d29_25 : decode jdk_68_method_32_code 25 = .ok (.iload_n 3, 1) := by decide +kernel
theorem d29_26 : decode jdk_68_method_32_code 26 = .ok (.aload_n 0, 1) := by decide +kernel
theorem d29_27 : decode jdk_68_method_32_code 27 = .ok (.getfield 15, 3) := by decide +kernel
theorem d29_30 : decode jdk_68_method_32_code 30 = .ok (.invokestatic 248, 3) := by decide +kernel
theorem d29_33 : decode jdk_68_method_32_code 33 = .ok (.pop, 1) := by decide +kernel
theorem d29_34 : decode jdk_68_method_32_code 34 = .ok (.goto 14, 3) := by decide +kernel
theorem d29_37 : decode jdk_68_method_32_code 37 = .ok (.iload_n 1, 1) := by decide +kernel
theorem d29_38 : decode jdk_68_method_32_code 38 = .ok (.iload_n 2, 1) := by decide +kernel
theorem d29_39 : decode jdk_68_method_32_code 39 = .ok (.iload_n 3, 1) := by decide +kernel
theorem d29_40 : decode jdk_68_method_32_code 40 = .ok (.aload_n 0, 1) := by decide +kernel
theorem d29_41 : decode jdk_68_method_32_code 41 = .ok (.getfield 15, 3) := by decide +kernel
theorem d29_44 : decode jdk_68_method_32_code 44 = .ok (.invokestatic 251, 3) := by decide +kernel
theorem d29_47 : decode jdk_68_method_32_code 47 = .ok (.pop, 1) := by decide +kernel
theorem d29_48 : decode jdk_68_method_32_code 48 = .ok (.aload_n 0, 1) := by decide +kernel
theorem d29_49 : decode jdk_68_method_32_code 49 = .ok (.iload_n 3, 1) := by decide +kernel
theorem d29_50 : decode jdk_68_method_32_code 50 = .ok (.putfield 79, 3) := by decide +kernel
theorem d29_53 : decode jdk_68_method_32_code 53 = .ok (.aload_n 0, 1) := by decide +kernel
theorem d29_54 : decode jdk_68_method_32_code 54 = .ok (.areturn, 1) := by decide +kernel
theorem d30_0 : decode jdk_33_method_13_code 0 = .ok (.iconst 1, 1) := by decide +kernel
theorem d30_1 : decode jdk_33_method_13_code 1 = .ok (.istore_n 1, 1) := by decide +kernel
theorem d30_2 : decode jdk_33_method_13_code 2 = .ok (.iload_n 0, 1) := by decide +kernel
theorem d30_3 : decode jdk_33_method_13_code 3 = .ok (.ifCond .lt 8, 3) := by decide +kernel
theorem d30_6 : decode jdk_33_method_13_code 6 = .ok (.iconst 0, 1) := by decide +kernel
theorem d30_7 : decode jdk_33_method_13_code 7 = .ok (.istore_n 1, 1) := by decide +kernel
theorem d30_8 : decode jdk_33_method_13_code 8 = .ok (.iload_n 0, 1) := by decide +kernel
theorem d30_9 : decode jdk_33_method_13_code 9 = .ok (.ineg, 1) := by decide +kernel
theorem d30_10 : decode jdk_33_method_13_code 10 = .ok (.istore_n 0, 1) := by decide +kernel
theorem d30_11 : decode jdk_33_method_13_code 11 = .ok (.bipush (-10), 2) := by decide +kernel
theorem d30_13 : decode jdk_33_method_13_code 13 = .ok (.istore_n 2, 1) := by decide +kernel
theorem d30_14 : decode jdk_33_method_13_code 14 = .ok (.iconst 1, 1) := by decide +kernel
theorem d30_15 : decode jdk_33_method_13_code 15 = .ok (.istore_n 3, 1) := by decide +kernel
theorem d30_16 : decode jdk_33_method_13_code 16 = .ok (.iload_n 3, 1) := by decide +kernel
theorem d30_17 : decode jdk_33_method_13_code 17 = .ok (.bipush 10, 2) := by decide +kernel
theorem d30_19 : decode jdk_33_method_13_code 19 = .ok (.if_icmp .ge 23, 3) := by decide +kernel
theorem d30_22 : decode jdk_33_method_13_code 22 = .ok (.iload_n 0, 1) := by decide +kernel
theorem d30_23 : decode jdk_33_method_13_code 23 = .ok (.iload_n 2, 1) := by decide +kernel
theorem d30_24 : decode jdk_33_method_13_code 24 = .ok (.if_icmp .le 7, 3) := by decide +kernel
theorem d30_27 : decode jdk_33_method_13_code 27 = .ok (.iload_n 3, 1) := by decide +kernel
theorem d30_28 : decode jdk_33_method_13_code 28 = .ok (.iload_n 1, 1) := by decide +kernel
theorem d30_29 : decode jdk_33_method_13_code 29 = .ok (.iadd, 1) := by decide +kernel
theorem d30_30 : decode jdk_33_method_13_code 30 = .ok (.ireturn, 1) := by decide +kernel
theorem d30_31 : decode jdk_33_method_13_code 31 = .ok (.bipush 10, 2) := by decide +kernel
theorem d30_33 : decode jdk_33_method_13_code 33 = .ok (.iload_n 2, 1) := by decide +kernel
theorem d30_34 : decode jdk_33_method_13_code 34 = .ok (.imul, 1) := by decide +kernel
theorem d30_35 : decode jdk_33_method_13_code 35 = .ok (.istore_n 2, 1) := by decide +kernel
theorem d30_36 : decode jdk_33_method_13_code 36 = .ok (.iinc 3 1, 3) := by decide +kernel
theorem d30_39 : decode jdk_33_method_13_code 39 = .ok (.goto (-23), 3) := by decide +kernel
theorem d30_42 : decode jdk_33_method_13_code 42 = .ok (.bipush 10, 2) := by decide +kernel
theorem d30_44 : decode jdk_33_method_13_code 44 = .ok (.iload_n 1, 1) := by decide +kernel
theorem d30_45 : decode jdk_33_method_13_code 45 = .ok (.iadd, 1) := by decide +kernel
theorem d30_46 : decode jdk_33_method_13_code 46 = .ok (.ireturn, 1) := by decide +kernel
theorem kk_67 (m : MethodId) (x0 : Int32) : entryFrame m #[(.int x0)] 4 = mkF m 0 #[.val (.int x0), .unset, .unset, .unset] [] := by first | (simp [entryFrame, mkF, argsToLocals, Value.category]; done) | rfl
theorem kk_68 : plainFor (⟨"java/lang/Integer", "stringSize", "(I)I"⟩ : MethodName) = true := by decide +kernel
set_option maxRecDepth 65536 in
set_option maxHeartbeats 40000000 in
theorem k19_stringSize (l : Launch) (Z : State) (a0 : Array Value) (hw : ∀ d ∈ tables_1, d.before a0 Z = true) (h : Heap) (n0 : Nat) (Z0 : n0 ≤ h.size) (qi1 : Int32) (B_qi1 : 0 ≤ qi1.toInt ∧ qi1.toInt ≤ 9) :
    Con l Z (⟨"java/lang/Integer", "stringSize", "(I)I"⟩ : MethodName) jdk_33_method_13_code 4 (some .int) ⟨0, 0, 0, 0⟩ #[(.int qi1)] h (fun v h' L => v = some (.int ((1 : Int32) + (0 : Int32))) ∧ L = [] ∧ h' = h) := by
  refine con_of_goF kk_68 (fun m => kk_67 m qi1) ?_
  intro p e s m below meth c T0 C X0 e0
  refine g_iconst C X0 (pc' := 1) d30_0 (v := (1 : Int32)) (by decide) rfl ?_
  refine g_istoreN C X0 (pc' := 2) d30_1 (x := (1 : Int32)) rfl (l' := #[.val (.int qi1), .val (.int (1 : Int32)), .unset, .unset]) rfl rfl ?_
  refine g_iloadN C X0 (pc' := 3) d30_2 rfl rfl ?_
  refine g_ifN C X0 d30_3 (by have q0 := B_qi1; have q1 : (0 : Int32).toInt = 0 := (by decide); unfold cpI; omega) rfl ?_
  refine g_iconst C X0 (pc' := 7) d30_6 (v := (0 : Int32)) (by decide) rfl ?_
  refine g_istoreN C X0 (pc' := 8) d30_7 (x := (0 : Int32)) rfl (l' := #[.val (.int qi1), .val (.int (0 : Int32)), .unset, .unset]) rfl rfl ?_
  refine g_iloadN C X0 (pc' := 9) d30_8 rfl rfl ?_
  refine g_ineg C X0 (pc' := 10) d30_9 rfl ?_
  obtain ⟨i1, e_i1⟩ : ∃ z : Int32, z = -qi1 := ⟨_, rfl⟩
  have b_i1 : -9 ≤ i1.toInt ∧ i1.toInt ≤ 0 := by rw [e_i1]; exact (own_nb B_qi1 (by decide))
  refine g_istoreN C X0 (pc' := 11) d30_10 (x := i1) e_i1 (l' := #[.val (.int i1), .val (.int (0 : Int32)), .unset, .unset]) rfl rfl ?_
  refine g_bipush C X0 (pc' := 13) d30_11 (v := (-10 : Int32)) (by decide) rfl ?_
  refine g_istoreN C X0 (pc' := 14) d30_13 (x := (-10 : Int32)) rfl (l' := #[.val (.int i1), .val (.int (0 : Int32)), .val (.int (-10 : Int32)), .unset]) rfl rfl ?_
  refine g_iconst C X0 (pc' := 15) d30_14 (v := (1 : Int32)) (by decide) rfl ?_
  refine g_istoreN C X0 (pc' := 16) d30_15 (x := (1 : Int32)) rfl (l' := #[.val (.int i1), .val (.int (0 : Int32)), .val (.int (-10 : Int32)), .val (.int (1 : Int32))]) rfl rfl ?_
  refine g_iloadN C X0 (pc' := 17) d30_16 rfl rfl ?_
  refine g_bipush C X0 (pc' := 19) d30_17 (v := (10 : Int32)) (by decide) rfl ?_
  refine g_icmpN C X0 d30_19 (by decide) rfl ?_
  refine g_iloadN C X0 (pc' := 23) d30_22 rfl rfl ?_
  refine g_iloadN C X0 (pc' := 24) d30_23 rfl rfl ?_
  refine g_icmpN C X0 d30_24 (by have q0 := b_i1; have q1 : (-10 : Int32).toInt = -10 := (by decide); unfold cpI; omega) rfl ?_
  refine g_iloadN C X0 (pc' := 28) d30_27 rfl rfl ?_
  refine g_iloadN C X0 (pc' := 29) d30_28 rfl rfl ?_
  refine g_iadd C X0 (pc' := 30) d30_29 rfl ?_
  exact g_ireturn C X0 d30_30 (⟨rfl, rfl, e0⟩) (by decide) (by decide)
theorem kk_69 : parseMethodDescriptor "(I)I" = some ⟨[.int], (some .int)⟩ := by decide +kernel
set_option maxRecDepth 65536 in
set_option maxHeartbeats 40000000 in
theorem k20_ensureCapacityInternal (l : Launch) (Z : State) (a0 : Array Value) (hw : ∀ d ∈ tables_1, d.before a0 Z = true) (h : Heap) (n0 : Nat) (Z0 : n0 ≤ h.size) (qa1 : Addr) (qa2 : Addr) (qw1 : Value) (qw2 : Value) (qw3 : Value) (qw4 : Value) (qw5 : Value) (qw6 : Value) (qk1 : ClassId) (H1 : Fld Z h qa1 "java/lang/AbstractStringBuilder" "value" "[B" (.ref qa2)) (H2 : Fld Z h qa1 "java/lang/AbstractStringBuilder" "coder" "B" (.int (0 : Int32))) (H3 : Arv Z h qa2 qk1 .byte (16 : Int32) [qw1, qw2, qw3, qw4, qw2, qw5, qw3, qw6, qw2] (.int (0 : Int32))) :
    Con l Z (⟨"java/lang/AbstractStringBuilder", "ensureCapacityInternal", "(I)V"⟩ : MethodName) jdk_68_method_9_code 3 none ⟨0, 0, 0, 0⟩ #[(.ref qa1), (.int (10 : Int32))] h (fun v h' L => v = none ∧ L = [] ∧ h' = h) := by
  refine con_of_goF kk_50 (fun m => kk_49 m qa1 (10 : Int32)) ?_
  intro p e s m below meth c T0 C X0 e0
  refine g_aloadN C X0 (pc' := 1) d24_0 rfl rfl rfl ?_
  refine g_getF C X0 (host := "") (Or.inl (hw _ (List.mem_of_getElem? (i := 142) rfl))) Via.refl e0 H1 d24_1 rfl ?_
  intro T1 X1 e1
  refine g_len C X1 (pc' := 5) e1 H3 d24_4 rfl ?_
  refine g_aloadN C X1 (pc' := 6) d24_5 rfl rfl rfl ?_
  refine g_getF C X1 (host := "") (Or.inl (hw _ (List.mem_of_getElem? (i := 144) rfl))) Via.refl e1 H2 d24_6 rfl ?_
  intro T2 X2 e2
  refine g_ishr C X2 (pc' := 10) d24_9 rfl ?_
  refine g_istoreN C X2 (pc' := 11) d24_10 (x := (16 : Int32)) (by decide) (l' := #[.val (.ref qa1), .val (.int (10 : Int32)), .val (.int (16 : Int32))]) rfl rfl ?_
  refine g_iloadN C X2 (pc' := 12) d24_11 rfl rfl ?_
  refine g_iloadN C X2 (pc' := 13) d24_12 rfl rfl ?_
  refine g_isub C X2 (pc' := 14) d24_13 rfl ?_
  refine g_ifY C X2 d24_14 (pc' := 38) (by decide) (by decide) (by decide) ?_
  exact g_return C X2 d24_38 (⟨rfl, rfl, e2⟩) (by decide) (by decide)
theorem d31_0 : decode jdk_68_method_68_code 0 = .ok (.getstatic 18, 3) := by decide +kernel
theorem d31_3 : decode jdk_68_method_68_code 3 = .ok (.ifCond .eq 14, 3) := by decide +kernel
theorem d31_6 : decode jdk_68_method_68_code 6 = .ok (.aload_n 0, 1) := by decide +kernel
theorem d31_7 : decode jdk_68_method_68_code 7 = .ok (.getfield 22, 3) := by decide +kernel
theorem d31_10 : decode jdk_68_method_68_code 10 = .ok (.ifCond .ne 7, 3) := by decide +kernel
theorem d31_13 : decode jdk_68_method_68_code 13 = .ok (.iconst 1, 1) := by decide +kernel
theorem d31_14 : decode jdk_68_method_68_code 14 = .ok (.goto 4, 3) := by decide +kernel
theorem d31_17 : decode jdk_68_method_68_code 17 = .ok (.iconst 0, 1) := by decide +kernel
theorem d31_18 : decode jdk_68_method_68_code 18 = .ok (.ireturn, 1) := by decide +kernel
theorem kk_70 (m : MethodId) (x0 : Addr) : entryFrame m #[(.ref x0)] 1 = mkF m 0 #[.val (.ref x0)] [] := by first | (simp [entryFrame, mkF, argsToLocals, Value.category]; done) | rfl
theorem kk_71 : plainFor (⟨"java/lang/AbstractStringBuilder", "isLatin1", "()Z"⟩ : MethodName) = true := by decide +kernel
set_option maxRecDepth 65536 in
set_option maxHeartbeats 40000000 in
theorem k21_isLatin1 (l : Launch) (Z : State) (a0 : Array Value) (hw : ∀ d ∈ tables_1, d.before a0 Z = true) (h : Heap) (n0 : Nat) (Z0 : n0 ≤ h.size) (qa1 : Addr) (qi1 : Int32) (C0_qi1 : ¬ (qi1.toInt = 0)) (H1 : Sta Z h "java/lang/String" "COMPACT_STRINGS" "Z" (.int qi1)) (H2 : Fld Z h qa1 "java/lang/AbstractStringBuilder" "coder" "B" (.int (0 : Int32))) :
    Con l Z (⟨"java/lang/AbstractStringBuilder", "isLatin1", "()Z"⟩ : MethodName) jdk_68_method_68_code 1 (some .boolean) ⟨0, 0, 0, 0⟩ #[(.ref qa1)] h (fun v h' L => v = some (.int (1 : Int32)) ∧ L = [] ∧ h' = h) := by
  refine con_of_goF kk_71 (fun m => kk_70 m qa1) ?_
  intro p e s m below meth c T0 C X0 e0
  refine g_getS C X0 (hw _ (List.mem_of_getElem? (i := 139) rfl)) Via.refl e0 H1 d31_0 rfl ?_
  intro T1 X1 e1
  refine g_ifN C X1 d31_3 (C0_qi1) rfl ?_
  refine g_aloadN C X1 (pc' := 7) d31_6 rfl rfl rfl ?_
  refine g_getF C X1 (host := "") (Or.inl (hw _ (List.mem_of_getElem? (i := 144) rfl))) Via.refl e1 H2 d31_7 rfl ?_
  intro T2 X2 e2
  refine g_ifN C X2 d31_10 (by decide) rfl ?_
  refine g_iconst C X2 (pc' := 14) d31_13 (v := (1 : Int32)) (by decide) rfl ?_
  refine g_goto C X2 d31_14 (pc' := 18) (by decide) (by decide) ?_
  exact g_zreturn C X2 d31_18 (w := (1 : Int32)) (by decide) (⟨rfl, rfl, e2⟩) (by decide) (by decide)
theorem kk_72 : parseMethodDescriptor "()Z" = some ⟨[], (some .boolean)⟩ := by decide +kernel
theorem d32_0 : decode jdk_33_method_12_code 0 = .ok (.iload_n 1, 1) := by decide +kernel
theorem d32_1 : decode jdk_33_method_12_code 1 = .ok (.istore 5, 2) := by decide +kernel
theorem d32_3 : decode jdk_33_method_12_code 3 = .ok (.iload_n 0, 1) := by decide +kernel
theorem d32_4 : decode jdk_33_method_12_code 4 = .ok (.ifCond .ge 7, 3) := by decide +kernel
theorem d32_7 : decode jdk_33_method_12_code 7 = .ok (.iconst 1, 1) := by decide +kernel
theorem d32_8 : decode jdk_33_method_12_code 8 = .ok (.goto 4, 3) := by decide +kernel
theorem d32_11 : decode jdk_33_method_12_code 11 = .ok (.iconst 0, 1) := by decide +kernel
theorem d32_12 : decode jdk_33_method_12_code 12 = .ok (.istore 6, 2) := by decide +kernel
theorem d32_14 : decode jdk_33_method_12_code 14 = .ok (.iload 6, 2) := by decide +kernel
theorem d32_16 : decode jdk_33_method_12_code 16 = .ok (.ifCond .ne 6, 3) := by decide +kernel
theorem d32_19 : decode jdk_33_method_12_code 19 = .ok (.iload_n 0, 1) := by decide +kernel
theorem d32_20 : decode jdk_33_method_12_code 20 = .ok (.ineg, 1) := by decide +kernel
theorem d32_21 : decode jdk_33_method_12_code 21 = .ok (.istore_n 0, 1) := by decide +kernel
theorem d32_22 : decode jdk_33_method_12_code 22 = .ok (.iload_n 0, 1) := by decide +kernel
theorem d32_23 : decode jdk_33_method_12_code 23 = .ok (.bipush (-100), 2) := by decide +kernel
theorem d32_25 : decode jdk_33_method_12_code 25 = .ok (.if_icmp .gt 47, 3) := by decide +kernel
theorem d32_28 : decode jdk_33_method_12_code 28 = .ok (.iload_n 0, 1) := by decide +kernel
theorem d32_29 : decode jdk_33_method_12_code 29 = .ok (.bipush 100, 2) := by decide +kernel
theorem d32_31 : decode jdk_33_method_12_code 31 = .ok (.idiv, 1) := by decide +kernel
theorem d32_32 : decode jdk_33_method_12_code 32 = .ok (.istore_n 3, 1) := by decide +kernel
theorem d32_33 : decode jdk_33_method_12_code 33 = .ok (.iload_n 3, 1) := by decide +kernel
theorem d32_34 : decode jdk_33_method_12_code 34 = .ok (.bipush 100, 2) := by decide +kernel
theorem d32_36 : decode jdk_33_method_12_code 36 = .ok (.imul, 1) := by decide +kernel
theorem d32_37 : decode jdk_33_method_12_code 37 = .ok (.iload_n 0, 1) := by decide +kernel
theorem d32_38 : decode jdk_33_method_12_code 38 = .ok (.isub, 1) := by decide +kernel
theorem d32_39 : decode jdk_33_method_12_code 39 = .ok (.istore 4, 2) := by decide +kernel
theorem d32_41 : decode jdk_33_method_12_code 41 = .ok (.iload_n 3, 1) := by decide +kernel
theorem d32_42 : decode jdk_33_method_12_code 42 = .ok (.istore_n 0, 1) := by decide +kernel
theorem d32_43 : decode jdk_33_method_12_code 43 = .ok (.aload_n 2, 1) := by decide +kernel
theorem d32_44 : decode jdk_33_method_12_code 44 = .ok (.iinc 5 (-1), 3) := by decide +kernel
theorem d32_47 : decode jdk_33_method_12_code 47 = .ok (.iload 5, 2) := by decide +kernel
theorem d32_49 : decode jdk_33_method_12_code 49 = .ok (.getstatic 83, 3) := by decide +kernel
theorem d32_52 : decode jdk_33_method_12_code 52 = .ok (.iload 4, 2) := by decide +kernel
theorem d32_54 : decode jdk_33_method_12_code 54 = .ok (.baload, 1) := by decide +kernel
theorem d32_55 : decode jdk_33_method_12_code 55 = .ok (.bastore, 1) := by decide +kernel
theorem d32_56 : decode jdk_33_method_12_code 56 = .ok (.aload_n 2, 1) := by decide +kernel
theorem d32_57 : decode jdk_33_method_12_code 57 = .ok (.iinc 5 (-1), 3) := by decide +kernel
theorem d32_60 : decode jdk_33_method_12_code 60 = .ok (.iload 5, 2) := by decide +kernel
theorem d32_62 : decode jdk_33_method_12_code 62 = .ok (.getstatic 87, 3) := by decide +kernel
theorem d32_65 : decode jdk_33_method_12_code 65 = .ok (.iload 4, 2) := by decide +kernel
theorem d32_67 : decode jdk_33_method_12_code 67 = .ok (.baload, 1) := by decide +kernel
theorem d32_68 : decode jdk_33_method_12_code 68 = .ok (.bastore, 1) := by decide +kernel
theorem d32_69 : decode jdk_33_method_12_code 69 = .ok (.goto (-47), 3) := by decide +kernel
theorem d32_72 : decode jdk_33_method_12_code 72 = .ok (.aload_n 2, 1) := by decide +kernel
theorem d32_73 : decode jdk_33_method_12_code 73 = .ok (.iinc 5 (-1), 3) := by decide +kernel
theorem d32_76 : decode jdk_33_method_12_code 76 = .ok (.iload 5, 2) := by decide +kernel
theorem d32_78 : decode jdk_33_method_12_code 78 = .ok (.getstatic 83, 3) := by decide +kernel
theorem d32_81 : decode jdk_33_method_12_code 81 = .ok (.iload_n 0, 1) := by decide +kernel
theorem d32_82 : decode jdk_33_method_12_code 82 = .ok (.ineg, 1) := by decide +kernel
theorem d32_83 : decode jdk_33_method_12_code 83 = .ok (.baload, 1) := by decide +kernel
theorem d32_84 : decode jdk_33_method_12_code 84 = .ok (.bastore, 1) := by decide +kernel
theorem d32_85 : decode jdk_33_method_12_code 85 = .ok (.iload_n 0, 1) := by decide +kernel
theorem d32_86 : decode jdk_33_method_12_code 86 = .ok (.bipush (-9), 2) := by decide +kernel
theorem d32_88 : decode jdk_33_method_12_code 88 = .ok (.if_icmp .ge 16, 3) := by decide +kernel
theorem d32_91 : decode jdk_33_method_12_code 91 = .ok (.aload_n 2, 1) := by decide +kernel
theorem d32_92 : decode jdk_33_method_12_code 92 = .ok (.iinc 5 (-1), 3) := by decide +kernel
theorem d32_95 : decode jdk_33_method_12_code 95 = .ok (.iload 5, 2) := by decide +kernel
theorem d32_97 : decode jdk_33_method_12_code 97 = .ok (.getstatic 87, 3) := by decide +kernel
theorem d32_100 : decode jdk_33_method_12_code 100 = .ok (.iload_n 0, 1) := by decide +kernel
theorem d32_101 : decode jdk_33_method_12_code 101 = .ok (.ineg, 1) := by decide +kernel
theorem d32_102 : decode jdk_33_method_12_code 102 = .ok (.baload, 1) := by decide +kernel
theorem d32_103 : decode jdk_33_method_12_code 103 = .ok (.bastore, 1) := by decide +kernel
theorem d32_104 : decode jdk_33_method_12_code 104 = .ok (.iload 6, 2) := by decide +kernel
theorem d32_106 : decode jdk_33_method_12_code 106 = .ok (.ifCond .eq 12, 3) := by decide +kernel
theorem d32_109 : decode jdk_33_method_12_code 109 = .ok (.aload_n 2, 1) := by decide +kernel
theorem d32_110 : decode jdk_33_method_12_code 110 = .ok (.iinc 5 (-1), 3) := by decide +kernel
theorem d32_113 : decode jdk_33_method_12_code 113 = .ok (.iload 5, 2) := by decide +kernel
theorem d32_115 : decode jdk_33_method_12_code 115 = .ok (.bipush 45, 2) := by decide +kernel
theorem d32_117 : decode jdk_33_method_12_code 117 = .ok (.bastore, 1) := by decide +kernel
theorem d32_118 : decode jdk_33_method_12_code 118 = .ok (.iload 5, 2) := by decide +kernel
theorem d32_120 : decode jdk_33_method_12_code 120 = .ok (.ireturn, 1) := by decide +kernel
theorem kk_73 (m : MethodId) (x0 : Int32) (x1 : Int32) (x2 : Addr) : entryFrame m #[(.int x0), (.int x1), (.ref x2)] 7 = mkF m 0 #[.val (.int x0), .val (.int x1), .val (.ref x2), .unset, .unset, .unset, .unset] [] := by first | (simp [entryFrame, mkF, argsToLocals, Value.category]; done) | rfl
theorem kk_74 : plainFor (⟨"java/lang/Integer", "getChars", "(II[B)I"⟩ : MethodName) = true := by decide +kernel
set_option maxRecDepth 65536 in
set_option maxHeartbeats 40000000 in
theorem k22_getChars (l : Launch) (Z : State) (a0 : Array Value) (hw : ∀ d ∈ tables_1, d.before a0 Z = true) (h : Heap) (n0 : Nat) (Z0 : n0 ≤ h.size) (qi1 : Int32) (qa1 : Addr) (qa2 : Addr) (qk1 : ClassId) (z_qa1 : n0 ≤ qa1) (ne_qa1_qa2 : qa1 ≠ qa2) (B_qi1 : 0 ≤ qi1.toInt ∧ qi1.toInt ≤ 9) (H1 : Sta Z h "java/lang/Integer" "DigitOnes" "[B" (.ref qa2)) (H2 : Exa Z h qa1 "[B") (H3 : Arv Z h qa1 qk1 .byte (16 : Int32) [(.int (98 : Int32)), (.int (32 : Int32)), (.int (111 : Int32)), (.int (102 : Int32)), (.int (32 : Int32)), (.int (114 : Int32)), (.int (111 : Int32)), (.int (119 : Int32)), (.int (32 : Int32))] (.int (0 : Int32))) (H4 : BArr Z h qa2) :
    Con l Z (⟨"java/lang/Integer", "getChars", "(II[B)I"⟩ : MethodName) jdk_33_method_12_code 7 (some .int) ⟨0, 0, 0, 0⟩ #[(.int qi1), (.int (10 : Int32)), (.ref qa1)] h (fun v h' L => ∃ (uv1 : Int32), v = some (.int (9 : Int32)) ∧ Fr n0 L ∧ Keep h h' [qa1] ∧ Exa Z h' qa1 "[B" ∧ Arv Z h' qa1 qk1 .byte (16 : Int32) [(.int (98 : Int32)), (.int (32 : Int32)), (.int (111 : Int32)), (.int (102 : Int32)), (.int (32 : Int32)), (.int (114 : Int32)), (.int (111 : Int32)), (.int (119 : Int32)), (.int (32 : Int32)), (.int uv1)] (.int (0 : Int32))) := by
  refine con_of_goF kk_74 (fun m => kk_73 m qi1 (10 : Int32) qa1) ?_
  intro p e s m below meth c T0 C X0 e0
  refine g_iloadN C X0 (pc' := 1) d32_0 rfl rfl ?_
  refine g_istore C X0 (pc' := 3) d32_1 (x := (10 : Int32)) rfl (l' := #[.val (.int qi1), .val (.int (10 : Int32)), .val (.ref qa1), .unset, .unset, .val (.int (10 : Int32)), .unset]) rfl rfl ?_
  refine g_iloadN C X0 (pc' := 4) d32_3 rfl rfl ?_
  refine g_ifY C X0 d32_4 (pc' := 11) (by decide) (by decide) (by have q0 := B_qi1; have q1 : (0 : Int32).toInt = 0 := (by decide); unfold cpI; omega) ?_
  refine g_iconst C X0 (pc' := 12) d32_11 (v := (0 : Int32)) (by decide) rfl ?_
  refine g_istore C X0 (pc' := 14) d32_12 (x := (0 : Int32)) rfl (l' := #[.val (.int qi1), .val (.int (10 : Int32)), .val (.ref qa1), .unset, .unset, .val (.int (10 : Int32)), .val (.int (0 : Int32))]) rfl rfl ?_
  refine g_iload C X0 (pc' := 16) d32_14 rfl rfl ?_
  refine g_ifN C X0 d32_16 (by decide) rfl ?_
  refine g_iloadN C X0 (pc' := 20) d32_19 rfl rfl ?_
  refine g_ineg C X0 (pc' := 21) d32_20 rfl ?_
  obtain ⟨i1, e_i1⟩ : ∃ z : Int32, z = -qi1 := ⟨_, rfl⟩
  have b_i1 : -9 ≤ i1.toInt ∧ i1.toInt ≤ 0 := by rw [e_i1]; exact (own_nb B_qi1 (by decide))
  refine g_istoreN C X0 (pc' := 22) d32_21 (x := i1) e_i1 (l' := #[.val (.int i1), .val (.int (10 : Int32)), .val (.ref qa1), .unset, .unset, .val (.int (10 : Int32)), .val (.int (0 : Int32))]) rfl rfl ?_
  refine g_iloadN C X0 (pc' := 23) d32_22 rfl rfl ?_
  refine g_bipush C X0 (pc' := 25) d32_23 (v := (-100 : Int32)) (by decide) rfl ?_
  refine g_icmpY C X0 d32_25 (pc' := 72) (by decide) (by decide) (by have q0 := b_i1; have q1 : (-100 : Int32).toInt = -100 := (by decide); unfold cpI; omega) ?_
  refine g_aloadN C X0 (pc' := 73) d32_72 rfl rfl rfl ?_
  refine g_iinc C X0 (pc' := 76) d32_73 rfl (z := (9 : Int32)) (by decide) (l' := #[.val (.int i1), .val (.int (10 : Int32)), .val (.ref qa1), .unset, .unset, .val (.int (9 : Int32)), .val (.int (0 : Int32))]) rfl rfl ?_
  refine g_iload C X0 (pc' := 78) d32_76 rfl rfl ?_
  refine g_getS C X0 (hw _ (List.mem_of_getElem? (i := 220) rfl)) Via.refl e0 H1 d32_78 rfl ?_
  intro T1 X1 e1
  refine g_iloadN C X1 (pc' := 82) d32_81 rfl rfl ?_
  refine g_ineg C X1 (pc' := 83) d32_82 rfl ?_
  refine g_baloadU C X1 (pc' := 84) e1 H4 (by have q := (own_nb b_i1 (by decide)); omega) d32_83 rfl ?_
  intro w2 nb2
  refine g_bastore C X1 (pc' := 85) nb2 e1 H3 (by decide) (by decide) 9 1 (by decide) (of_decide_eq_true rfl) d32_84 rfl ?_
  intro T3 h3 X3 e3 W3 Aq
  have H1 := H1.wr W3
  have H2 := H2.wr W3
  have H4 := H4.other W3 (Ne.symm ne_qa1_qa2)
  have Z3 : n0 ≤ h3.size := by rw [W3.size]; exact Z0
  have N3 := Fr.snoc X3 (Fr.nil n0) z_qa1
  have P3 := (Keep.refl h [qa1]).wr W3 (Or.inl (List.mem_of_getElem? (i := 0) rfl))
  have H3 : Arv Z h3 qa1 qk1 .byte (16 : Int32) [(.int (98 : Int32)), (.int (32 : Int32)), (.int (111 : Int32)), (.int (102 : Int32)), (.int (32 : Int32)), (.int (114 : Int32)), (.int (111 : Int32)), (.int (119 : Int32)), (.int (32 : Int32)), (.int w2)] (.int (0 : Int32)) := Aq
  refine g_iloadN C X3 (pc' := 86) d32_85 rfl rfl ?_
  refine g_bipush C X3 (pc' := 88) d32_86 (v := (-9 : Int32)) (by decide) rfl ?_
  refine g_icmpY C X3 d32_88 (pc' := 104) (by decide) (by decide) (by have q0 := b_i1; have q1 : (-9 : Int32).toInt = -9 := (by decide); unfold cpI; omega) ?_
  refine g_iload C X3 (pc' := 106) d32_104 rfl rfl ?_
  refine g_ifY C X3 d32_106 (pc' := 118) (by decide) (by decide) (by decide) ?_
  refine g_iload C X3 (pc' := 120) d32_118 rfl rfl ?_
  exact g_ireturn C X3 d32_120 (⟨w2, rfl, N3, by rw [e3]; exact P3, by rw [e3]; exact H2, by rw [e3]; exact H3⟩) (by decide) (by decide)
theorem kk_75 : parseMethodDescriptor "(II[B)I" = some ⟨[.int, .int, (.array .byte)], (some .int)⟩ := by decide +kernel
theorem kk_76 (m : MethodId) (x0 : Addr) (x1 : Int32) : entryFrame m #[(.ref x0), (.int x1)] 4 = mkF m 0 #[.val (.ref x0), .val (.int x1), .unset, .unset] [] := by first | (simp [entryFrame, mkF, argsToLocals, Value.category]; done) | rfl
theorem kk_77 : plainFor (⟨"java/lang/AbstractStringBuilder", "append", "(I)Ljava/lang/AbstractStringBuilder;"⟩ : MethodName) = true := by decide +kernel
set_option maxRecDepth 65536 in
set_option maxHeartbeats 40000000 in
theorem k23_append (l : Launch) (Z : State) (a0 : Array Value) (hw : ∀ d ∈ tables_1, d.before a0 Z = true) (h : Heap) (n0 : Nat) (Z0 : n0 ≤ h.size) (qa1 : Addr) (qi1 : Int32) (qi2 : Int32) (qa2 : Addr) (qa3 : Addr) (qk1 : ClassId) (z_qa1 : n0 ≤ qa1) (z_qa3 : n0 ≤ qa3) (ne_qa1_qa2 : qa1 ≠ qa2) (ne_qa1_qa3 : qa1 ≠ qa3) (ne_qa2_qa3 : qa2 ≠ qa3) (B_qi1 : 0 ≤ qi1.toInt ∧ qi1.toInt ≤ 9) (C0_qi2 : ¬ (qi2.toInt = 0)) (H1 : Sta Z h "java/lang/String" "COMPACT_STRINGS" "Z" (.int qi2)) (H2 : Sta Z h "java/lang/Integer" "DigitOnes" "[B" (.ref qa2)) (H3 : Exa Z h qa1 "java/lang/StringBuilder") (H4 : Fld Z h qa1 "java/lang/AbstractStringBuilder" "value" "[B" (.ref qa3)) (H5 : Fld Z h qa1 "java/lang/AbstractStringBuilder" "coder" "B" (.int (0 : Int32))) (H6 : Fld Z h qa1 "java/lang/AbstractStringBuilder" "count" "I" (.int (9 : Int32))) (H7 : BArr Z h qa2) (H8 : Exa Z h qa3 "[B") (H9 : Arv Z h qa3 qk1 .byte (16 : Int32) [(.int (98 : Int32)), (.int (32 : Int32)), (.int (111 : Int32)), (.int (102 : Int32)), (.int (32 : Int32)), (.int (114 : Int32)), (.int (111 : Int32)), (.int (119 : Int32)), (.int (32 : Int32))] (.int (0 : Int32))) :
    Con l Z (⟨"java/lang/AbstractStringBuilder", "append", "(I)Ljava/lang/AbstractStringBuilder;"⟩ : MethodName) jdk_68_method_32_code 4 (some (.object "java/lang/AbstractStringBuilder")) ⟨1, 0, 0, 18⟩ #[(.ref qa1), (.int qi1)] h (fun v h' L => ∃ (uv1 : Int32), v = some (.ref qa1) ∧ Fr n0 L ∧ Keep h h' [qa1, qa3] ∧ Exa Z h' qa1 "java/lang/StringBuilder" ∧ Fld Z h' qa1 "java/lang/AbstractStringBuilder" "value" "[B" (.ref qa3) ∧ Fld Z h' qa1 "java/lang/AbstractStringBuilder" "coder" "B" (.int (0 : Int32)) ∧ Fld Z h' qa1 "java/lang/AbstractStringBuilder" "count" "I" (.int (10 : Int32)) ∧ Exa Z h' qa3 "[B" ∧ Arv Z h' qa3 qk1 .byte (16 : Int32) [(.int (98 : Int32)), (.int (32 : Int32)), (.int (111 : Int32)), (.int (102 : Int32)), (.int (32 : Int32)), (.int (114 : Int32)), (.int (111 : Int32)), (.int (119 : Int32)), (.int (32 : Int32)), (.int uv1)] (.int (0 : Int32))) := by
  refine con_of_goF kk_77 (fun m => kk_76 m qa1 qi1) ?_
  intro p e s m below meth c T0 C X0 e0
  refine g_aloadN C X0 (pc' := 1) d29_0 rfl rfl rfl ?_
  refine g_getF C X0 (host := "") (Or.inl (hw _ (List.mem_of_getElem? (i := 175) rfl))) Via.refl e0 H6 d29_1 rfl ?_
  intro T1 X1 e1
  refine g_istoreN C X1 (pc' := 5) d29_4 (x := (9 : Int32)) rfl (l' := #[.val (.ref qa1), .val (.int qi1), .val (.int (9 : Int32)), .unset]) rfl rfl ?_
  refine g_iloadN C X1 (pc' := 6) d29_5 rfl rfl ?_
  refine g_iloadN C X1 (pc' := 7) d29_6 rfl rfl ?_
  refine g_callS C X1 (k19_stringSize l Z a0 hw h n0 Z0  qi1   B_qi1 ) (hw _ (List.mem_of_getElem? (i := 208) rfl)) (hw _ (List.mem_of_getElem? (i := 209) rfl)) (hw _ (List.mem_of_getElem? (i := 210) rfl)) (hw _ (List.mem_of_getElem? (i := 211) rfl)) (by decide) e1 d29_7 rfl kk_69 [(.int qi1)] [(.int (9 : Int32))] rfl rfl rfl 1 rfl (by decide) (by decide) (by decide) (by decide) rfl ?_
  rintro _ T2 _ X2 ⟨rfl, rfl, e2⟩
  rw [List.append_nil] at X2
  show Go p.tables e below _ T2 (mkF m 10 #[.val (.ref qa1), .val (.int qi1), .val (.int (9 : Int32)), .unset] [(.int ((1 : Int32) + (0 : Int32))), (.int (9 : Int32))])
  refine g_iadd C X2 (pc' := 11) d29_10 rfl ?_
  refine g_istoreN C X2 (pc' := 12) d29_11 (x := (10 : Int32)) (by decide) (l' := #[.val (.ref qa1), .val (.int qi1), .val (.int (9 : Int32)), .val (.int (10 : Int32))]) rfl rfl ?_
  refine g_aloadN C X2 (pc' := 13) d29_12 rfl rfl rfl ?_
  refine g_iloadN C X2 (pc' := 14) d29_13 rfl rfl ?_
  refine g_callPS C X2 (k20_ensureCapacityInternal l Z a0 hw h n0 Z0  qa1 qa3 (.int (98 : Int32)) (.int (32 : Int32)) (.int (111 : Int32)) (.int (102 : Int32)) (.int (114 : Int32)) (.int (119 : Int32)) qk1    H4 H5 H9) (hw _ (List.mem_of_getElem? (i := 177) rfl)) (hw _ (List.mem_of_getElem? (i := 179) rfl)) (hw _ (List.mem_of_getElem? (i := 180) rfl)) (hw _ (List.mem_of_getElem? (i := 178) rfl)) (hw _ (List.mem_of_getElem? (i := 136) rfl)) (hw _ (List.mem_of_getElem? (i := 181) rfl)) (by decide) e2 H3 d29_14 rfl kk_51 [(.int (10 : Int32))] [] rfl rfl rfl 0 rfl (by decide) (by decide) (by decide) (by decide) rfl ?_
  rintro _ T3 _ X3 ⟨rfl, rfl, e3⟩
  rw [List.append_nil] at X3
  show Go p.tables e below _ T3 (mkF m 17 #[.val (.ref qa1), .val (.int qi1), .val (.int (9 : Int32)), .val (.int (10 : Int32))] [])
  refine g_aloadN C X3 (pc' := 18) d29_17 rfl rfl rfl ?_
  refine g_callV C X3 (k21_isLatin1 l Z a0 hw h n0 Z0  qa1 qi2   C0_qi2 H1 H5) (hw _ (List.mem_of_getElem? (i := 212) rfl)) (hw _ (List.mem_of_getElem? (i := 213) rfl)) (hw _ (List.mem_of_getElem? (i := 215) rfl)) (hw _ (List.mem_of_getElem? (i := 214) rfl)) (hw _ (List.mem_of_getElem? (i := 136) rfl)) (hw _ (List.mem_of_getElem? (i := 216) rfl)) (by decide) e3 H3 d29_18 rfl kk_72 [] [] rfl rfl rfl 0 rfl (by decide) (by decide) (by decide) (by decide) rfl ?_
  rintro _ T4 _ X4 ⟨rfl, rfl, e4⟩
  rw [List.append_nil] at X4
  show Go p.tables e below _ T4 (mkF m 21 #[.val (.ref qa1), .val (.int qi1), .val (.int (9 : Int32)), .val (.int (10 : Int32))] [(.int (1 : Int32))])
  refine g_ifN C X4 d29_21 (by decide) rfl ?_
  refine g_iloadN C X4 (pc' := 25) d29_24 rfl rfl ?_
  refine g_iloadN C X4 (pc' := 26) d29_25 rfl rfl ?_
  refine g_aloadN C X4 (pc' := 27) d29_26 rfl rfl rfl ?_
  refine g_getF C X4 (host := "") (Or.inl (hw _ (List.mem_of_getElem? (i := 142) rfl))) Via.refl e4 H4 d29_27 rfl ?_
  intro T5 X5 e5
  refine g_callS C X5 (k22_getChars l Z a0 hw h n0 Z0  qi1 qa3 qa2 qk1 z_qa3 (Ne.symm ne_qa2_qa3) B_qi1 H2 H8 H9 H7) (hw _ (List.mem_of_getElem? (i := 217) rfl)) (hw _ (List.mem_of_getElem? (i := 218) rfl)) (hw _ (List.mem_of_getElem? (i := 210) rfl)) (hw _ (List.mem_of_getElem? (i := 219) rfl)) (by decide) e5 d29_30 rfl kk_75 [(.int qi1), (.int (10 : Int32)), (.ref qa3)] [] rfl rfl rfl 0 rfl (by decide) (by decide) (by decide) (by decide) rfl ?_
  rintro _ T6 L6 X6 ⟨ri1, rfl, M6, K6, FF2, FF3⟩
  have H1 := staKeep H1 K6 (alc H8.nostat al0)
  have H2 := staKeep H2 K6 (alc H8.nostat al0)
  have H3 := H3.keep K6
  have H4 := H4.keep K6 (ninS ne_qa1_qa3 nin0)
  have H5 := H5.keep K6 (ninS ne_qa1_qa3 nin0)
  have H6 := H6.keep K6 (ninS ne_qa1_qa3 nin0)
  have H7 := H7.keep K6 (ninS ne_qa2_qa3 nin0)
  have Z6 : n0 ≤ T6.heap.size := Nat.le_trans Z0 K6.1
  have P6 := (Keep.refl h [qa1, qa3]).trans K6 (alc (Or.inl (List.mem_of_getElem? (i := 1) rfl)) al0)
  have N6 := Fr.app (Fr.nil n0) M6
  obtain ⟨h6, e6⟩ : ∃ z, T6.heap = z := ⟨_, rfl⟩
  rw [e6] at H1 H2 H3 H4 H5 H6 H7 FF2 FF3 Z6 P6
  show Go p.tables e below _ T6 (mkF m 33 #[.val (.ref qa1), .val (.int qi1), .val (.int (9 : Int32)), .val (.int (10 : Int32))] [(.int (9 : Int32))])
  refine g_pop C X6 (pc' := 34) d29_33 rfl rfl ?_
  refine g_goto C X6 d29_34 (pc' := 48) (by decide) (by decide) ?_
  refine g_aloadN C X6 (pc' := 49) d29_48 rfl rfl rfl ?_
  refine g_iloadN C X6 (pc' := 50) d29_49 rfl rfl ?_
  refine g_putF C X6 (host := "") (Or.inl (hw _ (List.mem_of_getElem? (i := 175) rfl))) Via.refl e6 H6 H3 (Or.inl (hw _ (List.mem_of_getElem? (i := 176) rfl))) (hw _ (List.mem_of_getElem? (i := 127) rfl)) (ty := .int) (by decide) rfl rfl d29_50 rfl ?_
  intro T7 h7 X7 e7 W7
  have H1 := H1.wr W7
  have H2 := H2.wr W7
  have H3 := H3.wr W7
  have H4 := H4.other W7 (Or.inr (slot_ne (Or.inl (hw _ (List.mem_of_getElem? (i := 143) rfl))) (Or.inl (hw _ (List.mem_of_getElem? (i := 176) rfl))) (by decide) rfl rfl))
  have H5 := H5.other W7 (Or.inr (slot_ne (Or.inl (hw _ (List.mem_of_getElem? (i := 145) rfl))) (Or.inl (hw _ (List.mem_of_getElem? (i := 176) rfl))) (by decide) rfl rfl))
  have H6 := H6.same W7
  have H7 := H7.other W7 (Ne.symm ne_qa1_qa2)
  have FF2 := FF2.wr W7
  have FF3 := FF3.other W7 (Ne.symm ne_qa1_qa3)
  have Z7 : n0 ≤ h7.size := by rw [W7.size]; exact Z6
  have N7 := Fr.snoc X7 N6 z_qa1
  have P7 := P6.wr W7 (Or.inl (List.mem_of_getElem? (i := 0) rfl))
  refine g_aloadN C X7 (pc' := 54) d29_53 rfl rfl rfl ?_
  exact g_areturn C X7 d29_54 rfl rfl rfl (⟨ri1, rfl, N7, by rw [e7]; exact P7, by rw [e7]; exact H3, by rw [e7]; exact H4, by rw [e7]; exact H5, by rw [e7]; exact H6, by rw [e7]; exact FF2, by rw [e7]; exact FF3⟩) (by decide) (by decide)
theorem kk_78 : parseMethodDescriptor "(I)Ljava/lang/AbstractStringBuilder;" = some ⟨[.int], (some (.object "java/lang/AbstractStringBuilder"))⟩ := by decide +kernel
theorem kk_79 (m : MethodId) (x0 : Addr) (x1 : Int32) : entryFrame m #[(.ref x0), (.int x1)] 2 = mkF m 0 #[.val (.ref x0), .val (.int x1)] [] := by first | (simp [entryFrame, mkF, argsToLocals, Value.category]; done) | rfl
theorem kk_80 : plainFor (⟨"java/lang/StringBuilder", "append", "(I)Ljava/lang/StringBuilder;"⟩ : MethodName) = true := by decide +kernel
set_option maxRecDepth 65536 in
set_option maxHeartbeats 40000000 in
theorem k24_append (l : Launch) (Z : State) (a0 : Array Value) (hw : ∀ d ∈ tables_1, d.before a0 Z = true) (h : Heap) (n0 : Nat) (Z0 : n0 ≤ h.size) (qa1 : Addr) (qi1 : Int32) (qi2 : Int32) (qa2 : Addr) (qa3 : Addr) (qk1 : ClassId) (z_qa1 : n0 ≤ qa1) (z_qa3 : n0 ≤ qa3) (ne_qa1_qa2 : qa1 ≠ qa2) (ne_qa1_qa3 : qa1 ≠ qa3) (ne_qa2_qa3 : qa2 ≠ qa3) (B_qi1 : 0 ≤ qi1.toInt ∧ qi1.toInt ≤ 9) (C0_qi2 : ¬ (qi2.toInt = 0)) (H1 : Sta Z h "java/lang/String" "COMPACT_STRINGS" "Z" (.int qi2)) (H2 : Sta Z h "java/lang/Integer" "DigitOnes" "[B" (.ref qa2)) (H3 : Exa Z h qa1 "java/lang/StringBuilder") (H4 : Fld Z h qa1 "java/lang/AbstractStringBuilder" "value" "[B" (.ref qa3)) (H5 : Fld Z h qa1 "java/lang/AbstractStringBuilder" "coder" "B" (.int (0 : Int32))) (H6 : Fld Z h qa1 "java/lang/AbstractStringBuilder" "count" "I" (.int (9 : Int32))) (H7 : BArr Z h qa2) (H8 : Exa Z h qa3 "[B") (H9 : Arv Z h qa3 qk1 .byte (16 : Int32) [(.int (98 : Int32)), (.int (32 : Int32)), (.int (111 : Int32)), (.int (102 : Int32)), (.int (32 : Int32)), (.int (114 : Int32)), (.int (111 : Int32)), (.int (119 : Int32)), (.int (32 : Int32))] (.int (0 : Int32))) :
    Con l Z (⟨"java/lang/StringBuilder", "append", "(I)Ljava/lang/StringBuilder;"⟩ : MethodName) jdk_67_method_15_code 2 (some (.object "java/lang/StringBuilder")) ⟨2, 0, 0, 33⟩ #[(.ref qa1), (.int qi1)] h (fun v h' L => ∃ (uv1 : Int32), v = some (.ref qa1) ∧ Fr n0 L ∧ Keep h h' [qa1, qa3] ∧ Exa Z h' qa1 "java/lang/StringBuilder" ∧ Fld Z h' qa1 "java/lang/AbstractStringBuilder" "value" "[B" (.ref qa3) ∧ Fld Z h' qa1 "java/lang/AbstractStringBuilder" "coder" "B" (.int (0 : Int32)) ∧ Fld Z h' qa1 "java/lang/AbstractStringBuilder" "count" "I" (.int (10 : Int32)) ∧ Exa Z h' qa3 "[B" ∧ Arv Z h' qa3 qk1 .byte (16 : Int32) [(.int (98 : Int32)), (.int (32 : Int32)), (.int (111 : Int32)), (.int (102 : Int32)), (.int (32 : Int32)), (.int (114 : Int32)), (.int (111 : Int32)), (.int (119 : Int32)), (.int (32 : Int32)), (.int uv1)] (.int (0 : Int32))) := by
  refine con_of_goF kk_80 (fun m => kk_79 m qa1 qi1) ?_
  intro p e s m below meth c T0 C X0 e0
  refine g_aloadN C X0 (pc' := 1) d28_0 rfl rfl rfl ?_
  refine g_iloadN C X0 (pc' := 2) d28_1 rfl rfl ?_
  refine g_callU C (y2 := ⟨"java/lang/AbstractStringBuilder", "ensureCapacityInternal", "(I)V"⟩) X0 (k23_append l Z a0 hw h n0 Z0  qa1 qi1 qi2 qa2 qa3 qk1 z_qa1 z_qa3 ne_qa1_qa2 ne_qa1_qa3 ne_qa2_qa3 B_qi1 C0_qi2 H1 H2 H3 H4 H5 H6 H7 H8 H9) (hw _ (List.mem_of_getElem? (i := 204) rfl)) (hw _ (List.mem_of_getElem? (i := 205) rfl)) (hw _ (List.mem_of_getElem? (i := 159) rfl)) (hw _ (List.mem_of_getElem? (i := 180) rfl)) rfl (hw _ (List.mem_of_getElem? (i := 136) rfl)) (hw _ (List.mem_of_getElem? (i := 207) rfl)) (by decide) (by decide) e0 H3 d28_2 rfl kk_78 [(.int qi1)] [] rfl rfl rfl 0 rfl (by decide) (by decide) (by decide) (by decide) rfl ?_
  rintro _ T1 L1 X1 ⟨ri1, rfl, M1, K1, FF2, FF3, FF4, FF5, FF6, FF7⟩
  have H1 := staKeep H1 K1 (alc H3.nostat (alc H8.nostat al0))
  have H2 := staKeep H2 K1 (alc H3.nostat (alc H8.nostat al0))
  have H7 := H7.keep K1 (ninS (Ne.symm ne_qa1_qa2) (ninS ne_qa2_qa3 nin0))
  have Z1 : n0 ≤ T1.heap.size := Nat.le_trans Z0 K1.1
  have P1 := (Keep.refl h [qa1, qa3]).trans K1 (alc (Or.inl (List.mem_of_getElem? (i := 0) rfl)) (alc (Or.inl (List.mem_of_getElem? (i := 1) rfl)) al0))
  have N1 := Fr.app (Fr.nil n0) M1
  obtain ⟨h1, e1⟩ : ∃ z, T1.heap = z := ⟨_, rfl⟩
  rw [e1] at H1 H2 H7 FF2 FF3 FF4 FF5 FF6 FF7 Z1 P1
  show Go p.tables e below _ T1 (mkF m 5 #[.val (.ref qa1), .val (.int qi1)] [(.ref qa1)])
  refine g_pop C X1 (pc' := 6) d28_5 rfl rfl ?_
  refine g_aloadN C X1 (pc' := 7) d28_6 rfl rfl rfl ?_
  exact g_areturn C X1 d28_7 rfl rfl rfl (⟨ri1, rfl, N1, by rw [e1]; exact P1, by rw [e1]; exact FF2, by rw [e1]; exact FF3, by rw [e1]; exact FF4, by rw [e1]; exact FF5, by rw [e1]; exact FF6, by rw [e1]; exact FF7⟩) (by decide) (by decide)
theorem kk_81 : parseMethodDescriptor "(I)Ljava/lang/StringBuilder;" = some ⟨[.int], (some (.object "java/lang/StringBuilder"))⟩ := by decide +kernel
theorem d33_0 : decode jdk_67_method_42_code 0 = .ok (.new 18, 3) := by decide +kernel
theorem d33_3 : decode jdk_67_method_42_code 3 = .ok (.dup, 1) := by decide +kernel
theorem d33_4 : decode jdk_67_method_42_code 4 = .ok (.aload_n 0, 1) := by decide +kernel
theorem d33_5 : decode jdk_67_method_42_code 5 = .ok (.invokespecial 137, 3) := by decide +kernel
theorem d33_8 : decode jdk_67_method_42_code 8 = .ok (.areturn, 1) := by decide +kernel
theorem d34_0 : decode jdk_42_method_53_code 0 = .ok (.aload_n 0, 1) := by decide +kernel
theorem d34_1 : decode jdk_42_method_53_code 1 = .ok (.aload_n 1, 1) := by decide +kernel
theorem d34_2 : decode jdk_42_method_53_code 2 = .ok (.aconst_null, 1) := by decide +kernel
theorem d34_3 : decode jdk_42_method_53_code 3 = .ok (.invokespecial 489, 3) := by decide +kernel
theorem d34_6 : decode jdk_42_method_53_code 6 = .ok (.return_, 1) := by decide +kernel
theorem d35_0 : decode jdk_42_method_150_code 0 = .ok (.aload_n 0, 1) := by decide +kernel
theorem d35_1 : decode jdk_42_method_150_code 1 = .ok (.invokespecial 1, 3) := by decide +kernel
theorem d35_4 : decode jdk_42_method_150_code 4 = .ok (.aload_n 1, 1) := by decide +kernel
theorem d35_5 : decode jdk_42_method_150_code 5 = .ok (.invokevirtual 552, 3) := by decide +kernel
theorem d35_8 : decode jdk_42_method_150_code 8 = .ok (.astore_n 3, 1) := by decide +kernel
theorem d35_9 : decode jdk_42_method_150_code 9 = .ok (.aload_n 1, 1) := by decide +kernel
theorem d35_10 : decode jdk_42_method_150_code 10 = .ok (.invokevirtual 549, 3) := by decide +kernel
theorem d35_13 : decode jdk_42_method_150_code 13 = .ok (.istore 4, 2) := by decide +kernel
theorem d35_15 : decode jdk_42_method_150_code 15 = .ok (.aload_n 1, 1) := by decide +kernel
theorem d35_16 : decode jdk_42_method_150_code 16 = .ok (.invokevirtual 1047, 3) := by decide +kernel
theorem d35_19 : decode jdk_42_method_150_code 19 = .ok (.ifCond .eq 22, 3) := by decide +kernel
theorem d35_22 : decode jdk_42_method_150_code 22 = .ok (.aload_n 0, 1) := by decide +kernel
theorem d35_23 : decode jdk_42_method_150_code 23 = .ok (.iconst 0, 1) := by decide +kernel
theorem d35_24 : decode jdk_42_method_150_code 24 = .ok (.putfield 15, 3) := by decide +kernel
theorem d35_27 : decode jdk_42_method_150_code 27 = .ok (.aload_n 0, 1) := by decide +kernel
theorem d35_28 : decode jdk_42_method_150_code 28 = .ok (.aload_n 3, 1) := by decide +kernel
theorem d35_29 : decode jdk_42_method_150_code 29 = .ok (.iconst 0, 1) := by decide +kernel
theorem d35_30 : decode jdk_42_method_150_code 30 = .ok (.iload 4, 2) := by decide +kernel
theorem d35_32 : decode jdk_42_method_150_code 32 = .ok (.invokestatic 54, 3) := by decide +kernel
theorem d35_35 : decode jdk_42_method_150_code 35 = .ok (.putfield 9, 3) := by decide +kernel
theorem d35_38 : decode jdk_42_method_150_code 38 = .ok (.goto 59, 3) := by decide +kernel
theorem d35_41 : decode jdk_42_method_150_code 41 = .ok (.getstatic 38, 3) := by decide +kernel
theorem d35_44 : decode jdk_42_method_150_code 44 = .ok (.ifCond .eq 35, 3) := by decide +kernel
theorem d35_47 : decode jdk_42_method_150_code 47 = .ok (.aload_n 1, 1) := by decide +kernel
theorem d35_48 : decode jdk_42_method_150_code 48 = .ok (.getfield 1048, 3) := by decide +kernel
theorem d35_51 : decode jdk_42_method_150_code 51 = .ok (.ifCond .eq 28, 3) := by decide +kernel
theorem d35_54 : decode jdk_42_method_150_code 54 = .ok (.aload_n 0, 1) := by decide +kernel
theorem d35_55 : decode jdk_42_method_150_code 55 = .ok (.aload_n 3, 1) := by decide +kernel
theorem d35_56 : decode jdk_42_method_150_code 56 = .ok (.iconst 0, 1) := by decide +kernel
theorem d35_57 : decode jdk_42_method_150_code 57 = .ok (.iload 4, 2) := by decide +kernel
theorem d35_59 : decode jdk_42_method_150_code 59 = .ok (.invokestatic 1051, 3) := by decide +kernel
theorem d35_62 : decode jdk_42_method_150_code 62 = .ok (.putfield 9, 3) := by decide +kernel
theorem d35_65 : decode jdk_42_method_150_code 65 = .ok (.aload_n 0, 1) := by decide +kernel
theorem d35_66 : decode jdk_42_method_150_code 66 = .ok (.aload_n 0, 1) := by decide +kernel
theorem d35_67 : decode jdk_42_method_150_code 67 = .ok (.getfield 9, 3) := by decide +kernel
theorem d35_70 : decode jdk_42_method_150_code 70 = .ok (.iload 4, 2) := by decide +kernel
theorem d35_72 : decode jdk_42_method_150_code 72 = .ok (.invokestatic 47, 3) := by decide +kernel
theorem d35_75 : decode jdk_42_method_150_code 75 = .ok (.putfield 15, 3) := by decide +kernel
theorem d35_78 : decode jdk_42_method_150_code 78 = .ok (.return_, 1) := by decide +kernel
theorem d35_79 : decode jdk_42_method_150_code 79 = .ok (.aload_n 0, 1) := by decide +kernel
theorem d35_80 : decode jdk_42_method_150_code 80 = .ok (.iconst 1, 1) := by decide +kernel
theorem d35_81 : decode jdk_42_method_150_code 81 = .ok (.putfield 15, 3) := by decide +kernel
theorem d35_84 : decode jdk_42_method_150_code 84 = .ok (.aload_n 0, 1) := by decide +kernel
theorem d35_85 : decode jdk_42_method_150_code 85 = .ok (.aload_n 3, 1) := by decide +kernel
theorem d35_86 : decode jdk_42_method_150_code 86 = .ok (.iconst 0, 1) := by decide +kernel
theorem d35_87 : decode jdk_42_method_150_code 87 = .ok (.iload 4, 2) := by decide +kernel
theorem d35_89 : decode jdk_42_method_150_code 89 = .ok (.iconst 1, 1) := by decide +kernel
theorem d35_90 : decode jdk_42_method_150_code 90 = .ok (.ishl, 1) := by decide +kernel
theorem d35_91 : decode jdk_42_method_150_code 91 = .ok (.invokestatic 54, 3) := by decide +kernel
theorem d35_94 : decode jdk_42_method_150_code 94 = .ok (.putfield 9, 3) := by decide +kernel
theorem d35_97 : decode jdk_42_method_150_code 97 = .ok (.return_, 1) := by decide +kernel
theorem d36_0 : decode jdk_68_method_64_code 0 = .ok (.aload_n 0, 1) := by decide +kernel
theorem d36_1 : decode jdk_68_method_64_code 1 = .ok (.getfield 15, 3) := by decide +kernel
theorem d36_4 : decode jdk_68_method_64_code 4 = .ok (.areturn, 1) := by decide +kernel
theorem kk_82 (m : MethodId) (x0 : Addr) : entryFrame m #[(.ref x0)] 1 = mkF m 0 #[.val (.ref x0)] [] := by first | (simp [entryFrame, mkF, argsToLocals, Value.category]; done) | rfl
theorem kk_83 : plainFor (⟨"java/lang/AbstractStringBuilder", "getValue", "()[B"⟩ : MethodName) = true := by decide +kernel
set_option maxRecDepth 65536 in
set_option maxHeartbeats 40000000 in
theorem k25_getValue (l : Launch) (Z : State) (a0 : Array Value) (hw : ∀ d ∈ tables_1, d.before a0 Z = true) (h : Heap) (n0 : Nat) (Z0 : n0 ≤ h.size) (qa1 : Addr) (qa2 : Addr) (H1 : Fld Z h qa1 "java/lang/AbstractStringBuilder" "value" "[B" (.ref qa2)) :
    Con l Z (⟨"java/lang/AbstractStringBuilder", "getValue", "()[B"⟩ : MethodName) jdk_68_method_64_code 1 (some (.array .byte)) ⟨0, 0, 0, 0⟩ #[(.ref qa1)] h (fun v h' L => v = some (.ref qa2) ∧ L = [] ∧ h' = h) := by
  refine con_of_goF kk_83 (fun m => kk_82 m qa1) ?_
  intro p e s m below meth c T0 C X0 e0
  refine g_aloadN C X0 (pc' := 1) d36_0 rfl rfl rfl ?_
  refine g_getF C X0 (host := "") (Or.inl (hw _ (List.mem_of_getElem? (i := 142) rfl))) Via.refl e0 H1 d36_1 rfl ?_
  intro T1 X1 e1
  exact g_areturn C X1 d36_4 rfl rfl rfl (⟨rfl, rfl, e1⟩) (by decide) (by decide)
theorem kk_84 : parseMethodDescriptor "()[B" = some ⟨[], (some (.array .byte))⟩ := by decide +kernel
theorem d37_0 : decode jdk_67_method_93_code 0 = .ok (.aload_n 0, 1) := by decide +kernel
theorem d37_1 : decode jdk_67_method_93_code 1 = .ok (.invokespecial 343, 3) := by decide +kernel
theorem d37_4 : decode jdk_67_method_93_code 4 = .ok (.ireturn, 1) := by decide +kernel
theorem d38_0 : decode jdk_68_method_6_code 0 = .ok (.aload_n 0, 1) := by decide +kernel
theorem d38_1 : decode jdk_68_method_6_code 1 = .ok (.getfield 79, 3) := by decide +kernel
theorem d38_4 : decode jdk_68_method_6_code 4 = .ok (.ireturn, 1) := by decide +kernel
theorem kk_85 (m : MethodId) (x0 : Addr) : entryFrame m #[(.ref x0)] 1 = mkF m 0 #[.val (.ref x0)] [] := by first | (simp [entryFrame, mkF, argsToLocals, Value.category]; done) | rfl
theorem kk_86 : plainFor (⟨"java/lang/AbstractStringBuilder", "length", "()I"⟩ : MethodName) = true := by decide +kernel
set_option maxRecDepth 65536 in
set_option maxHeartbeats 40000000 in
theorem k26_length (l : Launch) (Z : State) (a0 : Array Value) (hw : ∀ d ∈ tables_1, d.before a0 Z = true) (h : Heap) (n0 : Nat) (Z0 : n0 ≤ h.size) (qa1 : Addr) (H1 : Fld Z h qa1 "java/lang/AbstractStringBuilder" "count" "I" (.int (10 : Int32))) :
    Con l Z (⟨"java/lang/AbstractStringBuilder", "length", "()I"⟩ : MethodName) jdk_68_method_6_code 1 (some .int) ⟨0, 0, 0, 0⟩ #[(.ref qa1)] h (fun v h' L => v = some (.int (10 : Int32)) ∧ L = [] ∧ h' = h) := by
  refine con_of_goF kk_86 (fun m => kk_85 m qa1) ?_
  intro p e s m below meth c T0 C X0 e0
  refine g_aloadN C X0 (pc' := 1) d38_0 rfl rfl rfl ?_
  refine g_getF C X0 (host := "") (Or.inl (hw _ (List.mem_of_getElem? (i := 175) rfl))) Via.refl e0 H1 d38_1 rfl ?_
  intro T1 X1 e1
  exact g_ireturn C X1 d38_4 (⟨rfl, rfl, e1⟩) (by decide) (by decide)
theorem kk_87 (m : MethodId) (x0 : Addr) : entryFrame m #[(.ref x0)] 1 = mkF m 0 #[.val (.ref x0)] [] := by first | (simp [entryFrame, mkF, argsToLocals, Value.category]; done) | rfl
theorem kk_88 : plainFor (⟨"java/lang/StringBuilder", "length", "()I"⟩ : MethodName) = true := by decide +kernel
set_option maxRecDepth 65536 in
set_option maxHeartbeats 40000000 in
theorem k27_length (l : Launch) (Z : State) (a0 : Array Value) (hw : ∀ d ∈ tables_1, d.before a0 Z = true) (h : Heap) (n0 : Nat) (Z0 : n0 ≤ h.size) (qa1 : Addr) (H1 : Exa Z h qa1 "java/lang/StringBuilder") (H2 : Fld Z h qa1 "java/lang/AbstractStringBuilder" "count" "I" (.int (10 : Int32))) :
    Con l Z (⟨"java/lang/StringBuilder", "length", "()I"⟩ : MethodName) jdk_67_method_93_code 1 (some .int) ⟨1, 0, 0, 12⟩ #[(.ref qa1)] h (fun v h' L => v = some (.int (10 : Int32)) ∧ L = [] ∧ h' = h) := by
  refine con_of_goF kk_88 (fun m => kk_87 m qa1) ?_
  intro p e s m below meth c T0 C X0 e0
  refine g_aloadN C X0 (pc' := 1) d37_0 rfl rfl rfl ?_
  refine g_callU C (y2 := ⟨"java/lang/AbstractStringBuilder", "ensureCapacityInternal", "(I)V"⟩) X0 (k26_length l Z a0 hw h n0 Z0  qa1    H2) (hw _ (List.mem_of_getElem? (i := 246) rfl)) (hw _ (List.mem_of_getElem? (i := 242) rfl)) (hw _ (List.mem_of_getElem? (i := 159) rfl)) (hw _ (List.mem_of_getElem? (i := 180) rfl)) rfl (hw _ (List.mem_of_getElem? (i := 136) rfl)) (hw _ (List.mem_of_getElem? (i := 247) rfl)) (by decide) (by decide) e0 H1 d37_1 rfl kk_48 [] [] rfl rfl rfl 0 rfl (by decide) (by decide) (by decide) (by decide) rfl ?_
  rintro _ T1 _ X1 ⟨rfl, rfl, e1⟩
  rw [List.append_nil] at X1
  show Go p.tables e below _ T1 (mkF m 4 #[.val (.ref qa1)] [(.int (10 : Int32))])
  exact g_ireturn C X1 d37_4 (⟨rfl, rfl, e1⟩) (by decide) (by decide)
theorem d39_0 : decode jdk_65_method_132_code 0 = .ok (.iload_n 1, 1) := by decide +kernel
theorem d39_1 : decode jdk_65_method_132_code 1 = .ok (.ifCond .ne 9, 3) := by decide +kernel
theorem d39_4 : decode jdk_65_method_132_code 4 = .ok (.iload_n 2, 1) := by decide +kernel
theorem d39_5 : decode jdk_65_method_132_code 5 = .ok (.aload_n 0, 1) := by decide +kernel
theorem d39_6 : decode jdk_65_method_132_code 6 = .ok (.arraylength, 1) := by decide +kernel
theorem d39_7 : decode jdk_65_method_132_code 7 = .ok (.if_icmp .eq 10, 3) := by decide +kernel
theorem d39_10 : decode jdk_65_method_132_code 10 = .ok (.aload_n 0, 1) := by decide +kernel
theorem d39_11 : decode jdk_65_method_132_code 11 = .ok (.iload_n 1, 1) := by decide +kernel
theorem d39_12 : decode jdk_65_method_132_code 12 = .ok (.iload_n 2, 1) := by decide +kernel
theorem d39_13 : decode jdk_65_method_132_code 13 = .ok (.invokestatic 339, 3) := by decide +kernel
theorem d39_16 : decode jdk_65_method_132_code 16 = .ok (.areturn, 1) := by decide +kernel
theorem d39_17 : decode jdk_65_method_132_code 17 = .ok (.aload_n 0, 1) := by decide +kernel
theorem d39_18 : decode jdk_65_method_132_code 18 = .ok (.invokevirtual 310, 3) := by decide +kernel
theorem d39_21 : decode jdk_65_method_132_code 21 = .ok (.checkcast 311, 3) := by decide +kernel
theorem d39_24 : decode jdk_65_method_132_code 24 = .ok (.areturn, 1) := by decide +kernel
theorem d40_0 : decode jdk_65_method_133_code 0 = .ok (.iload_n 1, 1) := by decide +kernel
theorem d40_1 : decode jdk_65_method_133_code 1 = .ok (.iload_n 2, 1) := by decide +kernel
theorem d40_2 : decode jdk_65_method_133_code 2 = .ok (.invokestatic 343, 3) := by decide +kernel
theorem d40_5 : decode jdk_65_method_133_code 5 = .ok (.iload_n 2, 1) := by decide +kernel
theorem d40_6 : decode jdk_65_method_133_code 6 = .ok (.iload_n 1, 1) := by decide +kernel
theorem d40_7 : decode jdk_65_method_133_code 7 = .ok (.isub, 1) := by decide +kernel
theorem d40_8 : decode jdk_65_method_133_code 8 = .ok (.istore_n 3, 1) := by decide +kernel
theorem d40_9 : decode jdk_65_method_133_code 9 = .ok (.iload_n 3, 1) := by decide +kernel
theorem d40_10 : decode jdk_65_method_133_code 10 = .ok (.newarray .byte, 2) := by decide +kernel
theorem d40_12 : decode jdk_65_method_133_code 12 = .ok (.astore 4, 2) := by decide +kernel
theorem d40_14 : decode jdk_65_method_133_code 14 = .ok (.aload_n 0, 1) := by decide +kernel
theorem d40_15 : decode jdk_65_method_133_code 15 = .ok (.iload_n 1, 1) := by decide +kernel
theorem d40_16 : decode jdk_65_method_133_code 16 = .ok (.aload 4, 2) := by decide +kernel
theorem d40_18 : decode jdk_65_method_133_code 18 = .ok (.iconst 0, 1) := by decide +kernel
theorem d40_19 : decode jdk_65_method_133_code 19 = .ok (.aload_n 0, 1) := by decide +kernel
theorem d40_20 : decode jdk_65_method_133_code 20 = .ok (.arraylength, 1) := by decide +kernel
theorem d40_21 : decode jdk_65_method_133_code 21 = .ok (.iload_n 1, 1) := by decide +kernel
theorem d40_22 : decode jdk_65_method_133_code 22 = .ok (.isub, 1) := by decide +kernel
theorem d40_23 : decode jdk_65_method_133_code 23 = .ok (.iload_n 3, 1) := by decide +kernel
theorem d40_24 : decode jdk_65_method_133_code 24 = .ok (.invokestatic 304, 3) := by decide +kernel
theorem d40_27 : decode jdk_65_method_133_code 27 = .ok (.invokestatic 150, 3) := by decide +kernel
theorem d40_30 : decode jdk_65_method_133_code 30 = .ok (.aload 4, 2) := by decide +kernel
theorem d40_32 : decode jdk_65_method_133_code 32 = .ok (.areturn, 1) := by decide +kernel
theorem d41_0 : decode jdk_65_method_131_code 0 = .ok (.iload_n 1, 1) := by decide +kernel
theorem d41_1 : decode jdk_65_method_131_code 1 = .ok (.iload_n 0, 1) := by decide +kernel
theorem d41_2 : decode jdk_65_method_131_code 2 = .ok (.if_icmp .ge 35, 3) := by decide +kernel
theorem d41_5 : decode jdk_65_method_131_code 5 = .ok (.new 43, 3) := by decide +kernel
theorem d41_8 : decode jdk_65_method_131_code 8 = .ok (.dup, 1) := by decide +kernel
theorem d41_9 : decode jdk_65_method_131_code 9 = .ok (.new 45, 3) := by decide +kernel
theorem d41_12 : decode jdk_65_method_131_code 12 = .ok (.dup, 1) := by decide +kernel
theorem d41_13 : decode jdk_65_method_131_code 13 = .ok (.invokespecial 47, 3) := by decide +kernel
theorem d41_16 : decode jdk_65_method_131_code 16 = .ok (.iload_n 0, 1) := by decide +kernel
theorem d41_17 : decode jdk_65_method_131_code 17 = .ok (.invokevirtual 54, 3) := by decide +kernel
theorem d41_20 : decode jdk_65_method_131_code 20 = .ok (.ldc_w 337, 3) := by decide +kernel
theorem d41_23 : decode jdk_65_method_131_code 23 = .ok (.invokevirtual 50, 3) := by decide +kernel
theorem d41_26 : decode jdk_65_method_131_code 26 = .ok (.iload_n 1, 1) := by decide +kernel
theorem d41_27 : decode jdk_65_method_131_code 27 = .ok (.invokevirtual 54, 3) := by decide +kernel
theorem d41_30 : decode jdk_65_method_131_code 30 = .ok (.invokevirtual 61, 3) := by decide +kernel
theorem d41_33 : decode jdk_65_method_131_code 33 = .ok (.invokespecial 65, 3) := by decide +kernel
theorem d41_36 : decode jdk_65_method_131_code 36 = .ok (.athrow, 1) := by decide +kernel
theorem d41_37 : decode jdk_65_method_131_code 37 = .ok (.return_, 1) := by decide +kernel
theorem kk_89 (m : MethodId) (x0 : Int32) (x1 : Int32) : entryFrame m #[(.int x0), (.int x1)] 2 = mkF m 0 #[.val (.int x0), .val (.int x1)] [] := by first | (simp [entryFrame, mkF, argsToLocals, Value.category]; done) | rfl
theorem kk_90 : plainFor (⟨"java/util/Arrays", "checkLength", "(II)V"⟩ : MethodName) = true := by decide +kernel
set_option maxRecDepth 65536 in
set_option maxHeartbeats 40000000 in
theorem k28_checkLength (l : Launch) (Z : State) (a0 : Array Value) (hw : ∀ d ∈ tables_1, d.before a0 Z = true) (h : Heap) (n0 : Nat) (Z0 : n0 ≤ h.size) :
    Con l Z (⟨"java/util/Arrays", "checkLength", "(II)V"⟩ : MethodName) jdk_65_method_131_code 2 none ⟨0, 0, 0, 0⟩ #[(.int (0 : Int32)), (.int (10 : Int32))] h (fun v h' L => v = none ∧ L = [] ∧ h' = h) := by
  refine con_of_goF kk_90 (fun m => kk_89 m (0 : Int32) (10 : Int32)) ?_
  intro p e s m below meth c T0 C X0 e0
  refine g_iloadN C X0 (pc' := 1) d41_0 rfl rfl ?_
  refine g_iloadN C X0 (pc' := 2) d41_1 rfl rfl ?_
  refine g_icmpY C X0 d41_2 (pc' := 37) (by decide) (by decide) (by decide) ?_
  exact g_return C X0 d41_37 (⟨rfl, rfl, e0⟩) (by decide) (by decide)
theorem kk_91 : parseMethodDescriptor "(II)V" = some ⟨[.int, .int], none⟩ := by decide +kernel
set_option maxRecDepth 65536 in
set_option maxHeartbeats 40000000 in
theorem k29_min (l : Launch) (Z : State) (a0 : Array Value) (hw : ∀ d ∈ tables_1, d.before a0 Z = true) (h : Heap) (n0 : Nat) (Z0 : n0 ≤ h.size) :
    Con l Z (⟨"java/lang/Math", "min", "(II)I"⟩ : MethodName) jdk_29_method_69_code 2 (some .int) ⟨0, 0, 0, 0⟩ #[(.int (16 : Int32)), (.int (10 : Int32))] h (fun v h' L => v = some (.int (10 : Int32)) ∧ L = [] ∧ h' = h) := by
  refine con_of_goF kk_11 (fun m => kk_10 m (16 : Int32) (10 : Int32)) ?_
  intro p e s m below meth c T0 C X0 e0
  refine g_iloadN C X0 (pc' := 1) d13_0 rfl rfl ?_
  refine g_iloadN C X0 (pc' := 2) d13_1 rfl rfl ?_
  refine g_icmpY C X0 d13_2 (pc' := 9) (by decide) (by decide) (by decide) ?_
  refine g_iloadN C X0 (pc' := 10) d13_9 rfl rfl ?_
  exact g_ireturn C X0 d13_10 (⟨rfl, rfl, e0⟩) (by decide) (by decide)
theorem kk_92 (m : MethodId) (x0 : Addr) (x1 : Int32) (x2 : Int32) : entryFrame m #[(.ref x0), (.int x1), (.int x2)] 5 = mkF m 0 #[.val (.ref x0), .val (.int x1), .val (.int x2), .unset, .unset] [] := by first | (simp [entryFrame, mkF, argsToLocals, Value.category]; done) | rfl
theorem kk_93 : plainFor (⟨"java/util/Arrays", "copyOfRangeByte", "([BII)[B"⟩ : MethodName) = true := by decide +kernel
set_option maxRecDepth 65536 in
set_option maxHeartbeats 40000000 in
theorem k30_copyOfRangeByte (l : Launch) (Z : State) (a0 : Array Value) (hw : ∀ d ∈ tables_1, d.before a0 Z = true) (h : Heap) (n0 : Nat) (Z0 : n0 ≤ h.size) (qa1 : Addr) (qi1 : Int32) (qk1 : ClassId) (H1 : Arv Z h qa1 qk1 .byte (16 : Int32) [(.int (98 : Int32)), (.int (32 : Int32)), (.int (111 : Int32)), (.int (102 : Int32)), (.int (32 : Int32)), (.int (114 : Int32)), (.int (111 : Int32)), (.int (119 : Int32)), (.int (32 : Int32)), (.int qi1)] (.int (0 : Int32))) :
    Con l Z (⟨"java/util/Arrays", "copyOfRangeByte", "([BII)[B"⟩ : MethodName) jdk_65_method_133_code 5 (some (.array .byte)) ⟨1, 1, 10, 32⟩ #[(.ref qa1), (.int (0 : Int32)), (.int (10 : Int32))] h (fun v h' L => ∃ (uf1 : Addr) (uk2 : ClassId), v = some (.ref uf1) ∧ Fr n0 L ∧ Keep h h' [] ∧ h.size ≤ uf1 ∧ Exa Z h' uf1 "[B" ∧ Arv Z h' uf1 uk2 .byte (10 : Int32) [(.int (98 : Int32)), (.int (32 : Int32)), (.int (111 : Int32)), (.int (102 : Int32)), (.int (32 : Int32)), (.int (114 : Int32)), (.int (111 : Int32)), (.int (119 : Int32)), (.int (32 : Int32)), (.int qi1)] (.int (0 : Int32))) := by
  refine con_of_goF kk_93 (fun m => kk_92 m qa1 (0 : Int32) (10 : Int32)) ?_
  intro p e s m below meth c T0 C X0 e0
  refine g_iloadN C X0 (pc' := 1) d40_0 rfl rfl ?_
  refine g_iloadN C X0 (pc' := 2) d40_1 rfl rfl ?_
  refine g_callS C X0 (k28_checkLength l Z a0 hw h n0 Z0      ) (hw _ (List.mem_of_getElem? (i := 255) rfl)) (hw _ (List.mem_of_getElem? (i := 256) rfl)) (hw _ (List.mem_of_getElem? (i := 79) rfl)) (hw _ (List.mem_of_getElem? (i := 257) rfl)) (by decide) e0 d40_2 rfl kk_91 [(.int (0 : Int32)), (.int (10 : Int32))] [] rfl rfl rfl 0 rfl (by decide) (by decide) (by decide) (by decide) rfl ?_
  rintro _ T1 _ X1 ⟨rfl, rfl, e1⟩
  rw [List.append_nil] at X1
  show Go p.tables e below _ T1 (mkF m 5 #[.val (.ref qa1), .val (.int (0 : Int32)), .val (.int (10 : Int32)), .unset, .unset] [])
  refine g_iloadN C X1 (pc' := 6) d40_5 rfl rfl ?_
  refine g_iloadN C X1 (pc' := 7) d40_6 rfl rfl ?_
  refine g_isub C X1 (pc' := 8) d40_7 rfl ?_
  refine g_istoreN C X1 (pc' := 9) d40_8 (x := (10 : Int32)) (by decide) (l' := #[.val (.ref qa1), .val (.int (0 : Int32)), .val (.int (10 : Int32)), .val (.int (10 : Int32)), .unset]) rfl rfl ?_
  refine g_iloadN C X1 (pc' := 10) d40_9 rfl rfl ?_
  refine g_newPE C X1 (aty := .byte) (ad := "[B") (by decide) (hw _ (List.mem_of_getElem? (i := 141) rfl)) e1 d40_10 (by decide) 10 (by decide) (by decide) (by decide) (by decide) rfl ?_
  intro T2 h2 a2 k2 g2 X2 e2 E2 A2 B2
  have ne_qa1_a2 : qa1 ≠ a2 := Nat.ne_of_lt (by rw [g2]; exact H1.lt)
  have z_a2 : n0 ≤ a2 := by rw [g2]; exact Z0
  have y_a2 : h.size ≤ a2 := by rw [g2]; exact (Keep.refl h []).1
  have H1 := H1.ext E2
  have P2 := (Keep.refl h []).ext E2
  have Z2 : n0 ≤ h2.size := Nat.le_trans Z0 E2.1
  have A2 : Arv Z h2 a2 k2 .byte (10 : Int32) [] (.int (0 : Int32)) := A2
  refine g_astore C X2 (pc' := 14) d40_12 rfl (l' := #[.val (.ref qa1), .val (.int (0 : Int32)), .val (.int (10 : Int32)), .val (.int (10 : Int32)), .val (.ref a2)]) rfl rfl ?_
  refine g_aloadN C X2 (pc' := 15) d40_14 rfl rfl rfl ?_
  refine g_iloadN C X2 (pc' := 16) d40_15 rfl rfl ?_
  refine g_aload C X2 (pc' := 18) d40_16 rfl rfl rfl ?_
  refine g_iconst C X2 (pc' := 19) d40_18 (v := (0 : Int32)) (by decide) rfl ?_
  refine g_aloadN C X2 (pc' := 20) d40_19 rfl rfl rfl ?_
  refine g_len C X2 (pc' := 21) e2 H1 d40_20 rfl ?_
  refine g_iloadN C X2 (pc' := 22) d40_21 rfl rfl ?_
  refine g_isub C X2 (pc' := 23) d40_22 rfl ?_
  refine g_iloadN C X2 (pc' := 24) d40_23 rfl rfl ?_
  rw [show ((16 : Int32) - (0 : Int32) : Int32) = 16 from by decide]
  refine g_callS C X2 (k29_min l Z a0 hw h2 n0 Z2      ) (hw _ (List.mem_of_getElem? (i := 81) rfl)) (hw _ (List.mem_of_getElem? (i := 82) rfl)) (hw _ (List.mem_of_getElem? (i := 27) rfl)) (hw _ (List.mem_of_getElem? (i := 83) rfl)) (by decide) e2 d40_24 rfl kk_12 [(.int (16 : Int32)), (.int (10 : Int32))] [(.int (0 : Int32)), (.ref a2), (.int (0 : Int32)), (.ref qa1)] rfl rfl rfl 4 rfl (by decide) (by decide) (by decide) (by decide) rfl ?_
  rintro _ T3 _ X3 ⟨rfl, rfl, e3⟩
  rw [List.append_nil] at X3
  show Go p.tables e below _ T3 (mkF m 27 #[.val (.ref qa1), .val (.int (0 : Int32)), .val (.int (10 : Int32)), .val (.int (10 : Int32)), .val (.ref a2)] [(.int (10 : Int32)), (.int (0 : Int32)), (.ref a2), (.int (0 : Int32)), (.ref qa1)])
  have A2 : Arv Z h2 a2 k2 .byte (10 : Int32) [(.int (0 : Int32)), (.int (0 : Int32)), (.int (0 : Int32)), (.int (0 : Int32)), (.int (0 : Int32)), (.int (0 : Int32)), (.int (0 : Int32)), (.int (0 : Int32)), (.int (0 : Int32)), (.int (0 : Int32))] (.int (0 : Int32)) := Arv.pad A2 (pad_rep [] (.int (0 : Int32)) 10)
  refine g_acopy C X3 (hw _ (List.mem_of_getElem? (i := 84) rfl)) (hw _ (List.mem_of_getElem? (i := 87) rfl)) (hw _ (List.mem_of_getElem? (i := 85) rfl)) (hw _ (List.mem_of_getElem? (i := 86) rfl)) e3 H1 A2 rfl (by decide) (by decide) (by decide) (by decide) (by decide) [(.int (98 : Int32)), (.int (32 : Int32)), (.int (111 : Int32)), (.int (102 : Int32)), (.int (32 : Int32)), (.int (114 : Int32)), (.int (111 : Int32)), (.int (119 : Int32)), (.int (32 : Int32)), (.int qi1)] rfl (by decide) (Fr.nil n0) z_a2 d40_27 rfl 0 rfl (by decide) (by decide) rfl ?_
  intro T4 h4 L4 X4 e4 N4 K4 Aq
  have NS4 := A2.nostat
  have H1 := H1.keep K4 (ninS ne_qa1_a2 nin0)
  have B2 := B2.keep K4
  have Z4 : n0 ≤ h4.size := Nat.le_trans Z2 K4.1
  have P4 := P2.trans K4 (alc (Or.inr y_a2) al0)
  have A2 : Arv Z h4 a2 k2 .byte (10 : Int32) [(.int (98 : Int32)), (.int (32 : Int32)), (.int (111 : Int32)), (.int (102 : Int32)), (.int (32 : Int32)), (.int (114 : Int32)), (.int (111 : Int32)), (.int (119 : Int32)), (.int (32 : Int32)), (.int qi1)] (.int (0 : Int32)) := Aq
  refine g_aload C X4 (pc' := 32) d40_30 rfl rfl rfl ?_
  exact g_areturn C X4 d40_32 rfl rfl rfl (⟨a2, k2, rfl, N4, by rw [e4]; exact P4, y_a2, by rw [e4]; exact B2, by rw [e4]; exact A2⟩) (by decide) (by decide)
theorem kk_94 : parseMethodDescriptor "([BII)[B" = some ⟨[(.array .byte), .int, .int], (some (.array .byte))⟩ := by decide +kernel
theorem kk_95 (m : MethodId) (x0 : Addr) (x1 : Int32) (x2 : Int32) : entryFrame m #[(.ref x0), (.int x1), (.int x2)] 3 = mkF m 0 #[.val (.ref x0), .val (.int x1), .val (.int x2)] [] := by first | (simp [entryFrame, mkF, argsToLocals, Value.category]; done) | rfl
theorem kk_96 : plainFor (⟨"java/util/Arrays", "copyOfRange", "([BII)[B"⟩ : MethodName) = true := by decide +kernel
set_option maxRecDepth 65536 in
set_option maxHeartbeats 40000000 in
theorem k31_copyOfRange (l : Launch) (Z : State) (a0 : Array Value) (hw : ∀ d ∈ tables_1, d.before a0 Z = true) (h : Heap) (n0 : Nat) (Z0 : n0 ≤ h.size) (qa1 : Addr) (qi1 : Int32) (qk1 : ClassId) (H1 : Arv Z h qa1 qk1 .byte (16 : Int32) [(.int (98 : Int32)), (.int (32 : Int32)), (.int (111 : Int32)), (.int (102 : Int32)), (.int (32 : Int32)), (.int (114 : Int32)), (.int (111 : Int32)), (.int (119 : Int32)), (.int (32 : Int32)), (.int qi1)] (.int (0 : Int32))) :
    Con l Z (⟨"java/util/Arrays", "copyOfRange", "([BII)[B"⟩ : MethodName) jdk_65_method_132_code 3 (some (.array .byte)) ⟨2, 1, 10, 48⟩ #[(.ref qa1), (.int (0 : Int32)), (.int (10 : Int32))] h (fun v h' L => ∃ (uf1 : Addr) (uk2 : ClassId), v = some (.ref uf1) ∧ Fr n0 L ∧ Keep h h' [] ∧ h.size ≤ uf1 ∧ Exa Z h' uf1 "[B" ∧ Arv Z h' uf1 uk2 .byte (10 : Int32) [(.int (98 : Int32)), (.int (32 : Int32)), (.int (111 : Int32)), (.int (102 : Int32)), (.int (32 : Int32)), (.int (114 : Int32)), (.int (111 : Int32)), (.int (119 : Int32)), (.int (32 : Int32)), (.int qi1)] (.int (0 : Int32))) := by
  refine con_of_goF kk_96 (fun m => kk_95 m qa1 (0 : Int32) (10 : Int32)) ?_
  intro p e s m below meth c T0 C X0 e0
  refine g_iloadN C X0 (pc' := 1) d39_0 rfl rfl ?_
  refine g_ifN C X0 d39_1 (by decide) rfl ?_
  refine g_iloadN C X0 (pc' := 5) d39_4 rfl rfl ?_
  refine g_aloadN C X0 (pc' := 6) d39_5 rfl rfl rfl ?_
  refine g_len C X0 (pc' := 7) e0 H1 d39_6 rfl ?_
  refine g_icmpN C X0 d39_7 (by decide) rfl ?_
  refine g_aloadN C X0 (pc' := 11) d39_10 rfl rfl rfl ?_
  refine g_iloadN C X0 (pc' := 12) d39_11 rfl rfl ?_
  refine g_iloadN C X0 (pc' := 13) d39_12 rfl rfl ?_
  refine g_callS C X0 (k30_copyOfRangeByte l Z a0 hw h n0 Z0  qa1 qi1 qk1    H1) (hw _ (List.mem_of_getElem? (i := 252) rfl)) (hw _ (List.mem_of_getElem? (i := 253) rfl)) (hw _ (List.mem_of_getElem? (i := 79) rfl)) (hw _ (List.mem_of_getElem? (i := 254) rfl)) (by decide) e0 d39_13 rfl kk_94 [(.ref qa1), (.int (0 : Int32)), (.int (10 : Int32))] [] rfl rfl rfl 0 rfl (by decide) (by decide) (by decide) (by decide) rfl ?_
  rintro _ T1 L1 X1 ⟨b1, kc2, rfl, M1, K1, w_b1, FF3, FF4⟩
  have ne_qa1_b1 : qa1 ≠ b1 := Nat.ne_of_lt (Nat.lt_of_lt_of_le H1.lt w_b1)
  have z_b1 : n0 ≤ b1 := Nat.le_trans Z0 w_b1
  have y_b1 : h.size ≤ b1 := Nat.le_trans (Keep.refl h []).1 w_b1
  have H1 := H1.keep K1 nin0
  have Z1 : n0 ≤ T1.heap.size := Nat.le_trans Z0 K1.1
  have P1 := (Keep.refl h []).trans K1 al0
  have N1 := Fr.app (Fr.nil n0) M1
  obtain ⟨h1, e1⟩ : ∃ z, T1.heap = z := ⟨_, rfl⟩
  rw [e1] at H1 FF3 FF4 Z1 P1
  show Go p.tables e below _ T1 (mkF m 16 #[.val (.ref qa1), .val (.int (0 : Int32)), .val (.int (10 : Int32))] [(.ref b1)])
  exact g_areturn C X1 d39_16 rfl rfl rfl (⟨b1, kc2, rfl, N1, by rw [e1]; exact P1, y_b1, by rw [e1]; exact FF3, by rw [e1]; exact FF4⟩) (by decide) (by decide)
theorem kk_97 (m : MethodId) (x0 : Addr) (x1 : Addr) : entryFrame m #[(.ref x0), (.ref x1), .null] 5 = mkF m 0 #[.val (.ref x0), .val (.ref x1), .val .null, .unset, .unset] [] := by first | (simp [entryFrame, mkF, argsToLocals, Value.category]; done) | rfl
theorem kk_98 : plainFor (⟨"java/lang/String", "<init>", "(Ljava/lang/AbstractStringBuilder;Ljava/lang/Void;)V"⟩ : MethodName) = true := by decide +kernel
set_option maxRecDepth 65536 in
set_option maxHeartbeats 40000000 in
theorem k32_init (l : Launch) (Z : State) (a0 : Array Value) (hw : ∀ d ∈ tables_1, d.before a0 Z = true) (h : Heap) (n0 : Nat) (Z0 : n0 ≤ h.size) (qa1 : Addr) (qa2 : Addr) (qi1 : Int32) (qa3 : Addr) (qi2 : Int32) (qk1 : ClassId) (z_qa1 : n0 ≤ qa1) (ne_qa1_qa2 : qa1 ≠ qa2) (ne_qa1_qa3 : qa1 ≠ qa3) (C0_qi1 : ¬ (qi1.toInt = 0)) (H1 : Sta Z h "java/lang/String" "COMPACT_STRINGS" "Z" (.int qi1)) (H2 : Exa Z h qa1 "java/lang/String") (H3 : Fld Z h qa1 "java/lang/String" "value" "[B" .null) (H4 : Fld Z h qa1 "java/lang/String" "coder" "B" (.int (0 : Int32))) (H5 : Exa Z h qa2 "java/lang/StringBuilder") (H6 : Fld Z h qa2 "java/lang/AbstractStringBuilder" "value" "[B" (.ref qa3)) (H7 : Fld Z h qa2 "java/lang/AbstractStringBuilder" "coder" "B" (.int (0 : Int32))) (H8 : Fld Z h qa2 "java/lang/AbstractStringBuilder" "count" "I" (.int (10 : Int32))) (H9 : Arv Z h qa3 qk1 .byte (16 : Int32) [(.int (98 : Int32)), (.int (32 : Int32)), (.int (111 : Int32)), (.int (102 : Int32)), (.int (32 : Int32)), (.int (114 : Int32)), (.int (111 : Int32)), (.int (119 : Int32)), (.int (32 : Int32)), (.int qi2)] (.int (0 : Int32))) :
    Con l Z (⟨"java/lang/String", "<init>", "(Ljava/lang/AbstractStringBuilder;Ljava/lang/Void;)V"⟩ : MethodName) jdk_42_method_150_code 5 none ⟨3, 1, 10, 63⟩ #[(.ref qa1), (.ref qa2), .null] h (fun v h' L => ∃ (uf1 : Addr) (uk2 : ClassId), v = none ∧ Fr n0 L ∧ Keep h h' [qa1] ∧ h.size ≤ uf1 ∧ Exa Z h' qa1 "java/lang/String" ∧ Fld Z h' qa1 "java/lang/String" "value" "[B" (.ref uf1) ∧ Fld Z h' qa1 "java/lang/String" "coder" "B" (.int (0 : Int32)) ∧ Exa Z h' uf1 "[B" ∧ Arv Z h' uf1 uk2 .byte (10 : Int32) [(.int (98 : Int32)), (.int (32 : Int32)), (.int (111 : Int32)), (.int (102 : Int32)), (.int (32 : Int32)), (.int (114 : Int32)), (.int (111 : Int32)), (.int (119 : Int32)), (.int (32 : Int32)), (.int qi2)] (.int (0 : Int32))) := by
  refine con_of_goF kk_98 (fun m => kk_97 m qa1 qa2) ?_
  intro p e s m below meth c T0 C X0 e0
  refine g_aloadN C X0 (pc' := 1) d35_0 rfl rfl rfl ?_
  refine g_initO C X0 (hw _ (List.mem_of_getElem? (i := 234) rfl)) (hw _ (List.mem_of_getElem? (i := 7) rfl)) (hw _ (List.mem_of_getElem? (i := 8) rfl)) e0 d35_1 rfl 0 rfl (by decide) (by decide) rfl ?_
  intro T1 X1 e1
  refine g_aloadN C X1 (pc' := 5) d35_4 rfl rfl rfl ?_
  refine g_callV C X1 (k25_getValue l Z a0 hw h n0 Z0  qa2 qa3    H6) (hw _ (List.mem_of_getElem? (i := 235) rfl)) (hw _ (List.mem_of_getElem? (i := 236) rfl)) (hw _ (List.mem_of_getElem? (i := 238) rfl)) (hw _ (List.mem_of_getElem? (i := 237) rfl)) (hw _ (List.mem_of_getElem? (i := 136) rfl)) (hw _ (List.mem_of_getElem? (i := 239) rfl)) (by decide) e1 H5 d35_5 rfl kk_84 [] [] rfl rfl rfl 0 rfl (by decide) (by decide) (by decide) (by decide) rfl ?_
  rintro _ T2 _ X2 ⟨rfl, rfl, e2⟩
  rw [List.append_nil] at X2
  show Go p.tables e below _ T2 (mkF m 8 #[.val (.ref qa1), .val (.ref qa2), .val .null, .unset, .unset] [(.ref qa3)])
  refine g_astoreN C X2 (pc' := 9) d35_8 rfl (l' := #[.val (.ref qa1), .val (.ref qa2), .val .null, .val (.ref qa3), .unset]) rfl rfl ?_
  refine g_aloadN C X2 (pc' := 10) d35_9 rfl rfl rfl ?_
  refine g_callVZ C (y2 := ⟨"java/lang/AbstractStringBuilder", "ensureCapacityInternal", "(I)V"⟩) X2 (k27_length l Z a0 hw h n0 Z0  qa2    H5 H8) (hw _ (List.mem_of_getElem? (i := 240) rfl)) (hw _ (List.mem_of_getElem? (i := 241) rfl)) (hw _ (List.mem_of_getElem? (i := 243) rfl)) (hw _ (List.mem_of_getElem? (i := 244) rfl)) (hw _ (List.mem_of_getElem? (i := 128) rfl)) (hw _ (List.mem_of_getElem? (i := 245) rfl)) (hw _ (List.mem_of_getElem? (i := 180) rfl)) rfl (by decide) e2 H5 d35_10 rfl kk_48 [] [] rfl rfl rfl 0 rfl (by decide) (by decide) (by decide) (by decide) rfl ?_
  rintro _ T3 _ X3 ⟨rfl, rfl, e3⟩
  rw [List.append_nil] at X3
  show Go p.tables e below _ T3 (mkF m 13 #[.val (.ref qa1), .val (.ref qa2), .val .null, .val (.ref qa3), .unset] [(.int (10 : Int32))])
  refine g_istore C X3 (pc' := 15) d35_13 (x := (10 : Int32)) rfl (l' := #[.val (.ref qa1), .val (.ref qa2), .val .null, .val (.ref qa3), .val (.int (10 : Int32))]) rfl rfl ?_
  refine g_aloadN C X3 (pc' := 16) d35_15 rfl rfl rfl ?_
  refine g_callV C X3 (k21_isLatin1 l Z a0 hw h n0 Z0  qa2 qi1   C0_qi1 H1 H7) (hw _ (List.mem_of_getElem? (i := 248) rfl)) (hw _ (List.mem_of_getElem? (i := 213) rfl)) (hw _ (List.mem_of_getElem? (i := 215) rfl)) (hw _ (List.mem_of_getElem? (i := 214) rfl)) (hw _ (List.mem_of_getElem? (i := 136) rfl)) (hw _ (List.mem_of_getElem? (i := 216) rfl)) (by decide) e3 H5 d35_16 rfl kk_72 [] [] rfl rfl rfl 0 rfl (by decide) (by decide) (by decide) (by decide) rfl ?_
  rintro _ T4 _ X4 ⟨rfl, rfl, e4⟩
  rw [List.append_nil] at X4
  show Go p.tables e below _ T4 (mkF m 19 #[.val (.ref qa1), .val (.ref qa2), .val .null, .val (.ref qa3), .val (.int (10 : Int32))] [(.int (1 : Int32))])
  refine g_ifN C X4 d35_19 (by decide) rfl ?_
  refine g_aloadN C X4 (pc' := 23) d35_22 rfl rfl rfl ?_
  refine g_iconst C X4 (pc' := 24) d35_23 (v := (0 : Int32)) (by decide) rfl ?_
  refine g_putF C X4 (host := "") (Or.inl (hw _ (List.mem_of_getElem? (i := 174) rfl))) Via.refl e4 H4 H2 (Or.inr ⟨(hw _ (List.mem_of_getElem? (i := 149) rfl)), rfl, rfl⟩) (hw _ (List.mem_of_getElem? (i := 147) rfl)) (ty := .byte) (by decide) rfl rfl d35_24 rfl ?_
  intro T5 h5 X5 e5 W5
  have H1 := H1.wr W5
  have H2 := H2.wr W5
  have H3 := H3.other W5 (Or.inr (slot_ne (Or.inr (hw _ (List.mem_of_getElem? (i := 148) rfl))) (Or.inr (hw _ (List.mem_of_getElem? (i := 149) rfl))) (by decide) rfl rfl))
  have H4 := H4.same W5
  have H5 := H5.wr W5
  have H6 := H6.other W5 (Or.inl (Ne.symm ne_qa1_qa2))
  have H7 := H7.other W5 (Or.inl (Ne.symm ne_qa1_qa2))
  have H8 := H8.other W5 (Or.inl (Ne.symm ne_qa1_qa2))
  have H9 := H9.other W5 (Ne.symm ne_qa1_qa3)
  have Z5 : n0 ≤ h5.size := by rw [W5.size]; exact Z0
  have N5 := Fr.snoc X5 (Fr.nil n0) z_qa1
  have P5 := (Keep.refl h [qa1]).wr W5 (Or.inl (List.mem_of_getElem? (i := 0) rfl))
  refine g_aloadN C X5 (pc' := 28) d35_27 rfl rfl rfl ?_
  refine g_aloadN C X5 (pc' := 29) d35_28 rfl rfl rfl ?_
  refine g_iconst C X5 (pc' := 30) d35_29 (v := (0 : Int32)) (by decide) rfl ?_
  refine g_iload C X5 (pc' := 32) d35_30 rfl rfl ?_
  refine g_callS C X5 (k31_copyOfRange l Z a0 hw h5 n0 Z5  qa3 qi2 qk1    H9) (hw _ (List.mem_of_getElem? (i := 249) rfl)) (hw _ (List.mem_of_getElem? (i := 250) rfl)) (hw _ (List.mem_of_getElem? (i := 79) rfl)) (hw _ (List.mem_of_getElem? (i := 251) rfl)) (by decide) e5 d35_32 rfl kk_94 [(.ref qa3), (.int (0 : Int32)), (.int (10 : Int32))] [(.ref qa1)] rfl rfl rfl 1 rfl (by decide) (by decide) (by decide) (by decide) rfl ?_
  rintro _ T6 L6 X6 ⟨b1, kc2, rfl, M6, K6, w_b1, FF3, FF4⟩
  have ne_qa1_b1 : qa1 ≠ b1 := Nat.ne_of_lt (Nat.lt_of_lt_of_le H2.lt w_b1)
  have ne_qa2_b1 : qa2 ≠ b1 := Nat.ne_of_lt (Nat.lt_of_lt_of_le H5.lt w_b1)
  have ne_qa3_b1 : qa3 ≠ b1 := Nat.ne_of_lt (Nat.lt_of_lt_of_le H9.lt w_b1)
  have z_b1 : n0 ≤ b1 := Nat.le_trans Z5 w_b1
  have y_b1 : h.size ≤ b1 := Nat.le_trans P5.1 w_b1
  have H1 := staKeep H1 K6 al0
  have H2 := H2.keep K6
  have H3 := H3.keep K6 nin0
  have H4 := H4.keep K6 nin0
  have H5 := H5.keep K6
  have H6 := H6.keep K6 nin0
  have H7 := H7.keep K6 nin0
  have H8 := H8.keep K6 nin0
  have H9 := H9.keep K6 nin0
  have Z6 : n0 ≤ T6.heap.size := Nat.le_trans Z5 K6.1
  have P6 := P5.trans K6 al0
  have N6 := Fr.app N5 M6
  obtain ⟨h6, e6⟩ : ∃ z, T6.heap = z := ⟨_, rfl⟩
  rw [e6] at H1 H2 H3 H4 H5 H6 H7 H8 H9 FF3 FF4 Z6 P6
  show Go p.tables e below _ T6 (mkF m 35 #[.val (.ref qa1), .val (.ref qa2), .val .null, .val (.ref qa3), .val (.int (10 : Int32))] [(.ref b1), (.ref qa1)])
  refine g_putF C X6 (host := "") (Or.inl (hw _ (List.mem_of_getElem? (i := 167) rfl))) Via.refl e6 H3 H2 (Or.inr ⟨(hw _ (List.mem_of_getElem? (i := 148) rfl)), rfl, rfl⟩) (hw _ (List.mem_of_getElem? (i := 147) rfl)) (ty := (.array .byte)) (by decide) rfl rfl d35_35 rfl ?_
  intro T7 h7 X7 e7 W7
  have H1 := H1.wr W7
  have H2 := H2.wr W7
  have H3 := H3.same W7
  have H4 := H4.other W7 (Or.inr (slot_ne (Or.inr (hw _ (List.mem_of_getElem? (i := 149) rfl))) (Or.inr (hw _ (List.mem_of_getElem? (i := 148) rfl))) (by decide) rfl rfl))
  have H5 := H5.wr W7
  have H6 := H6.other W7 (Or.inl (Ne.symm ne_qa1_qa2))
  have H7 := H7.other W7 (Or.inl (Ne.symm ne_qa1_qa2))
  have H8 := H8.other W7 (Or.inl (Ne.symm ne_qa1_qa2))
  have H9 := H9.other W7 (Ne.symm ne_qa1_qa3)
  have FF3 := FF3.wr W7
  have FF4 := FF4.other W7 (Ne.symm ne_qa1_b1)
  have Z7 : n0 ≤ h7.size := by rw [W7.size]; exact Z6
  have N7 := Fr.snoc X7 N6 z_qa1
  have P7 := P6.wr W7 (Or.inl (List.mem_of_getElem? (i := 0) rfl))
  refine g_goto C X7 d35_38 (pc' := 97) (by decide) (by decide) ?_
  exact g_return C X7 d35_97 (⟨b1, kc2, rfl, N7, by rw [e7]; exact P7, y_b1, by rw [e7]; exact H2, by rw [e7]; exact H3, by rw [e7]; exact H4, by rw [e7]; exact FF3, by rw [e7]; exact FF4⟩) (by decide) (by decide)
theorem kk_99 : parseMethodDescriptor "(Ljava/lang/AbstractStringBuilder;Ljava/lang/Void;)V" = some ⟨[(.object "java/lang/AbstractStringBuilder"), (.object "java/lang/Void")], none⟩ := by decide +kernel
theorem kk_100 (m : MethodId) (x0 : Addr) (x1 : Addr) : entryFrame m #[(.ref x0), (.ref x1)] 2 = mkF m 0 #[.val (.ref x0), .val (.ref x1)] [] := by first | (simp [entryFrame, mkF, argsToLocals, Value.category]; done) | rfl
theorem kk_101 : plainFor (⟨"java/lang/String", "<init>", "(Ljava/lang/StringBuilder;)V"⟩ : MethodName) = true := by decide +kernel
set_option maxRecDepth 65536 in
set_option maxHeartbeats 40000000 in
theorem k33_init (l : Launch) (Z : State) (a0 : Array Value) (hw : ∀ d ∈ tables_1, d.before a0 Z = true) (h : Heap) (n0 : Nat) (Z0 : n0 ≤ h.size) (qa1 : Addr) (qa2 : Addr) (qi1 : Int32) (qa3 : Addr) (qi2 : Int32) (qk1 : ClassId) (z_qa1 : n0 ≤ qa1) (ne_qa1_qa2 : qa1 ≠ qa2) (ne_qa1_qa3 : qa1 ≠ qa3) (C0_qi1 : ¬ (qi1.toInt = 0)) (H1 : Sta Z h "java/lang/String" "COMPACT_STRINGS" "Z" (.int qi1)) (H2 : Exa Z h qa1 "java/lang/String") (H3 : Fld Z h qa1 "java/lang/String" "value" "[B" .null) (H4 : Fld Z h qa1 "java/lang/String" "coder" "B" (.int (0 : Int32))) (H5 : Exa Z h qa2 "java/lang/StringBuilder") (H6 : Fld Z h qa2 "java/lang/AbstractStringBuilder" "value" "[B" (.ref qa3)) (H7 : Fld Z h qa2 "java/lang/AbstractStringBuilder" "coder" "B" (.int (0 : Int32))) (H8 : Fld Z h qa2 "java/lang/AbstractStringBuilder" "count" "I" (.int (10 : Int32))) (H9 : Arv Z h qa3 qk1 .byte (16 : Int32) [(.int (98 : Int32)), (.int (32 : Int32)), (.int (111 : Int32)), (.int (102 : Int32)), (.int (32 : Int32)), (.int (114 : Int32)), (.int (111 : Int32)), (.int (119 : Int32)), (.int (32 : Int32)), (.int qi2)] (.int (0 : Int32))) :
    Con l Z (⟨"java/lang/String", "<init>", "(Ljava/lang/StringBuilder;)V"⟩ : MethodName) jdk_42_method_53_code 2 none ⟨4, 1, 10, 79⟩ #[(.ref qa1), (.ref qa2)] h (fun v h' L => ∃ (uf1 : Addr) (uk2 : ClassId), v = none ∧ Fr n0 L ∧ Keep h h' [qa1] ∧ h.size ≤ uf1 ∧ Exa Z h' qa1 "java/lang/String" ∧ Fld Z h' qa1 "java/lang/String" "value" "[B" (.ref uf1) ∧ Fld Z h' qa1 "java/lang/String" "coder" "B" (.int (0 : Int32)) ∧ Exa Z h' uf1 "[B" ∧ Arv Z h' uf1 uk2 .byte (10 : Int32) [(.int (98 : Int32)), (.int (32 : Int32)), (.int (111 : Int32)), (.int (102 : Int32)), (.int (32 : Int32)), (.int (114 : Int32)), (.int (111 : Int32)), (.int (119 : Int32)), (.int (32 : Int32)), (.int qi2)] (.int (0 : Int32))) := by
  refine con_of_goF kk_101 (fun m => kk_100 m qa1 qa2) ?_
  intro p e s m below meth c T0 C X0 e0
  refine g_aloadN C X0 (pc' := 1) d34_0 rfl rfl rfl ?_
  refine g_aloadN C X0 (pc' := 2) d34_1 rfl rfl rfl ?_
  refine g_aconstNull C X0 (pc' := 3) d34_2 rfl ?_
  refine g_callI C X0 (k32_init l Z a0 hw h n0 Z0  qa1 qa2 qi1 qa3 qi2 qk1 z_qa1 ne_qa1_qa2 ne_qa1_qa3 C0_qi1 H1 H2 H3 H4 H5 H6 H7 H8 H9) rfl (hw _ (List.mem_of_getElem? (i := 231) rfl)) (hw _ (List.mem_of_getElem? (i := 232) rfl)) (hw _ (List.mem_of_getElem? (i := 140) rfl)) (hw _ (List.mem_of_getElem? (i := 233) rfl)) (by decide) e0 d34_3 rfl kk_99 qa1 [(.ref qa2), .null] [] rfl rfl rfl 0 rfl (by decide) (by decide) (by decide) (by decide) rfl ?_
  rintro _ T1 L1 X1 ⟨b1, kc2, rfl, M1, K1, w_b1, FF3, FF4, FF5, FF6, FF7⟩
  have ne_qa1_b1 : qa1 ≠ b1 := Nat.ne_of_lt (Nat.lt_of_lt_of_le H2.lt w_b1)
  have ne_qa2_b1 : qa2 ≠ b1 := Nat.ne_of_lt (Nat.lt_of_lt_of_le H5.lt w_b1)
  have ne_qa3_b1 : qa3 ≠ b1 := Nat.ne_of_lt (Nat.lt_of_lt_of_le H9.lt w_b1)
  have z_b1 : n0 ≤ b1 := Nat.le_trans Z0 w_b1
  have y_b1 : h.size ≤ b1 := Nat.le_trans (Keep.refl h [qa1]).1 w_b1
  have H1 := staKeep H1 K1 (alc H2.nostat al0)
  have H5 := H5.keep K1
  have H6 := H6.keep K1 (ninS (Ne.symm ne_qa1_qa2) nin0)
  have H7 := H7.keep K1 (ninS (Ne.symm ne_qa1_qa2) nin0)
  have H8 := H8.keep K1 (ninS (Ne.symm ne_qa1_qa2) nin0)
  have H9 := H9.keep K1 (ninS (Ne.symm ne_qa1_qa3) nin0)
  have Z1 : n0 ≤ T1.heap.size := Nat.le_trans Z0 K1.1
  have P1 := (Keep.refl h [qa1]).trans K1 (alc (Or.inl (List.mem_of_getElem? (i := 0) rfl)) al0)
  have N1 := Fr.app (Fr.nil n0) M1
  obtain ⟨h1, e1⟩ : ∃ z, T1.heap = z := ⟨_, rfl⟩
  rw [e1] at H1 H5 H6 H7 H8 H9 FF3 FF4 FF5 FF6 FF7 Z1 P1
  show Go p.tables e below _ T1 (mkF m 6 #[.val (.ref qa1), .val (.ref qa2)] [])
  exact g_return C X1 d34_6 (⟨b1, kc2, rfl, N1, by rw [e1]; exact P1, y_b1, by rw [e1]; exact FF3, by rw [e1]; exact FF4, by rw [e1]; exact FF5, by rw [e1]; exact FF6, by rw [e1]; exact FF7⟩) (by decide) (by decide)
theorem kk_102 : parseMethodDescriptor "(Ljava/lang/StringBuilder;)V" = some ⟨[(.object "java/lang/StringBuilder")], none⟩ := by decide +kernel
theorem kk_103 (m : MethodId) (x0 : Addr) : entryFrame m #[(.ref x0)] 1 = mkF m 0 #[.val (.ref x0)] [] := by first | (simp [entryFrame, mkF, argsToLocals, Value.category]; done) | rfl
theorem kk_104 : plainFor (⟨"java/lang/StringBuilder", "toString", "()Ljava/lang/String;"⟩ : MethodName) = true := by decide +kernel
set_option maxRecDepth 65536 in
set_option maxHeartbeats 40000000 in
theorem k34_toString (l : Launch) (Z : State) (a0 : Array Value) (hw : ∀ d ∈ tables_1, d.before a0 Z = true) (h : Heap) (n0 : Nat) (Z0 : n0 ≤ h.size) (qa1 : Addr) (qi1 : Int32) (qa2 : Addr) (qi2 : Int32) (qk1 : ClassId) (C0_qi1 : ¬ (qi1.toInt = 0)) (H1 : Sta Z h "java/lang/String" "COMPACT_STRINGS" "Z" (.int qi1)) (H2 : Exa Z h qa1 "java/lang/StringBuilder") (H3 : Fld Z h qa1 "java/lang/AbstractStringBuilder" "value" "[B" (.ref qa2)) (H4 : Fld Z h qa1 "java/lang/AbstractStringBuilder" "coder" "B" (.int (0 : Int32))) (H5 : Fld Z h qa1 "java/lang/AbstractStringBuilder" "count" "I" (.int (10 : Int32))) (H6 : Arv Z h qa2 qk1 .byte (16 : Int32) [(.int (98 : Int32)), (.int (32 : Int32)), (.int (111 : Int32)), (.int (102 : Int32)), (.int (32 : Int32)), (.int (114 : Int32)), (.int (111 : Int32)), (.int (119 : Int32)), (.int (32 : Int32)), (.int qi2)] (.int (0 : Int32))) :
    Con l Z (⟨"java/lang/StringBuilder", "toString", "()Ljava/lang/String;"⟩ : MethodName) jdk_67_method_42_code 1 (some (.object "java/lang/String")) ⟨5, 2, 14, 93⟩ #[(.ref qa1)] h (fun v h' L => ∃ (uf1 : Addr) (uf2 : Addr) (uk3 : ClassId), v = some (.ref uf1) ∧ Fr n0 L ∧ Keep h h' [] ∧ h.size ≤ uf1 ∧ uf1 ≠ uf2 ∧ h.size ≤ uf2 ∧ Exa Z h' uf1 "java/lang/String" ∧ Fld Z h' uf1 "java/lang/String" "value" "[B" (.ref uf2) ∧ Fld Z h' uf1 "java/lang/String" "coder" "B" (.int (0 : Int32)) ∧ Exa Z h' uf2 "[B" ∧ Arv Z h' uf2 uk3 .byte (10 : Int32) [(.int (98 : Int32)), (.int (32 : Int32)), (.int (111 : Int32)), (.int (102 : Int32)), (.int (32 : Int32)), (.int (114 : Int32)), (.int (111 : Int32)), (.int (119 : Int32)), (.int (32 : Int32)), (.int qi2)] (.int (0 : Int32))) := by
  refine con_of_goF kk_104 (fun m => kk_103 m qa1) ?_
  intro p e s m below meth c T0 C X0 e0
  refine g_new C X0 (hw _ (List.mem_of_getElem? (i := 226) rfl)) (hw _ (List.mem_of_getElem? (i := 147) rfl)) (hw _ (List.mem_of_getElem? (i := 140) rfl)) e0 d33_0 (by decide) (by decide) rfl ?_
  intro T1 h1 a1 g1 X1 e1 E1 A1 D1
  have ne_qa1_a1 : qa1 ≠ a1 := Nat.ne_of_lt (by rw [g1]; exact H2.lt)
  have ne_qa2_a1 : qa2 ≠ a1 := Nat.ne_of_lt (by rw [g1]; exact H6.lt)
  have z_a1 : n0 ≤ a1 := by rw [g1]; exact Z0
  have y_a1 : h.size ≤ a1 := by rw [g1]; exact (Keep.refl h []).1
  have H1 := H1.ext E1
  have H2 := H2.ext E1
  have H3 := H3.ext E1
  have H4 := H4.ext E1
  have H5 := H5.ext E1
  have H6 := H6.ext E1
  have P1 := (Keep.refl h []).ext E1
  have Z1 : n0 ≤ h1.size := Nat.le_trans Z0 E1.1
  have F1_1 : Fld Z h1 a1 "java/lang/String" "value" "[B" .null := D1 (Or.inr (hw _ (List.mem_of_getElem? (i := 148) rfl))) (ty := (.array .byte)) (by decide)
  have F1_2 : Fld Z h1 a1 "java/lang/String" "coder" "B" (.int (0 : Int32)) := D1 (Or.inr (hw _ (List.mem_of_getElem? (i := 149) rfl))) (ty := .byte) (by decide)
  refine g_dup C X1 (pc' := 4) d33_3 rfl rfl ?_
  refine g_aloadN C X1 (pc' := 5) d33_4 rfl rfl rfl ?_
  refine g_callI C X1 (k33_init l Z a0 hw h1 n0 Z1  a1 qa1 qi1 qa2 qi2 qk1 z_a1 (Ne.symm ne_qa1_a1) (Ne.symm ne_qa2_a1) C0_qi1 H1 A1 F1_1 F1_2 H2 H3 H4 H5 H6) rfl (hw _ (List.mem_of_getElem? (i := 227) rfl)) (hw _ (List.mem_of_getElem? (i := 228) rfl)) (hw _ (List.mem_of_getElem? (i := 140) rfl)) (hw _ (List.mem_of_getElem? (i := 230) rfl)) (by decide) e1 d33_5 rfl kk_102 a1 [(.ref qa1)] [(.ref a1)] rfl rfl rfl 1 rfl (by decide) (by decide) (by decide) (by decide) rfl ?_
  rintro _ T2 L2 X2 ⟨b1, kc2, rfl, M2, K2, w_b1, FF3, FF4, FF5, FF6, FF7⟩
  have ne_a1_b1 : a1 ≠ b1 := Nat.ne_of_lt (Nat.lt_of_lt_of_le A1.lt w_b1)
  have ne_qa1_b1 : qa1 ≠ b1 := Nat.ne_of_lt (Nat.lt_of_lt_of_le H2.lt w_b1)
  have ne_qa2_b1 : qa2 ≠ b1 := Nat.ne_of_lt (Nat.lt_of_lt_of_le H6.lt w_b1)
  have z_b1 : n0 ≤ b1 := Nat.le_trans Z1 w_b1
  have y_b1 : h.size ≤ b1 := Nat.le_trans P1.1 w_b1
  have H1 := staKeep H1 K2 (alc A1.nostat al0)
  have H2 := H2.keep K2
  have H3 := H3.keep K2 (ninS ne_qa1_a1 nin0)
  have H4 := H4.keep K2 (ninS ne_qa1_a1 nin0)
  have H5 := H5.keep K2 (ninS ne_qa1_a1 nin0)
  have H6 := H6.keep K2 (ninS ne_qa2_a1 nin0)
  have Z2 : n0 ≤ T2.heap.size := Nat.le_trans Z1 K2.1
  have P2 := P1.trans K2 (alc (Or.inr y_a1) al0)
  have N2 := Fr.app (Fr.nil n0) M2
  obtain ⟨h2, e2⟩ : ∃ z, T2.heap = z := ⟨_, rfl⟩
  rw [e2] at H1 H2 H3 H4 H5 H6 FF3 FF4 FF5 FF6 FF7 Z2 P2
  show Go p.tables e below _ T2 (mkF m 8 #[.val (.ref qa1)] [(.ref a1)])
  exact g_areturn C X2 d33_8 rfl rfl rfl (⟨a1, b1, kc2, rfl, N2, by rw [e2]; exact P2, y_a1, ne_a1_b1, y_b1, by rw [e2]; exact FF3, by rw [e2]; exact FF4, by rw [e2]; exact FF5, by rw [e2]; exact FF6, by rw [e2]; exact FF7⟩) (by decide) (by decide)
theorem kk_105 : parseMethodDescriptor "()Ljava/lang/String;" = some ⟨[], (some (.object "java/lang/String"))⟩ := by decide +kernel
theorem kk_106 : parseMethodDescriptor "(DLjava/lang/String;)V" = some ⟨[.double, (.object "java/lang/String")], none⟩ := by decide +kernel
set_option maxRecDepth 65536 in
set_option maxHeartbeats 40000000 in
theorem itB1 (l : Launch) (Z : State) (a0 : Array Value) (hw : ∀ d ∈ tables_1, d.before a0 Z = true) (h : Heap) (n0 : Nat) (Z0 : n0 ≤ h.size) {p : Program} {e : Env} {R : Room} {s : State} {m : MethodId} {args : Array Value} {below : List Frame} {meth : Method} {c : Code} {T0 : State} {locs : List Loc} {cells slots : Nat} {G : Outcome → State → Prop} (C : Cx p l s m meth c Z (⟨"com/example/fleetloom/fleetloom/ChainedProgramme$Builder", "build", "()Lcom/example/fleetloom/fleetloom/ChainedProgramme;"⟩ : MethodName) prog_4_method_6_code 3 (some (.object "com/example/fleetloom/fleetloom/ChainedProgramme"))) (X0 : Stand p l e R s m args below meth c T0 locs cells slots) (e0 : T0.heap = h) (N0 : Fr n0 locs) (cs : Int32) (dg1 dg2 : Addr) (hcs : ¬ (cs.toInt = 0)) (bu pr sb bv lit lb : Addr) (kv kl : ClassId) (i : Int32) (v : UInt64) (hF : Fin v) (hi : 0 ≤ i.toInt ∧ i.toInt ≤ 9) (hRf : 8 ≤ R.frames) (hRl : 180 ≤ R.locals) (hRc : cells + 2 ≤ R.cells) (hRs : slots + 15 ≤ R.slots) (z_sb : n0 ≤ sb) (z_bv : n0 ≤ bv) (ne_sb_bv : sb ≠ bv) (ne_sb_lit : sb ≠ lit) (ne_sb_lb : sb ≠ lb) (ne_sb_dg1 : sb ≠ dg1) (ne_sb_dg2 : sb ≠ dg2) (ne_bv_lit : bv ≠ lit) (ne_bv_lb : bv ≠ lb) (ne_bv_dg1 : bv ≠ dg1) (ne_bv_dg2 : bv ≠ dg2) (ne_lit_lb : lit ≠ lb) (Xs : Exa Z h sb "java/lang/StringBuilder") (Sb1 : Fld Z h sb "java/lang/AbstractStringBuilder" "value" "[B" (.ref bv)) (Sb2 : Fld Z h sb "java/lang/AbstractStringBuilder" "coder" "B" (.int (0 : Int32))) (Sb3 : Fld Z h sb "java/lang/AbstractStringBuilder" "count" "I" (.int (0 : Int32))) (Sb4 : Arv Z h bv kv .byte (16 : Int32) [] (.int (0 : Int32))) (Sb5 : Exa Z h bv "[B") (Xl : Exa Z h lit "java/lang/String") (Lt1 : Fld Z h lit "java/lang/String" "coder" "B" (.int (0 : Int32))) (Lt2 : Fld Z h lit "java/lang/String" "value" "[B" (.ref lb)) (Lt3 : Arv Z h lb kl .byte (9 : Int32) [(.int (98 : Int32)), (.int (32 : Int32)), (.int (111 : Int32)), (.int (102 : Int32)), (.int (32 : Int32)), (.int (114 : Int32)), (.int (111 : Int32)), (.int (119 : Int32)), (.int (32 : Int32))] (.int (0 : Int32))) (FS0 : Sta Z h "java/lang/String" "COMPACT_STRINGS" "Z" (.int cs)) (FS1 : Sta Z h "java/lang/Integer" "DigitOnes" "[B" (.ref dg1)) (FS2 : Sta Z h "java/lang/Integer" "DigitTens" "[B" (.ref dg2)) (BA1 : BArr Z h dg1) (BA2 : BArr Z h dg2)
    (K : ∀ T' h' L i1, i1 = i + Int32.ofInt 1 → Stand p l e R s m args below meth c T' L (cells + 2) (slots + 15) → T'.heap = h' → Fr n0 L → Keep h h' [sb, bv] → Go p.tables e below G T' (mkF m 11 #[.val (.ref bu), .val (.ref pr), .val (.int i1)] [])) :
    Go p.tables e below G T0 (mkF m 34 #[.val (.ref bu), .val (.ref pr), .val (.int i)] [.ref lit, .ref sb, .double v]) := by
  refine g_callV C X0 (k18_append l Z a0 hw h n0 Z0  sb lit cs bv lb kv kl z_sb z_bv ne_sb_lit ne_sb_bv ne_sb_lb (Ne.symm ne_bv_lit) ne_bv_lb hcs FS0 Xs Sb1 Sb2 Sb3 Xl Lt1 Lt2 Sb4 Sb5 Lt3) (hw _ (List.mem_of_getElem? (i := 152) rfl)) (hw _ (List.mem_of_getElem? (i := 153) rfl)) (hw _ (List.mem_of_getElem? (i := 155) rfl)) (hw _ (List.mem_of_getElem? (i := 154) rfl)) (hw _ (List.mem_of_getElem? (i := 128) rfl)) (hw _ (List.mem_of_getElem? (i := 156) rfl)) (by first | decide | omega | (dsimp only; omega)) e0 Xs d10_34 rfl kk_66 [(.ref lit)] [(.double v)] rfl rfl rfl 2 rfl (by first | decide | omega | (dsimp only; omega)) (by first | decide | omega | (dsimp only; omega)) (by first | decide | omega | (dsimp only; omega)) (by first | decide | omega | (dsimp only; omega)) rfl ?_
  rintro _ T1 L1 X1 ⟨rfl, M1, K1, FF1, FF2, FF3, FF4, FF5, FF6⟩
  have Xl := Xl.keep K1
  have Lt1 := Lt1.keep K1 (ninS (Ne.symm ne_sb_lit) (ninS (Ne.symm ne_bv_lit) nin0))
  have Lt2 := Lt2.keep K1 (ninS (Ne.symm ne_sb_lit) (ninS (Ne.symm ne_bv_lit) nin0))
  have Lt3 := Lt3.keep K1 (ninS (Ne.symm ne_sb_lb) (ninS (Ne.symm ne_bv_lb) nin0))
  have FS0 := staKeep FS0 K1 (alc Xs.nostat (alc Sb4.nostat al0))
  have FS1 := staKeep FS1 K1 (alc Xs.nostat (alc Sb4.nostat al0))
  have FS2 := staKeep FS2 K1 (alc Xs.nostat (alc Sb4.nostat al0))
  have BA1 := BA1.keep K1 (ninS (Ne.symm ne_sb_dg1) (ninS (Ne.symm ne_bv_dg1) nin0))
  have BA2 := BA2.keep K1 (ninS (Ne.symm ne_sb_dg2) (ninS (Ne.symm ne_bv_dg2) nin0))
  have Z1 : n0 ≤ T1.heap.size := Nat.le_trans Z0 K1.1
  have P1 := (Keep.refl h [sb, bv]).trans K1 (alc (Or.inl (List.mem_of_getElem? (i := 0) rfl)) (alc (Or.inl (List.mem_of_getElem? (i := 1) rfl)) al0))
  have N1 := Fr.app N0 M1
  obtain ⟨h1, e1⟩ : ∃ z, T1.heap = z := ⟨_, rfl⟩
  rw [e1] at Xl Lt1 Lt2 Lt3 FS0 FS1 FS2 BA1 BA2 FF1 FF2 FF3 FF4 FF5 FF6 Z1 P1
  show Go p.tables e below _ T1 (mkF m 37 #[.val (.ref bu), .val (.ref pr), .val (.int i)] [(.ref sb), (.double v)])
  refine g_iloadN C X1 (pc' := 38) d10_37 rfl rfl ?_
  refine g_callV C X1 (k24_append l Z a0 hw h1 n0 Z1  sb i cs dg1 bv kv z_sb z_bv ne_sb_dg1 ne_sb_bv (Ne.symm ne_bv_dg1) hi hcs FS0 FS1 FF1 FF2 FF3 FF4 BA1 FF5 FF6) (hw _ (List.mem_of_getElem? (i := 199) rfl)) (hw _ (List.mem_of_getElem? (i := 200) rfl)) (hw _ (List.mem_of_getElem? (i := 202) rfl)) (hw _ (List.mem_of_getElem? (i := 201) rfl)) (hw _ (List.mem_of_getElem? (i := 128) rfl)) (hw _ (List.mem_of_getElem? (i := 203) rfl)) (by first | decide | omega | (dsimp only; omega)) e1 FF1 d10_38 rfl kk_81 [(.int i)] [(.double v)] rfl rfl rfl 2 rfl (by first | decide | omega | (dsimp only; omega)) (by first | decide | omega | (dsimp only; omega)) (by first | decide | omega | (dsimp only; omega)) (by first | decide | omega | (dsimp only; omega)) rfl ?_
  rintro _ T2 L2 X2 ⟨ri7, rfl, M2, K2, FF8, FF9, FF10, FF11, FF12, FF13⟩
  have Xl := Xl.keep K2
  have Lt1 := Lt1.keep K2 (ninS (Ne.symm ne_sb_lit) (ninS (Ne.symm ne_bv_lit) nin0))
  have Lt2 := Lt2.keep K2 (ninS (Ne.symm ne_sb_lit) (ninS (Ne.symm ne_bv_lit) nin0))
  have Lt3 := Lt3.keep K2 (ninS (Ne.symm ne_sb_lb) (ninS (Ne.symm ne_bv_lb) nin0))
  have FS0 := staKeep FS0 K2 (alc FF1.nostat (alc FF5.nostat al0))
  have FS1 := staKeep FS1 K2 (alc FF1.nostat (alc FF5.nostat al0))
  have FS2 := staKeep FS2 K2 (alc FF1.nostat (alc FF5.nostat al0))
  have BA1 := BA1.keep K2 (ninS (Ne.symm ne_sb_dg1) (ninS (Ne.symm ne_bv_dg1) nin0))
  have BA2 := BA2.keep K2 (ninS (Ne.symm ne_sb_dg2) (ninS (Ne.symm ne_bv_dg2) nin0))
  have Z2 : n0 ≤ T2.heap.size := Nat.le_trans Z1 K2.1
  have P2 := P1.trans K2 (alc (Or.inl (List.mem_of_getElem? (i := 0) rfl)) (alc (Or.inl (List.mem_of_getElem? (i := 1) rfl)) al0))
  have N2 := Fr.app N1 M2
  obtain ⟨h2, e2⟩ : ∃ z, T2.heap = z := ⟨_, rfl⟩
  rw [e2] at Xl Lt1 Lt2 Lt3 FS0 FS1 FS2 BA1 BA2 FF8 FF9 FF10 FF11 FF12 FF13 Z2 P2
  show Go p.tables e below _ T2 (mkF m 41 #[.val (.ref bu), .val (.ref pr), .val (.int i)] [(.ref sb), (.double v)])
  refine g_callV C X2 (k34_toString l Z a0 hw h2 n0 Z2  sb cs bv ri7 kv   hcs FS0 FF8 FF9 FF10 FF11 FF13) (hw _ (List.mem_of_getElem? (i := 221) rfl)) (hw _ (List.mem_of_getElem? (i := 222) rfl)) (hw _ (List.mem_of_getElem? (i := 224) rfl)) (hw _ (List.mem_of_getElem? (i := 223) rfl)) (hw _ (List.mem_of_getElem? (i := 128) rfl)) (hw _ (List.mem_of_getElem? (i := 225) rfl)) (by first | decide | omega | (dsimp only; omega)) e2 FF8 d10_41 rfl kk_105 [] [(.double v)] rfl rfl rfl 2 rfl (by first | decide | omega | (dsimp only; omega)) (by first | decide | omega | (dsimp only; omega)) (by first | decide | omega | (dsimp only; omega)) (by first | decide | omega | (dsimp only; omega)) rfl ?_
  rintro _ T3 L3 X3 ⟨b14, b15, kc16, rfl, M3, K3, w_b14, ne_b14_b15, w_b15, FF17, FF18, FF19, FF20, FF21⟩
  have ne_bv_b14 : bv ≠ b14 := Nat.ne_of_lt (Nat.lt_of_lt_of_le FF12.lt w_b14)
  have ne_dg1_b14 : dg1 ≠ b14 := Nat.ne_of_lt (Nat.lt_of_lt_of_le BA1.lt w_b14)
  have ne_dg2_b14 : dg2 ≠ b14 := Nat.ne_of_lt (Nat.lt_of_lt_of_le BA2.lt w_b14)
  have ne_lb_b14 : lb ≠ b14 := Nat.ne_of_lt (Nat.lt_of_lt_of_le Lt3.lt w_b14)
  have ne_lit_b14 : lit ≠ b14 := Nat.ne_of_lt (Nat.lt_of_lt_of_le Xl.lt w_b14)
  have ne_sb_b14 : sb ≠ b14 := Nat.ne_of_lt (Nat.lt_of_lt_of_le FF8.lt w_b14)
  have z_b14 : n0 ≤ b14 := Nat.le_trans Z2 w_b14
  have y_b14 : h.size ≤ b14 := Nat.le_trans P2.1 w_b14
  have ne_bv_b15 : bv ≠ b15 := Nat.ne_of_lt (Nat.lt_of_lt_of_le FF12.lt w_b15)
  have ne_dg1_b15 : dg1 ≠ b15 := Nat.ne_of_lt (Nat.lt_of_lt_of_le BA1.lt w_b15)
  have ne_dg2_b15 : dg2 ≠ b15 := Nat.ne_of_lt (Nat.lt_of_lt_of_le BA2.lt w_b15)
  have ne_lb_b15 : lb ≠ b15 := Nat.ne_of_lt (Nat.lt_of_lt_of_le Lt3.lt w_b15)
  have ne_lit_b15 : lit ≠ b15 := Nat.ne_of_lt (Nat.lt_of_lt_of_le Xl.lt w_b15)
  have ne_sb_b15 : sb ≠ b15 := Nat.ne_of_lt (Nat.lt_of_lt_of_le FF8.lt w_b15)
  have z_b15 : n0 ≤ b15 := Nat.le_trans Z2 w_b15
  have y_b15 : h.size ≤ b15 := Nat.le_trans P2.1 w_b15
  have Xl := Xl.keep K3
  have Lt1 := Lt1.keep K3 nin0
  have Lt2 := Lt2.keep K3 nin0
  have Lt3 := Lt3.keep K3 nin0
  have FS0 := staKeep FS0 K3 al0
  have FS1 := staKeep FS1 K3 al0
  have FS2 := staKeep FS2 K3 al0
  have BA1 := BA1.keep K3 nin0
  have BA2 := BA2.keep K3 nin0
  have FF8 := FF8.keep K3
  have FF9 := FF9.keep K3 nin0
  have FF10 := FF10.keep K3 nin0
  have FF11 := FF11.keep K3 nin0
  have FF12 := FF12.keep K3
  have FF13 := FF13.keep K3 nin0
  have Z3 : n0 ≤ T3.heap.size := Nat.le_trans Z2 K3.1
  have P3 := P2.trans K3 al0
  have N3 := Fr.app N2 M3
  obtain ⟨h3, e3⟩ : ∃ z, T3.heap = z := ⟨_, rfl⟩
  rw [e3] at Xl Lt1 Lt2 Lt3 FS0 FS1 FS2 BA1 BA2 FF8 FF9 FF10 FF11 FF12 FF13 FF17 FF18 FF19 FF20 FF21 Z3 P3
  show Go p.tables e below _ T3 (mkF m 44 #[.val (.ref bu), .val (.ref pr), .val (.int i)] [(.ref b14), (.double v)])
  refine g_callS C X3 (c_fin l Z a0 hw h3 n0 Z3 v b14 hF) (hw _ (List.mem_of_getElem? (i := 258) rfl)) (hw _ (List.mem_of_getElem? (i := 259) rfl)) (hw _ (List.mem_of_getElem? (i := 2) rfl)) (hw _ (List.mem_of_getElem? (i := 260) rfl)) (by first | decide | omega | (dsimp only; omega)) e3 d10_44 rfl kk_106 [(.double v), (.ref b14)] [] rfl rfl rfl 0 rfl (by first | decide | omega | (dsimp only; omega)) (by first | decide | omega | (dsimp only; omega)) (by first | decide | omega | (dsimp only; omega)) (by first | decide | omega | (dsimp only; omega)) rfl ?_
  rintro _ T4 _ X4 ⟨rfl, rfl, e4⟩
  rw [List.append_nil] at X4
  show Go p.tables e below _ T4 (mkF m 47 #[.val (.ref bu), .val (.ref pr), .val (.int i)] [])
  obtain ⟨i22, e_i22⟩ : ∃ z : Int32, z = i + Int32.ofInt (1) := ⟨_, rfl⟩
  refine g_iinc C X4 (pc' := 50) d10_47 rfl (z := i22) e_i22 (l' := #[.val (.ref bu), .val (.ref pr), .val (.int i22)]) rfl rfl ?_
  refine g_goto C X4 d10_50 (pc' := 11) (by first | decide | omega | (dsimp only; omega)) (by first | decide | omega | (dsimp only; omega)) ?_
  exact K T4 h3 _ i22 e_i22 (X4.more (by first | decide | omega | (dsimp only; omega)) (by first | decide | omega | (dsimp only; omega))) e4 N3 P3
set_option maxRecDepth 65536 in
set_option maxHeartbeats 40000000 in
theorem k35_stringSize (l : Launch) (Z : State) (a0 : Array Value) (hw : ∀ d ∈ tables_1, d.before a0 Z = true) (h : Heap) (n0 : Nat) (Z0 : n0 ≤ h.size) (qi1 : Int32) (B_qi1 : 10 ≤ qi1.toInt ∧ qi1.toInt ≤ 46) :
    Con l Z (⟨"java/lang/Integer", "stringSize", "(I)I"⟩ : MethodName) jdk_33_method_13_code 4 (some .int) ⟨0, 0, 0, 0⟩ #[(.int qi1)] h (fun v h' L => v = some (.int ((2 : Int32) + (0 : Int32))) ∧ L = [] ∧ h' = h) := by
  refine con_of_goF kk_68 (fun m => kk_67 m qi1) ?_
  intro p e s m below meth c T0 C X0 e0
  refine g_iconst C X0 (pc' := 1) d30_0 (v := (1 : Int32)) (by decide) rfl ?_
  refine g_istoreN C X0 (pc' := 2) d30_1 (x := (1 : Int32)) rfl (l' := #[.val (.int qi1), .val (.int (1 : Int32)), .unset, .unset]) rfl rfl ?_
  refine g_iloadN C X0 (pc' := 3) d30_2 rfl rfl ?_
  refine g_ifN C X0 d30_3 (by have q0 := B_qi1; have q1 : (0 : Int32).toInt = 0 := (by decide); unfold cpI; omega) rfl ?_
  refine g_iconst C X0 (pc' := 7) d30_6 (v := (0 : Int32)) (by decide) rfl ?_
  refine g_istoreN C X0 (pc' := 8) d30_7 (x := (0 : Int32)) rfl (l' := #[.val (.int qi1), .val (.int (0 : Int32)), .unset, .unset]) rfl rfl ?_
  refine g_iloadN C X0 (pc' := 9) d30_8 rfl rfl ?_
  refine g_ineg C X0 (pc' := 10) d30_9 rfl ?_
  obtain ⟨i1, e_i1⟩ : ∃ z : Int32, z = -qi1 := ⟨_, rfl⟩
  have b_i1 : -46 ≤ i1.toInt ∧ i1.toInt ≤ -10 := by rw [e_i1]; exact (own_nb B_qi1 (by decide))
  refine g_istoreN C X0 (pc' := 11) d30_10 (x := i1) e_i1 (l' := #[.val (.int i1), .val (.int (0 : Int32)), .unset, .unset]) rfl rfl ?_
  refine g_bipush C X0 (pc' := 13) d30_11 (v := (-10 : Int32)) (by decide) rfl ?_
  refine g_istoreN C X0 (pc' := 14) d30_13 (x := (-10 : Int32)) rfl (l' := #[.val (.int i1), .val (.int (0 : Int32)), .val (.int (-10 : Int32)), .unset]) rfl rfl ?_
  refine g_iconst C X0 (pc' := 15) d30_14 (v := (1 : Int32)) (by decide) rfl ?_
  refine g_istoreN C X0 (pc' := 16) d30_15 (x := (1 : Int32)) rfl (l' := #[.val (.int i1), .val (.int (0 : Int32)), .val (.int (-10 : Int32)), .val (.int (1 : Int32))]) rfl rfl ?_
  refine g_iloadN C X0 (pc' := 17) d30_16 rfl rfl ?_
  refine g_bipush C X0 (pc' := 19) d30_17 (v := (10 : Int32)) (by decide) rfl ?_
  refine g_icmpN C X0 d30_19 (by decide) rfl ?_
  refine g_iloadN C X0 (pc' := 23) d30_22 rfl rfl ?_
  refine g_iloadN C X0 (pc' := 24) d30_23 rfl rfl ?_
  refine g_icmpY C X0 d30_24 (pc' := 31) (by decide) (by decide) (by have q0 := b_i1; have q1 : (-10 : Int32).toInt = -10 := (by decide); unfold cpI; omega) ?_
  refine g_bipush C X0 (pc' := 33) d30_31 (v := (10 : Int32)) (by decide) rfl ?_
  refine g_iloadN C X0 (pc' := 34) d30_33 rfl rfl ?_
  refine g_imul C X0 (pc' := 35) d30_34 rfl ?_
  refine g_istoreN C X0 (pc' := 36) d30_35 (x := (-100 : Int32)) (by decide) (l' := #[.val (.int i1), .val (.int (0 : Int32)), .val (.int (-100 : Int32)), .val (.int (1 : Int32))]) rfl rfl ?_
  refine g_iinc C X0 (pc' := 39) d30_36 rfl (z := (2 : Int32)) (by decide) (l' := #[.val (.int i1), .val (.int (0 : Int32)), .val (.int (-100 : Int32)), .val (.int (2 : Int32))]) rfl rfl ?_
  refine g_goto C X0 d30_39 (pc' := 16) (by decide) (by decide) ?_
  refine g_iloadN C X0 (pc' := 17) d30_16 rfl rfl ?_
  refine g_bipush C X0 (pc' := 19) d30_17 (v := (10 : Int32)) (by decide) rfl ?_
  refine g_icmpN C X0 d30_19 (by decide) rfl ?_
  refine g_iloadN C X0 (pc' := 23) d30_22 rfl rfl ?_
  refine g_iloadN C X0 (pc' := 24) d30_23 rfl rfl ?_
  refine g_icmpN C X0 d30_24 (by have q0 := b_i1; have q1 : (-100 : Int32).toInt = -100 := (by decide); unfold cpI; omega) rfl ?_
  refine g_iloadN C X0 (pc' := 28) d30_27 rfl rfl ?_
  refine g_iloadN C X0 (pc' := 29) d30_28 rfl rfl ?_
  refine g_iadd C X0 (pc' := 30) d30_29 rfl ?_
  exact g_ireturn C X0 d30_30 (⟨rfl, rfl, e0⟩) (by decide) (by decide)
set_option maxRecDepth 65536 in
set_option maxHeartbeats 40000000 in
theorem k36_ensureCapacityInternal (l : Launch) (Z : State) (a0 : Array Value) (hw : ∀ d ∈ tables_1, d.before a0 Z = true) (h : Heap) (n0 : Nat) (Z0 : n0 ≤ h.size) (qa1 : Addr) (qa2 : Addr) (qw1 : Value) (qw2 : Value) (qw3 : Value) (qw4 : Value) (qw5 : Value) (qw6 : Value) (qk1 : ClassId) (H1 : Fld Z h qa1 "java/lang/AbstractStringBuilder" "value" "[B" (.ref qa2)) (H2 : Fld Z h qa1 "java/lang/AbstractStringBuilder" "coder" "B" (.int (0 : Int32))) (H3 : Arv Z h qa2 qk1 .byte (16 : Int32) [qw1, qw2, qw3, qw4, qw2, qw5, qw3, qw6, qw2] (.int (0 : Int32))) :
    Con l Z (⟨"java/lang/AbstractStringBuilder", "ensureCapacityInternal", "(I)V"⟩ : MethodName) jdk_68_method_9_code 3 none ⟨0, 0, 0, 0⟩ #[(.ref qa1), (.int (11 : Int32))] h (fun v h' L => v = none ∧ L = [] ∧ h' = h) := by
  refine con_of_goF kk_50 (fun m => kk_49 m qa1 (11 : Int32)) ?_
  intro p e s m below meth c T0 C X0 e0
  refine g_aloadN C X0 (pc' := 1) d24_0 rfl rfl rfl ?_
  refine g_getF C X0 (host := "") (Or.inl (hw _ (List.mem_of_getElem? (i := 142) rfl))) Via.refl e0 H1 d24_1 rfl ?_
  intro T1 X1 e1
  refine g_len C X1 (pc' := 5) e1 H3 d24_4 rfl ?_
  refine g_aloadN C X1 (pc' := 6) d24_5 rfl rfl rfl ?_
  refine g_getF C X1 (host := "") (Or.inl (hw _ (List.mem_of_getElem? (i := 144) rfl))) Via.refl e1 H2 d24_6 rfl ?_
  intro T2 X2 e2
  refine g_ishr C X2 (pc' := 10) d24_9 rfl ?_
  refine g_istoreN C X2 (pc' := 11) d24_10 (x := (16 : Int32)) (by decide) (l' := #[.val (.ref qa1), .val (.int (11 : Int32)), .val (.int (16 : Int32))]) rfl rfl ?_
  refine g_iloadN C X2 (pc' := 12) d24_11 rfl rfl ?_
  refine g_iloadN C X2 (pc' := 13) d24_12 rfl rfl ?_
  refine g_isub C X2 (pc' := 14) d24_13 rfl ?_
  refine g_ifY C X2 d24_14 (pc' := 38) (by decide) (by decide) (by decide) ?_
  exact g_return C X2 d24_38 (⟨rfl, rfl, e2⟩) (by decide) (by decide)
set_option maxRecDepth 65536 in
set_option maxHeartbeats 40000000 in
theorem k37_getChars (l : Launch) (Z : State) (a0 : Array Value) (hw : ∀ d ∈ tables_1, d.before a0 Z = true) (h : Heap) (n0 : Nat) (Z0 : n0 ≤ h.size) (qi1 : Int32) (qa1 : Addr) (qa2 : Addr) (qa3 : Addr) (qk1 : ClassId) (z_qa1 : n0 ≤ qa1) (ne_qa1_qa2 : qa1 ≠ qa2) (ne_qa1_qa3 : qa1 ≠ qa3) (B_qi1 : 10 ≤ qi1.toInt ∧ qi1.toInt ≤ 46) (H1 : Sta Z h "java/lang/Integer" "DigitOnes" "[B" (.ref qa2)) (H2 : Sta Z h "java/lang/Integer" "DigitTens" "[B" (.ref qa3)) (H3 : Exa Z h qa1 "[B") (H4 : Arv Z h qa1 qk1 .byte (16 : Int32) [(.int (98 : Int32)), (.int (32 : Int32)), (.int (111 : Int32)), (.int (102 : Int32)), (.int (32 : Int32)), (.int (114 : Int32)), (.int (111 : Int32)), (.int (119 : Int32)), (.int (32 : Int32))] (.int (0 : Int32))) (H5 : BArr Z h qa2) (H6 : BArr Z h qa3) :
    Con l Z (⟨"java/lang/Integer", "getChars", "(II[B)I"⟩ : MethodName) jdk_33_method_12_code 7 (some .int) ⟨0, 0, 0, 0⟩ #[(.int qi1), (.int (11 : Int32)), (.ref qa1)] h (fun v h' L => ∃ (uv1 : Int32) (uv2 : Int32), v = some (.int (9 : Int32)) ∧ Fr n0 L ∧ Keep h h' [qa1] ∧ Exa Z h' qa1 "[B" ∧ Arv Z h' qa1 qk1 .byte (16 : Int32) [(.int (98 : Int32)), (.int (32 : Int32)), (.int (111 : Int32)), (.int (102 : Int32)), (.int (32 : Int32)), (.int (114 : Int32)), (.int (111 : Int32)), (.int (119 : Int32)), (.int (32 : Int32)), (.int uv1), (.int uv2)] (.int (0 : Int32))) := by
  refine con_of_goF kk_74 (fun m => kk_73 m qi1 (11 : Int32) qa1) ?_
  intro p e s m below meth c T0 C X0 e0
  refine g_iloadN C X0 (pc' := 1) d32_0 rfl rfl ?_
  refine g_istore C X0 (pc' := 3) d32_1 (x := (11 : Int32)) rfl (l' := #[.val (.int qi1), .val (.int (11 : Int32)), .val (.ref qa1), .unset, .unset, .val (.int (11 : Int32)), .unset]) rfl rfl ?_
  refine g_iloadN C X0 (pc' := 4) d32_3 rfl rfl ?_
  refine g_ifY C X0 d32_4 (pc' := 11) (by decide) (by decide) (by have q0 := B_qi1; have q1 : (0 : Int32).toInt = 0 := (by decide); unfold cpI; omega) ?_
  refine g_iconst C X0 (pc' := 12) d32_11 (v := (0 : Int32)) (by decide) rfl ?_
  refine g_istore C X0 (pc' := 14) d32_12 (x := (0 : Int32)) rfl (l' := #[.val (.int qi1), .val (.int (11 : Int32)), .val (.ref qa1), .unset, .unset, .val (.int (11 : Int32)), .val (.int (0 : Int32))]) rfl rfl ?_
  refine g_iload C X0 (pc' := 16) d32_14 rfl rfl ?_
  refine g_ifN C X0 d32_16 (by decide) rfl ?_
  refine g_iloadN C X0 (pc' := 20) d32_19 rfl rfl ?_
  refine g_ineg C X0 (pc' := 21) d32_20 rfl ?_
  obtain ⟨i1, e_i1⟩ : ∃ z : Int32, z = -qi1 := ⟨_, rfl⟩
  have b_i1 : -46 ≤ i1.toInt ∧ i1.toInt ≤ -10 := by rw [e_i1]; exact (own_nb B_qi1 (by decide))
  refine g_istoreN C X0 (pc' := 22) d32_21 (x := i1) e_i1 (l' := #[.val (.int i1), .val (.int (11 : Int32)), .val (.ref qa1), .unset, .unset, .val (.int (11 : Int32)), .val (.int (0 : Int32))]) rfl rfl ?_
  refine g_iloadN C X0 (pc' := 23) d32_22 rfl rfl ?_
  refine g_bipush C X0 (pc' := 25) d32_23 (v := (-100 : Int32)) (by decide) rfl ?_
  refine g_icmpY C X0 d32_25 (pc' := 72) (by decide) (by decide) (by have q0 := b_i1; have q1 : (-100 : Int32).toInt = -100 := (by decide); unfold cpI; omega) ?_
  refine g_aloadN C X0 (pc' := 73) d32_72 rfl rfl rfl ?_
  refine g_iinc C X0 (pc' := 76) d32_73 rfl (z := (10 : Int32)) (by decide) (l' := #[.val (.int i1), .val (.int (11 : Int32)), .val (.ref qa1), .unset, .unset, .val (.int (10 : Int32)), .val (.int (0 : Int32))]) rfl rfl ?_
  refine g_iload C X0 (pc' := 78) d32_76 rfl rfl ?_
  refine g_getS C X0 (hw _ (List.mem_of_getElem? (i := 220) rfl)) Via.refl e0 H1 d32_78 rfl ?_
  intro T1 X1 e1
  refine g_iloadN C X1 (pc' := 82) d32_81 rfl rfl ?_
  refine g_ineg C X1 (pc' := 83) d32_82 rfl ?_
  refine g_baloadU C X1 (pc' := 84) e1 H5 (by have q := (own_nb b_i1 (by decide)); omega) d32_83 rfl ?_
  intro w2 nb2
  refine g_bastore C X1 (pc' := 85) nb2 e1 H4 (by decide) (by decide) 10 2 (by decide) (of_decide_eq_true rfl) d32_84 rfl ?_
  intro T3 h3 X3 e3 W3 Aq
  have H1 := H1.wr W3
  have H2 := H2.wr W3
  have H3 := H3.wr W3
  have H5 := H5.other W3 (Ne.symm ne_qa1_qa2)
  have H6 := H6.other W3 (Ne.symm ne_qa1_qa3)
  have Z3 : n0 ≤ h3.size := by rw [W3.size]; exact Z0
  have N3 := Fr.snoc X3 (Fr.nil n0) z_qa1
  have P3 := (Keep.refl h [qa1]).wr W3 (Or.inl (List.mem_of_getElem? (i := 0) rfl))
  have H4 : Arv Z h3 qa1 qk1 .byte (16 : Int32) [(.int (98 : Int32)), (.int (32 : Int32)), (.int (111 : Int32)), (.int (102 : Int32)), (.int (32 : Int32)), (.int (114 : Int32)), (.int (111 : Int32)), (.int (119 : Int32)), (.int (32 : Int32)), (.int (0 : Int32)), (.int w2)] (.int (0 : Int32)) := Aq
  refine g_iloadN C X3 (pc' := 86) d32_85 rfl rfl ?_
  refine g_bipush C X3 (pc' := 88) d32_86 (v := (-9 : Int32)) (by decide) rfl ?_
  refine g_icmpN C X3 d32_88 (by have q0 := b_i1; have q1 : (-9 : Int32).toInt = -9 := (by decide); unfold cpI; omega) rfl ?_
  refine g_aloadN C X3 (pc' := 92) d32_91 rfl rfl rfl ?_
  refine g_iinc C X3 (pc' := 95) d32_92 rfl (z := (9 : Int32)) (by decide) (l' := #[.val (.int i1), .val (.int (11 : Int32)), .val (.ref qa1), .unset, .unset, .val (.int (9 : Int32)), .val (.int (0 : Int32))]) rfl rfl ?_
  refine g_iload C X3 (pc' := 97) d32_95 rfl rfl ?_
  refine g_getS C X3 (hw _ (List.mem_of_getElem? (i := 284) rfl)) Via.refl e3 H2 d32_97 rfl ?_
  intro T4 X4 e4
  refine g_iloadN C X4 (pc' := 101) d32_100 rfl rfl ?_
  refine g_ineg C X4 (pc' := 102) d32_101 rfl ?_
  refine g_baloadU C X4 (pc' := 103) e4 H6 (by have q := (own_nb b_i1 (by decide)); omega) d32_102 rfl ?_
  intro w5 nb5
  refine g_bastore C X4 (pc' := 104) nb5 e4 H4 (by decide) (by decide) 9 0 (by decide) (of_decide_eq_true rfl) d32_103 rfl ?_
  intro T6 h6 X6 e6 W6 Aq
  have H1 := H1.wr W6
  have H2 := H2.wr W6
  have H3 := H3.wr W6
  have H5 := H5.other W6 (Ne.symm ne_qa1_qa2)
  have H6 := H6.other W6 (Ne.symm ne_qa1_qa3)
  have Z6 : n0 ≤ h6.size := by rw [W6.size]; exact Z3
  have N6 := Fr.snoc X6 N3 z_qa1
  have P6 := P3.wr W6 (Or.inl (List.mem_of_getElem? (i := 0) rfl))
  have H4 : Arv Z h6 qa1 qk1 .byte (16 : Int32) [(.int (98 : Int32)), (.int (32 : Int32)), (.int (111 : Int32)), (.int (102 : Int32)), (.int (32 : Int32)), (.int (114 : Int32)), (.int (111 : Int32)), (.int (119 : Int32)), (.int (32 : Int32)), (.int w5), (.int w2)] (.int (0 : Int32)) := Aq
  refine g_iload C X6 (pc' := 106) d32_104 rfl rfl ?_
  refine g_ifY C X6 d32_106 (pc' := 118) (by decide) (by decide) (by decide) ?_
  refine g_iload C X6 (pc' := 120) d32_118 rfl rfl ?_
  exact g_ireturn C X6 d32_120 (⟨w5, w2, rfl, N6, by rw [e6]; exact P6, by rw [e6]; exact H3, by rw [e6]; exact H4⟩) (by decide) (by decide)
set_option maxRecDepth 65536 in
set_option maxHeartbeats 40000000 in
theorem k38_append (l : Launch) (Z : State) (a0 : Array Value) (hw : ∀ d ∈ tables_1, d.before a0 Z = true) (h : Heap) (n0 : Nat) (Z0 : n0 ≤ h.size) (qa1 : Addr) (qi1 : Int32) (qi2 : Int32) (qa2 : Addr) (qa3 : Addr) (qa4 : Addr) (qk1 : ClassId) (z_qa1 : n0 ≤ qa1) (z_qa4 : n0 ≤ qa4) (ne_qa1_qa2 : qa1 ≠ qa2) (ne_qa1_qa3 : qa1 ≠ qa3) (ne_qa1_qa4 : qa1 ≠ qa4) (ne_qa2_qa4 : qa2 ≠ qa4) (ne_qa3_qa4 : qa3 ≠ qa4) (B_qi1 : 10 ≤ qi1.toInt ∧ qi1.toInt ≤ 46) (C0_qi2 : ¬ (qi2.toInt = 0)) (H1 : Sta Z h "java/lang/String" "COMPACT_STRINGS" "Z" (.int qi2)) (H2 : Sta Z h "java/lang/Integer" "DigitOnes" "[B" (.ref qa2)) (H3 : Sta Z h "java/lang/Integer" "DigitTens" "[B" (.ref qa3)) (H4 : Exa Z h qa1 "java/lang/StringBuilder") (H5 : Fld Z h qa1 "java/lang/AbstractStringBuilder" "value" "[B" (.ref qa4)) (H6 : Fld Z h qa1 "java/lang/AbstractStringBuilder" "coder" "B" (.int (0 : Int32))) (H7 : Fld Z h qa1 "java/lang/AbstractStringBuilder" "count" "I" (.int (9 : Int32))) (H8 : BArr Z h qa2) (H9 : BArr Z h qa3) (H10 : Exa Z h qa4 "[B") (H11 : Arv Z h qa4 qk1 .byte (16 : Int32) [(.int (98 : Int32)), (.int (32 : Int32)), (.int (111 : Int32)), (.int (102 : Int32)), (.int (32 : Int32)), (.int (114 : Int32)), (.int (111 : Int32)), (.int (119 : Int32)), (.int (32 : Int32))] (.int (0 : Int32))) :
    Con l Z (⟨"java/lang/AbstractStringBuilder", "append", "(I)Ljava/lang/AbstractStringBuilder;"⟩ : MethodName) jdk_68_method_32_code 4 (some (.object "java/lang/AbstractStringBuilder")) ⟨1, 0, 0, 18⟩ #[(.ref qa1), (.int qi1)] h (fun v h' L => ∃ (uv1 : Int32) (uv2 : Int32), v = some (.ref qa1) ∧ Fr n0 L ∧ Keep h h' [qa1, qa4] ∧ Exa Z h' qa1 "java/lang/StringBuilder" ∧ Fld Z h' qa1 "java/lang/AbstractStringBuilder" "value" "[B" (.ref qa4) ∧ Fld Z h' qa1 "java/lang/AbstractStringBuilder" "coder" "B" (.int (0 : Int32)) ∧ Fld Z h' qa1 "java/lang/AbstractStringBuilder" "count" "I" (.int (11 : Int32)) ∧ Exa Z h' qa4 "[B" ∧ Arv Z h' qa4 qk1 .byte (16 : Int32) [(.int (98 : Int32)), (.int (32 : Int32)), (.int (111 : Int32)), (.int (102 : Int32)), (.int (32 : Int32)), (.int (114 : Int32)), (.int (111 : Int32)), (.int (119 : Int32)), (.int (32 : Int32)), (.int uv1), (.int uv2)] (.int (0 : Int32))) := by
  refine con_of_goF kk_77 (fun m => kk_76 m qa1 qi1) ?_
  intro p e s m below meth c T0 C X0 e0
  refine g_aloadN C X0 (pc' := 1) d29_0 rfl rfl rfl ?_
  refine g_getF C X0 (host := "") (Or.inl (hw _ (List.mem_of_getElem? (i := 175) rfl))) Via.refl e0 H7 d29_1 rfl ?_
  intro T1 X1 e1
  refine g_istoreN C X1 (pc' := 5) d29_4 (x := (9 : Int32)) rfl (l' := #[.val (.ref qa1), .val (.int qi1), .val (.int (9 : Int32)), .unset]) rfl rfl ?_
  refine g_iloadN C X1 (pc' := 6) d29_5 rfl rfl ?_
  refine g_iloadN C X1 (pc' := 7) d29_6 rfl rfl ?_
  refine g_callS C X1 (k35_stringSize l Z a0 hw h n0 Z0  qi1   B_qi1 ) (hw _ (List.mem_of_getElem? (i := 208) rfl)) (hw _ (List.mem_of_getElem? (i := 209) rfl)) (hw _ (List.mem_of_getElem? (i := 210) rfl)) (hw _ (List.mem_of_getElem? (i := 211) rfl)) (by decide) e1 d29_7 rfl kk_69 [(.int qi1)] [(.int (9 : Int32))] rfl rfl rfl 1 rfl (by decide) (by decide) (by decide) (by decide) rfl ?_
  rintro _ T2 _ X2 ⟨rfl, rfl, e2⟩
  rw [List.append_nil] at X2
  show Go p.tables e below _ T2 (mkF m 10 #[.val (.ref qa1), .val (.int qi1), .val (.int (9 : Int32)), .unset] [(.int ((2 : Int32) + (0 : Int32))), (.int (9 : Int32))])
  refine g_iadd C X2 (pc' := 11) d29_10 rfl ?_
  refine g_istoreN C X2 (pc' := 12) d29_11 (x := (11 : Int32)) (by decide) (l' := #[.val (.ref qa1), .val (.int qi1), .val (.int (9 : Int32)), .val (.int (11 : Int32))]) rfl rfl ?_
  refine g_aloadN C X2 (pc' := 13) d29_12 rfl rfl rfl ?_
  refine g_iloadN C X2 (pc' := 14) d29_13 rfl rfl ?_
  refine g_callPS C X2 (k36_ensureCapacityInternal l Z a0 hw h n0 Z0  qa1 qa4 (.int (98 : Int32)) (.int (32 : Int32)) (.int (111 : Int32)) (.int (102 : Int32)) (.int (114 : Int32)) (.int (119 : Int32)) qk1    H5 H6 H11) (hw _ (List.mem_of_getElem? (i := 177) rfl)) (hw _ (List.mem_of_getElem? (i := 179) rfl)) (hw _ (List.mem_of_getElem? (i := 180) rfl)) (hw _ (List.mem_of_getElem? (i := 178) rfl)) (hw _ (List.mem_of_getElem? (i := 136) rfl)) (hw _ (List.mem_of_getElem? (i := 181) rfl)) (by decide) e2 H4 d29_14 rfl kk_51 [(.int (11 : Int32))] [] rfl rfl rfl 0 rfl (by decide) (by decide) (by decide) (by decide) rfl ?_
  rintro _ T3 _ X3 ⟨rfl, rfl, e3⟩
  rw [List.append_nil] at X3
  show Go p.tables e below _ T3 (mkF m 17 #[.val (.ref qa1), .val (.int qi1), .val (.int (9 : Int32)), .val (.int (11 : Int32))] [])
  refine g_aloadN C X3 (pc' := 18) d29_17 rfl rfl rfl ?_
  refine g_callV C X3 (k21_isLatin1 l Z a0 hw h n0 Z0  qa1 qi2   C0_qi2 H1 H6) (hw _ (List.mem_of_getElem? (i := 212) rfl)) (hw _ (List.mem_of_getElem? (i := 213) rfl)) (hw _ (List.mem_of_getElem? (i := 215) rfl)) (hw _ (List.mem_of_getElem? (i := 214) rfl)) (hw _ (List.mem_of_getElem? (i := 136) rfl)) (hw _ (List.mem_of_getElem? (i := 216) rfl)) (by decide) e3 H4 d29_18 rfl kk_72 [] [] rfl rfl rfl 0 rfl (by decide) (by decide) (by decide) (by decide) rfl ?_
  rintro _ T4 _ X4 ⟨rfl, rfl, e4⟩
  rw [List.append_nil] at X4
  show Go p.tables e below _ T4 (mkF m 21 #[.val (.ref qa1), .val (.int qi1), .val (.int (9 : Int32)), .val (.int (11 : Int32))] [(.int (1 : Int32))])
  refine g_ifN C X4 d29_21 (by decide) rfl ?_
  refine g_iloadN C X4 (pc' := 25) d29_24 rfl rfl ?_
  refine g_iloadN C X4 (pc' := 26) d29_25 rfl rfl ?_
  refine g_aloadN C X4 (pc' := 27) d29_26 rfl rfl rfl ?_
  refine g_getF C X4 (host := "") (Or.inl (hw _ (List.mem_of_getElem? (i := 142) rfl))) Via.refl e4 H5 d29_27 rfl ?_
  intro T5 X5 e5
  refine g_callS C X5 (k37_getChars l Z a0 hw h n0 Z0  qi1 qa4 qa2 qa3 qk1 z_qa4 (Ne.symm ne_qa2_qa4) (Ne.symm ne_qa3_qa4) B_qi1 H2 H3 H10 H11 H8 H9) (hw _ (List.mem_of_getElem? (i := 217) rfl)) (hw _ (List.mem_of_getElem? (i := 218) rfl)) (hw _ (List.mem_of_getElem? (i := 210) rfl)) (hw _ (List.mem_of_getElem? (i := 219) rfl)) (by decide) e5 d29_30 rfl kk_75 [(.int qi1), (.int (11 : Int32)), (.ref qa4)] [] rfl rfl rfl 0 rfl (by decide) (by decide) (by decide) (by decide) rfl ?_
  rintro _ T6 L6 X6 ⟨ri1, ri2, rfl, M6, K6, FF3, FF4⟩
  have H1 := staKeep H1 K6 (alc H10.nostat al0)
  have H2 := staKeep H2 K6 (alc H10.nostat al0)
  have H3 := staKeep H3 K6 (alc H10.nostat al0)
  have H4 := H4.keep K6
  have H5 := H5.keep K6 (ninS ne_qa1_qa4 nin0)
  have H6 := H6.keep K6 (ninS ne_qa1_qa4 nin0)
  have H7 := H7.keep K6 (ninS ne_qa1_qa4 nin0)
  have H8 := H8.keep K6 (ninS ne_qa2_qa4 nin0)
  have H9 := H9.keep K6 (ninS ne_qa3_qa4 nin0)
  have Z6 : n0 ≤ T6.heap.size := Nat.le_trans Z0 K6.1
  have P6 := (Keep.refl h [qa1, qa4]).trans K6 (alc (Or.inl (List.mem_of_getElem? (i := 1) rfl)) al0)
  have N6 := Fr.app (Fr.nil n0) M6
  obtain ⟨h6, e6⟩ : ∃ z, T6.heap = z := ⟨_, rfl⟩
  rw [e6] at H1 H2 H3 H4 H5 H6 H7 H8 H9 FF3 FF4 Z6 P6
  show Go p.tables e below _ T6 (mkF m 33 #[.val (.ref qa1), .val (.int qi1), .val (.int (9 : Int32)), .val (.int (11 : Int32))] [(.int (9 : Int32))])
  refine g_pop C X6 (pc' := 34) d29_33 rfl rfl ?_
  refine g_goto C X6 d29_34 (pc' := 48) (by decide) (by decide) ?_
  refine g_aloadN C X6 (pc' := 49) d29_48 rfl rfl rfl ?_
  refine g_iloadN C X6 (pc' := 50) d29_49 rfl rfl ?_
  refine g_putF C X6 (host := "") (Or.inl (hw _ (List.mem_of_getElem? (i := 175) rfl))) Via.refl e6 H7 H4 (Or.inl (hw _ (List.mem_of_getElem? (i := 176) rfl))) (hw _ (List.mem_of_getElem? (i := 127) rfl)) (ty := .int) (by decide) rfl rfl d29_50 rfl ?_
  intro T7 h7 X7 e7 W7
  have H1 := H1.wr W7
  have H2 := H2.wr W7
  have H3 := H3.wr W7
  have H4 := H4.wr W7
  have H5 := H5.other W7 (Or.inr (slot_ne (Or.inl (hw _ (List.mem_of_getElem? (i := 143) rfl))) (Or.inl (hw _ (List.mem_of_getElem? (i := 176) rfl))) (by decide) rfl rfl))
  have H6 := H6.other W7 (Or.inr (slot_ne (Or.inl (hw _ (List.mem_of_getElem? (i := 145) rfl))) (Or.inl (hw _ (List.mem_of_getElem? (i := 176) rfl))) (by decide) rfl rfl))
  have H7 := H7.same W7
  have H8 := H8.other W7 (Ne.symm ne_qa1_qa2)
  have H9 := H9.other W7 (Ne.symm ne_qa1_qa3)
  have FF3 := FF3.wr W7
  have FF4 := FF4.other W7 (Ne.symm ne_qa1_qa4)
  have Z7 : n0 ≤ h7.size := by rw [W7.size]; exact Z6
  have N7 := Fr.snoc X7 N6 z_qa1
  have P7 := P6.wr W7 (Or.inl (List.mem_of_getElem? (i := 0) rfl))
  refine g_aloadN C X7 (pc' := 54) d29_53 rfl rfl rfl ?_
  exact g_areturn C X7 d29_54 rfl rfl rfl (⟨ri1, ri2, rfl, N7, by rw [e7]; exact P7, by rw [e7]; exact H4, by rw [e7]; exact H5, by rw [e7]; exact H6, by rw [e7]; exact H7, by rw [e7]; exact FF3, by rw [e7]; exact FF4⟩) (by decide) (by decide)
set_option maxRecDepth 65536 in
set_option maxHeartbeats 40000000 in
theorem k39_append (l : Launch) (Z : State) (a0 : Array Value) (hw : ∀ d ∈ tables_1, d.before a0 Z = true) (h : Heap) (n0 : Nat) (Z0 : n0 ≤ h.size) (qa1 : Addr) (qi1 : Int32) (qi2 : Int32) (qa2 : Addr) (qa3 : Addr) (qa4 : Addr) (qk1 : ClassId) (z_qa1 : n0 ≤ qa1) (z_qa4 : n0 ≤ qa4) (ne_qa1_qa2 : qa1 ≠ qa2) (ne_qa1_qa3 : qa1 ≠ qa3) (ne_qa1_qa4 : qa1 ≠ qa4) (ne_qa2_qa4 : qa2 ≠ qa4) (ne_qa3_qa4 : qa3 ≠ qa4) (B_qi1 : 10 ≤ qi1.toInt ∧ qi1.toInt ≤ 46) (C0_qi2 : ¬ (qi2.toInt = 0)) (H1 : Sta Z h "java/lang/String" "COMPACT_STRINGS" "Z" (.int qi2)) (H2 : Sta Z h "java/lang/Integer" "DigitOnes" "[B" (.ref qa2)) (H3 : Sta Z h "java/lang/Integer" "DigitTens" "[B" (.ref qa3)) (H4 : Exa Z h qa1 "java/lang/StringBuilder") (H5 : Fld Z h qa1 "java/lang/AbstractStringBuilder" "value" "[B" (.ref qa4)) (H6 : Fld Z h qa1 "java/lang/AbstractStringBuilder" "coder" "B" (.int (0 : Int32))) (H7 : Fld Z h qa1 "java/lang/AbstractStringBuilder" "count" "I" (.int (9 : Int32))) (H8 : BArr Z h qa2) (H9 : BArr Z h qa3) (H10 : Exa Z h qa4 "[B") (H11 : Arv Z h qa4 qk1 .byte (16 : Int32) [(.int (98 : Int32)), (.int (32 : Int32)), (.int (111 : Int32)), (.int (102 : Int32)), (.int (32 : Int32)), (.int (114 : Int32)), (.int (111 : Int32)), (.int (119 : Int32)), (.int (32 : Int32))] (.int (0 : Int32))) :
    Con l Z (⟨"java/lang/StringBuilder", "append", "(I)Ljava/lang/StringBuilder;"⟩ : MethodName) jdk_67_method_15_code 2 (some (.object "java/lang/StringBuilder")) ⟨2, 0, 0, 33⟩ #[(.ref qa1), (.int qi1)] h (fun v h' L => ∃ (uv1 : Int32) (uv2 : Int32), v = some (.ref qa1) ∧ Fr n0 L ∧ Keep h h' [qa1, qa4] ∧ Exa Z h' qa1 "java/lang/StringBuilder" ∧ Fld Z h' qa1 "java/lang/AbstractStringBuilder" "value" "[B" (.ref qa4) ∧ Fld Z h' qa1 "java/lang/AbstractStringBuilder" "coder" "B" (.int (0 : Int32)) ∧ Fld Z h' qa1 "java/lang/AbstractStringBuilder" "count" "I" (.int (11 : Int32)) ∧ Exa Z h' qa4 "[B" ∧ Arv Z h' qa4 qk1 .byte (16 : Int32) [(.int (98 : Int32)), (.int (32 : Int32)), (.int (111 : Int32)), (.int (102 : Int32)), (.int (32 : Int32)), (.int (114 : Int32)), (.int (111 : Int32)), (.int (119 : Int32)), (.int (32 : Int32)), (.int uv1), (.int uv2)] (.int (0 : Int32))) := by
  refine con_of_goF kk_80 (fun m => kk_79 m qa1 qi1) ?_
  intro p e s m below meth c T0 C X0 e0
  refine g_aloadN C X0 (pc' := 1) d28_0 rfl rfl rfl ?_
  refine g_iloadN C X0 (pc' := 2) d28_1 rfl rfl ?_
  refine g_callU C (y2 := ⟨"java/lang/AbstractStringBuilder", "ensureCapacityInternal", "(I)V"⟩) X0 (k38_append l Z a0 hw h n0 Z0  qa1 qi1 qi2 qa2 qa3 qa4 qk1 z_qa1 z_qa4 ne_qa1_qa2 ne_qa1_qa3 ne_qa1_qa4 ne_qa2_qa4 ne_qa3_qa4 B_qi1 C0_qi2 H1 H2 H3 H4 H5 H6 H7 H8 H9 H10 H11) (hw _ (List.mem_of_getElem? (i := 204) rfl)) (hw _ (List.mem_of_getElem? (i := 205) rfl)) (hw _ (List.mem_of_getElem? (i := 159) rfl)) (hw _ (List.mem_of_getElem? (i := 180) rfl)) rfl (hw _ (List.mem_of_getElem? (i := 136) rfl)) (hw _ (List.mem_of_getElem? (i := 207) rfl)) (by decide) (by decide) e0 H4 d28_2 rfl kk_78 [(.int qi1)] [] rfl rfl rfl 0 rfl (by decide) (by decide) (by decide) (by decide) rfl ?_
  rintro _ T1 L1 X1 ⟨ri1, ri2, rfl, M1, K1, FF3, FF4, FF5, FF6, FF7, FF8⟩
  have H1 := staKeep H1 K1 (alc H4.nostat (alc H10.nostat al0))
  have H2 := staKeep H2 K1 (alc H4.nostat (alc H10.nostat al0))
  have H3 := staKeep H3 K1 (alc H4.nostat (alc H10.nostat al0))
  have H8 := H8.keep K1 (ninS (Ne.symm ne_qa1_qa2) (ninS ne_qa2_qa4 nin0))
  have H9 := H9.keep K1 (ninS (Ne.symm ne_qa1_qa3) (ninS ne_qa3_qa4 nin0))
  have Z1 : n0 ≤ T1.heap.size := Nat.le_trans Z0 K1.1
  have P1 := (Keep.refl h [qa1, qa4]).trans K1 (alc (Or.inl (List.mem_of_getElem? (i := 0) rfl)) (alc (Or.inl (List.mem_of_getElem? (i := 1) rfl)) al0))
  have N1 := Fr.app (Fr.nil n0) M1
  obtain ⟨h1, e1⟩ : ∃ z, T1.heap = z := ⟨_, rfl⟩
  rw [e1] at H1 H2 H3 H8 H9 FF3 FF4 FF5 FF6 FF7 FF8 Z1 P1
  show Go p.tables e below _ T1 (mkF m 5 #[.val (.ref qa1), .val (.int qi1)] [(.ref qa1)])
  refine g_pop C X1 (pc' := 6) d28_5 rfl rfl ?_
  refine g_aloadN C X1 (pc' := 7) d28_6 rfl rfl rfl ?_
  exact g_areturn C X1 d28_7 rfl rfl rfl (⟨ri1, ri2, rfl, N1, by rw [e1]; exact P1, by rw [e1]; exact FF3, by rw [e1]; exact FF4, by rw [e1]; exact FF5, by rw [e1]; exact FF6, by rw [e1]; exact FF7, by rw [e1]; exact FF8⟩) (by decide) (by decide)
set_option maxRecDepth 65536 in
set_option maxHeartbeats 40000000 in
theorem k40_length (l : Launch) (Z : State) (a0 : Array Value) (hw : ∀ d ∈ tables_1, d.before a0 Z = true) (h : Heap) (n0 : Nat) (Z0 : n0 ≤ h.size) (qa1 : Addr) (H1 : Fld Z h qa1 "java/lang/AbstractStringBuilder" "count" "I" (.int (11 : Int32))) :
    Con l Z (⟨"java/lang/AbstractStringBuilder", "length", "()I"⟩ : MethodName) jdk_68_method_6_code 1 (some .int) ⟨0, 0, 0, 0⟩ #[(.ref qa1)] h (fun v h' L => v = some (.int (11 : Int32)) ∧ L = [] ∧ h' = h) := by
  refine con_of_goF kk_86 (fun m => kk_85 m qa1) ?_
  intro p e s m below meth c T0 C X0 e0
  refine g_aloadN C X0 (pc' := 1) d38_0 rfl rfl rfl ?_
  refine g_getF C X0 (host := "") (Or.inl (hw _ (List.mem_of_getElem? (i := 175) rfl))) Via.refl e0 H1 d38_1 rfl ?_
  intro T1 X1 e1
  exact g_ireturn C X1 d38_4 (⟨rfl, rfl, e1⟩) (by decide) (by decide)
set_option maxRecDepth 65536 in
set_option maxHeartbeats 40000000 in
theorem k41_length (l : Launch) (Z : State) (a0 : Array Value) (hw : ∀ d ∈ tables_1, d.before a0 Z = true) (h : Heap) (n0 : Nat) (Z0 : n0 ≤ h.size) (qa1 : Addr) (H1 : Exa Z h qa1 "java/lang/StringBuilder") (H2 : Fld Z h qa1 "java/lang/AbstractStringBuilder" "count" "I" (.int (11 : Int32))) :
    Con l Z (⟨"java/lang/StringBuilder", "length", "()I"⟩ : MethodName) jdk_67_method_93_code 1 (some .int) ⟨1, 0, 0, 12⟩ #[(.ref qa1)] h (fun v h' L => v = some (.int (11 : Int32)) ∧ L = [] ∧ h' = h) := by
  refine con_of_goF kk_88 (fun m => kk_87 m qa1) ?_
  intro p e s m below meth c T0 C X0 e0
  refine g_aloadN C X0 (pc' := 1) d37_0 rfl rfl rfl ?_
  refine g_callU C (y2 := ⟨"java/lang/AbstractStringBuilder", "ensureCapacityInternal", "(I)V"⟩) X0 (k40_length l Z a0 hw h n0 Z0  qa1    H2) (hw _ (List.mem_of_getElem? (i := 246) rfl)) (hw _ (List.mem_of_getElem? (i := 242) rfl)) (hw _ (List.mem_of_getElem? (i := 159) rfl)) (hw _ (List.mem_of_getElem? (i := 180) rfl)) rfl (hw _ (List.mem_of_getElem? (i := 136) rfl)) (hw _ (List.mem_of_getElem? (i := 247) rfl)) (by decide) (by decide) e0 H1 d37_1 rfl kk_48 [] [] rfl rfl rfl 0 rfl (by decide) (by decide) (by decide) (by decide) rfl ?_
  rintro _ T1 _ X1 ⟨rfl, rfl, e1⟩
  rw [List.append_nil] at X1
  show Go p.tables e below _ T1 (mkF m 4 #[.val (.ref qa1)] [(.int (11 : Int32))])
  exact g_ireturn C X1 d37_4 (⟨rfl, rfl, e1⟩) (by decide) (by decide)
set_option maxRecDepth 65536 in
set_option maxHeartbeats 40000000 in
theorem k42_checkLength (l : Launch) (Z : State) (a0 : Array Value) (hw : ∀ d ∈ tables_1, d.before a0 Z = true) (h : Heap) (n0 : Nat) (Z0 : n0 ≤ h.size) :
    Con l Z (⟨"java/util/Arrays", "checkLength", "(II)V"⟩ : MethodName) jdk_65_method_131_code 2 none ⟨0, 0, 0, 0⟩ #[(.int (0 : Int32)), (.int (11 : Int32))] h (fun v h' L => v = none ∧ L = [] ∧ h' = h) := by
  refine con_of_goF kk_90 (fun m => kk_89 m (0 : Int32) (11 : Int32)) ?_
  intro p e s m below meth c T0 C X0 e0
  refine g_iloadN C X0 (pc' := 1) d41_0 rfl rfl ?_
  refine g_iloadN C X0 (pc' := 2) d41_1 rfl rfl ?_
  refine g_icmpY C X0 d41_2 (pc' := 37) (by decide) (by decide) (by decide) ?_
  exact g_return C X0 d41_37 (⟨rfl, rfl, e0⟩) (by decide) (by decide)
set_option maxRecDepth 65536 in
set_option maxHeartbeats 40000000 in
theorem k43_min (l : Launch) (Z : State) (a0 : Array Value) (hw : ∀ d ∈ tables_1, d.before a0 Z = true) (h : Heap) (n0 : Nat) (Z0 : n0 ≤ h.size) :
    Con l Z (⟨"java/lang/Math", "min", "(II)I"⟩ : MethodName) jdk_29_method_69_code 2 (some .int) ⟨0, 0, 0, 0⟩ #[(.int (16 : Int32)), (.int (11 : Int32))] h (fun v h' L => v = some (.int (11 : Int32)) ∧ L = [] ∧ h' = h) := by
  refine con_of_goF kk_11 (fun m => kk_10 m (16 : Int32) (11 : Int32)) ?_
  intro p e s m below meth c T0 C X0 e0
  refine g_iloadN C X0 (pc' := 1) d13_0 rfl rfl ?_
  refine g_iloadN C X0 (pc' := 2) d13_1 rfl rfl ?_
  refine g_icmpY C X0 d13_2 (pc' := 9) (by decide) (by decide) (by decide) ?_
  refine g_iloadN C X0 (pc' := 10) d13_9 rfl rfl ?_
  exact g_ireturn C X0 d13_10 (⟨rfl, rfl, e0⟩) (by decide) (by decide)
set_option maxRecDepth 65536 in
set_option maxHeartbeats 40000000 in
theorem k44_copyOfRangeByte (l : Launch) (Z : State) (a0 : Array Value) (hw : ∀ d ∈ tables_1, d.before a0 Z = true) (h : Heap) (n0 : Nat) (Z0 : n0 ≤ h.size) (qa1 : Addr) (qi1 : Int32) (qi2 : Int32) (qk1 : ClassId) (H1 : Arv Z h qa1 qk1 .byte (16 : Int32) [(.int (98 : Int32)), (.int (32 : Int32)), (.int (111 : Int32)), (.int (102 : Int32)), (.int (32 : Int32)), (.int (114 : Int32)), (.int (111 : Int32)), (.int (119 : Int32)), (.int (32 : Int32)), (.int qi1), (.int qi2)] (.int (0 : Int32))) :
    Con l Z (⟨"java/util/Arrays", "copyOfRangeByte", "([BII)[B"⟩ : MethodName) jdk_65_method_133_code 5 (some (.array .byte)) ⟨1, 1, 11, 32⟩ #[(.ref qa1), (.int (0 : Int32)), (.int (11 : Int32))] h (fun v h' L => ∃ (uf1 : Addr) (uk2 : ClassId), v = some (.ref uf1) ∧ Fr n0 L ∧ Keep h h' [] ∧ h.size ≤ uf1 ∧ Exa Z h' uf1 "[B" ∧ Arv Z h' uf1 uk2 .byte (11 : Int32) [(.int (98 : Int32)), (.int (32 : Int32)), (.int (111 : Int32)), (.int (102 : Int32)), (.int (32 : Int32)), (.int (114 : Int32)), (.int (111 : Int32)), (.int (119 : Int32)), (.int (32 : Int32)), (.int qi1), (.int qi2)] (.int (0 : Int32))) := by
  refine con_of_goF kk_93 (fun m => kk_92 m qa1 (0 : Int32) (11 : Int32)) ?_
  intro p e s m below meth c T0 C X0 e0
  refine g_iloadN C X0 (pc' := 1) d40_0 rfl rfl ?_
  refine g_iloadN C X0 (pc' := 2) d40_1 rfl rfl ?_
  refine g_callS C X0 (k42_checkLength l Z a0 hw h n0 Z0      ) (hw _ (List.mem_of_getElem? (i := 255) rfl)) (hw _ (List.mem_of_getElem? (i := 256) rfl)) (hw _ (List.mem_of_getElem? (i := 79) rfl)) (hw _ (List.mem_of_getElem? (i := 257) rfl)) (by decide) e0 d40_2 rfl kk_91 [(.int (0 : Int32)), (.int (11 : Int32))] [] rfl rfl rfl 0 rfl (by decide) (by decide) (by decide) (by decide) rfl ?_
  rintro _ T1 _ X1 ⟨rfl, rfl, e1⟩
  rw [List.append_nil] at X1
  show Go p.tables e below _ T1 (mkF m 5 #[.val (.ref qa1), .val (.int (0 : Int32)), .val (.int (11 : Int32)), .unset, .unset] [])
  refine g_iloadN C X1 (pc' := 6) d40_5 rfl rfl ?_
  refine g_iloadN C X1 (pc' := 7) d40_6 rfl rfl ?_
  refine g_isub C X1 (pc' := 8) d40_7 rfl ?_
  refine g_istoreN C X1 (pc' := 9) d40_8 (x := (11 : Int32)) (by decide) (l' := #[.val (.ref qa1), .val (.int (0 : Int32)), .val (.int (11 : Int32)), .val (.int (11 : Int32)), .unset]) rfl rfl ?_
  refine g_iloadN C X1 (pc' := 10) d40_9 rfl rfl ?_
  refine g_newPE C X1 (aty := .byte) (ad := "[B") (by decide) (hw _ (List.mem_of_getElem? (i := 141) rfl)) e1 d40_10 (by decide) 11 (by decide) (by decide) (by decide) (by decide) rfl ?_
  intro T2 h2 a2 k2 g2 X2 e2 E2 A2 B2
  have ne_qa1_a2 : qa1 ≠ a2 := Nat.ne_of_lt (by rw [g2]; exact H1.lt)
  have z_a2 : n0 ≤ a2 := by rw [g2]; exact Z0
  have y_a2 : h.size ≤ a2 := by rw [g2]; exact (Keep.refl h []).1
  have H1 := H1.ext E2
  have P2 := (Keep.refl h []).ext E2
  have Z2 : n0 ≤ h2.size := Nat.le_trans Z0 E2.1
  have A2 : Arv Z h2 a2 k2 .byte (11 : Int32) [] (.int (0 : Int32)) := A2
  refine g_astore C X2 (pc' := 14) d40_12 rfl (l' := #[.val (.ref qa1), .val (.int (0 : Int32)), .val (.int (11 : Int32)), .val (.int (11 : Int32)), .val (.ref a2)]) rfl rfl ?_
  refine g_aloadN C X2 (pc' := 15) d40_14 rfl rfl rfl ?_
  refine g_iloadN C X2 (pc' := 16) d40_15 rfl rfl ?_
  refine g_aload C X2 (pc' := 18) d40_16 rfl rfl rfl ?_
  refine g_iconst C X2 (pc' := 19) d40_18 (v := (0 : Int32)) (by decide) rfl ?_
  refine g_aloadN C X2 (pc' := 20) d40_19 rfl rfl rfl ?_
  refine g_len C X2 (pc' := 21) e2 H1 d40_20 rfl ?_
  refine g_iloadN C X2 (pc' := 22) d40_21 rfl rfl ?_
  refine g_isub C X2 (pc' := 23) d40_22 rfl ?_
  refine g_iloadN C X2 (pc' := 24) d40_23 rfl rfl ?_
  rw [show ((16 : Int32) - (0 : Int32) : Int32) = 16 from by decide]
  refine g_callS C X2 (k43_min l Z a0 hw h2 n0 Z2      ) (hw _ (List.mem_of_getElem? (i := 81) rfl)) (hw _ (List.mem_of_getElem? (i := 82) rfl)) (hw _ (List.mem_of_getElem? (i := 27) rfl)) (hw _ (List.mem_of_getElem? (i := 83) rfl)) (by decide) e2 d40_24 rfl kk_12 [(.int (16 : Int32)), (.int (11 : Int32))] [(.int (0 : Int32)), (.ref a2), (.int (0 : Int32)), (.ref qa1)] rfl rfl rfl 4 rfl (by decide) (by decide) (by decide) (by decide) rfl ?_
  rintro _ T3 _ X3 ⟨rfl, rfl, e3⟩
  rw [List.append_nil] at X3
  show Go p.tables e below _ T3 (mkF m 27 #[.val (.ref qa1), .val (.int (0 : Int32)), .val (.int (11 : Int32)), .val (.int (11 : Int32)), .val (.ref a2)] [(.int (11 : Int32)), (.int (0 : Int32)), (.ref a2), (.int (0 : Int32)), (.ref qa1)])
  have A2 : Arv Z h2 a2 k2 .byte (11 : Int32) [(.int (0 : Int32)), (.int (0 : Int32)), (.int (0 : Int32)), (.int (0 : Int32)), (.int (0 : Int32)), (.int (0 : Int32)), (.int (0 : Int32)), (.int (0 : Int32)), (.int (0 : Int32)), (.int (0 : Int32)), (.int (0 : Int32))] (.int (0 : Int32)) := Arv.pad A2 (pad_rep [] (.int (0 : Int32)) 11)
  refine g_acopy C X3 (hw _ (List.mem_of_getElem? (i := 84) rfl)) (hw _ (List.mem_of_getElem? (i := 87) rfl)) (hw _ (List.mem_of_getElem? (i := 85) rfl)) (hw _ (List.mem_of_getElem? (i := 86) rfl)) e3 H1 A2 rfl (by decide) (by decide) (by decide) (by decide) (by decide) [(.int (98 : Int32)), (.int (32 : Int32)), (.int (111 : Int32)), (.int (102 : Int32)), (.int (32 : Int32)), (.int (114 : Int32)), (.int (111 : Int32)), (.int (119 : Int32)), (.int (32 : Int32)), (.int qi1), (.int qi2)] rfl (by decide) (Fr.nil n0) z_a2 d40_27 rfl 0 rfl (by decide) (by decide) rfl ?_
  intro T4 h4 L4 X4 e4 N4 K4 Aq
  have NS4 := A2.nostat
  have H1 := H1.keep K4 (ninS ne_qa1_a2 nin0)
  have B2 := B2.keep K4
  have Z4 : n0 ≤ h4.size := Nat.le_trans Z2 K4.1
  have P4 := P2.trans K4 (alc (Or.inr y_a2) al0)
  have A2 : Arv Z h4 a2 k2 .byte (11 : Int32) [(.int (98 : Int32)), (.int (32 : Int32)), (.int (111 : Int32)), (.int (102 : Int32)), (.int (32 : Int32)), (.int (114 : Int32)), (.int (111 : Int32)), (.int (119 : Int32)), (.int (32 : Int32)), (.int qi1), (.int qi2)] (.int (0 : Int32)) := Aq
  refine g_aload C X4 (pc' := 32) d40_30 rfl rfl rfl ?_
  exact g_areturn C X4 d40_32 rfl rfl rfl (⟨a2, k2, rfl, N4, by rw [e4]; exact P4, y_a2, by rw [e4]; exact B2, by rw [e4]; exact A2⟩) (by decide) (by decide)
set_option maxRecDepth 65536 in
set_option maxHeartbeats 40000000 in
theorem k45_copyOfRange (l : Launch) (Z : State) (a0 : Array Value) (hw : ∀ d ∈ tables_1, d.before a0 Z = true) (h : Heap) (n0 : Nat) (Z0 : n0 ≤ h.size) (qa1 : Addr) (qi1 : Int32) (qi2 : Int32) (qk1 : ClassId) (H1 : Arv Z h qa1 qk1 .byte (16 : Int32) [(.int (98 : Int32)), (.int (32 : Int32)), (.int (111 : Int32)), (.int (102 : Int32)), (.int (32 : Int32)), (.int (114 : Int32)), (.int (111 : Int32)), (.int (119 : Int32)), (.int (32 : Int32)), (.int qi1), (.int qi2)] (.int (0 : Int32))) :
    Con l Z (⟨"java/util/Arrays", "copyOfRange", "([BII)[B"⟩ : MethodName) jdk_65_method_132_code 3 (some (.array .byte)) ⟨2, 1, 11, 48⟩ #[(.ref qa1), (.int (0 : Int32)), (.int (11 : Int32))] h (fun v h' L => ∃ (uf1 : Addr) (uk2 : ClassId), v = some (.ref uf1) ∧ Fr n0 L ∧ Keep h h' [] ∧ h.size ≤ uf1 ∧ Exa Z h' uf1 "[B" ∧ Arv Z h' uf1 uk2 .byte (11 : Int32) [(.int (98 : Int32)), (.int (32 : Int32)), (.int (111 : Int32)), (.int (102 : Int32)), (.int (32 : Int32)), (.int (114 : Int32)), (.int (111 : Int32)), (.int (119 : Int32)), (.int (32 : Int32)), (.int qi1), (.int qi2)] (.int (0 : Int32))) := by
  refine con_of_goF kk_96 (fun m => kk_95 m qa1 (0 : Int32) (11 : Int32)) ?_
  intro p e s m below meth c T0 C X0 e0
  refine g_iloadN C X0 (pc' := 1) d39_0 rfl rfl ?_
  refine g_ifN C X0 d39_1 (by decide) rfl ?_
  refine g_iloadN C X0 (pc' := 5) d39_4 rfl rfl ?_
  refine g_aloadN C X0 (pc' := 6) d39_5 rfl rfl rfl ?_
  refine g_len C X0 (pc' := 7) e0 H1 d39_6 rfl ?_
  refine g_icmpN C X0 d39_7 (by decide) rfl ?_
  refine g_aloadN C X0 (pc' := 11) d39_10 rfl rfl rfl ?_
  refine g_iloadN C X0 (pc' := 12) d39_11 rfl rfl ?_
  refine g_iloadN C X0 (pc' := 13) d39_12 rfl rfl ?_
  refine g_callS C X0 (k44_copyOfRangeByte l Z a0 hw h n0 Z0  qa1 qi1 qi2 qk1    H1) (hw _ (List.mem_of_getElem? (i := 252) rfl)) (hw _ (List.mem_of_getElem? (i := 253) rfl)) (hw _ (List.mem_of_getElem? (i := 79) rfl)) (hw _ (List.mem_of_getElem? (i := 254) rfl)) (by decide) e0 d39_13 rfl kk_94 [(.ref qa1), (.int (0 : Int32)), (.int (11 : Int32))] [] rfl rfl rfl 0 rfl (by decide) (by decide) (by decide) (by decide) rfl ?_
  rintro _ T1 L1 X1 ⟨b1, kc2, rfl, M1, K1, w_b1, FF3, FF4⟩
  have ne_qa1_b1 : qa1 ≠ b1 := Nat.ne_of_lt (Nat.lt_of_lt_of_le H1.lt w_b1)
  have z_b1 : n0 ≤ b1 := Nat.le_trans Z0 w_b1
  have y_b1 : h.size ≤ b1 := Nat.le_trans (Keep.refl h []).1 w_b1
  have H1 := H1.keep K1 nin0
  have Z1 : n0 ≤ T1.heap.size := Nat.le_trans Z0 K1.1
  have P1 := (Keep.refl h []).trans K1 al0
  have N1 := Fr.app (Fr.nil n0) M1
  obtain ⟨h1, e1⟩ : ∃ z, T1.heap = z := ⟨_, rfl⟩
  rw [e1] at H1 FF3 FF4 Z1 P1
  show Go p.tables e below _ T1 (mkF m 16 #[.val (.ref qa1), .val (.int (0 : Int32)), .val (.int (11 : Int32))] [(.ref b1)])
  exact g_areturn C X1 d39_16 rfl rfl rfl (⟨b1, kc2, rfl, N1, by rw [e1]; exact P1, y_b1, by rw [e1]; exact FF3, by rw [e1]; exact FF4⟩) (by decide) (by decide)
set_option maxRecDepth 65536 in
set_option maxHeartbeats 40000000 in
theorem k46_init (l : Launch) (Z : State) (a0 : Array Value) (hw : ∀ d ∈ tables_1, d.before a0 Z = true) (h : Heap) (n0 : Nat) (Z0 : n0 ≤ h.size) (qa1 : Addr) (qa2 : Addr) (qi1 : Int32) (qa3 : Addr) (qi2 : Int32) (qi3 : Int32) (qk1 : ClassId) (z_qa1 : n0 ≤ qa1) (ne_qa1_qa2 : qa1 ≠ qa2) (ne_qa1_qa3 : qa1 ≠ qa3) (C0_qi1 : ¬ (qi1.toInt = 0)) (H1 : Sta Z h "java/lang/String" "COMPACT_STRINGS" "Z" (.int qi1)) (H2 : Exa Z h qa1 "java/lang/String") (H3 : Fld Z h qa1 "java/lang/String" "value" "[B" .null) (H4 : Fld Z h qa1 "java/lang/String" "coder" "B" (.int (0 : Int32))) (H5 : Exa Z h qa2 "java/lang/StringBuilder") (H6 : Fld Z h qa2 "java/lang/AbstractStringBuilder" "value" "[B" (.ref qa3)) (H7 : Fld Z h qa2 "java/lang/AbstractStringBuilder" "coder" "B" (.int (0 : Int32))) (H8 : Fld Z h qa2 "java/lang/AbstractStringBuilder" "count" "I" (.int (11 : Int32))) (H9 : Arv Z h qa3 qk1 .byte (16 : Int32) [(.int (98 : Int32)), (.int (32 : Int32)), (.int (111 : Int32)), (.int (102 : Int32)), (.int (32 : Int32)), (.int (114 : Int32)), (.int (111 : Int32)), (.int (119 : Int32)), (.int (32 : Int32)), (.int qi2), (.int qi3)] (.int (0 : Int32))) :
    Con l Z (⟨"java/lang/String", "<init>", "(Ljava/lang/AbstractStringBuilder;Ljava/lang/Void;)V"⟩ : MethodName) jdk_42_method_150_code 5 none ⟨3, 1, 11, 63⟩ #[(.ref qa1), (.ref qa2), .null] h (fun v h' L => ∃ (uf1 : Addr) (uk2 : ClassId), v = none ∧ Fr n0 L ∧ Keep h h' [qa1] ∧ h.size ≤ uf1 ∧ Exa Z h' qa1 "java/lang/String" ∧ Fld Z h' qa1 "java/lang/String" "value" "[B" (.ref uf1) ∧ Fld Z h' qa1 "java/lang/String" "coder" "B" (.int (0 : Int32)) ∧ Exa Z h' uf1 "[B" ∧ Arv Z h' uf1 uk2 .byte (11 : Int32) [(.int (98 : Int32)), (.int (32 : Int32)), (.int (111 : Int32)), (.int (102 : Int32)), (.int (32 : Int32)), (.int (114 : Int32)), (.int (111 : Int32)), (.int (119 : Int32)), (.int (32 : Int32)), (.int qi2), (.int qi3)] (.int (0 : Int32))) := by
  refine con_of_goF kk_98 (fun m => kk_97 m qa1 qa2) ?_
  intro p e s m below meth c T0 C X0 e0
  refine g_aloadN C X0 (pc' := 1) d35_0 rfl rfl rfl ?_
  refine g_initO C X0 (hw _ (List.mem_of_getElem? (i := 234) rfl)) (hw _ (List.mem_of_getElem? (i := 7) rfl)) (hw _ (List.mem_of_getElem? (i := 8) rfl)) e0 d35_1 rfl 0 rfl (by decide) (by decide) rfl ?_
  intro T1 X1 e1
  refine g_aloadN C X1 (pc' := 5) d35_4 rfl rfl rfl ?_
  refine g_callV C X1 (k25_getValue l Z a0 hw h n0 Z0  qa2 qa3    H6) (hw _ (List.mem_of_getElem? (i := 235) rfl)) (hw _ (List.mem_of_getElem? (i := 236) rfl)) (hw _ (List.mem_of_getElem? (i := 238) rfl)) (hw _ (List.mem_of_getElem? (i := 237) rfl)) (hw _ (List.mem_of_getElem? (i := 136) rfl)) (hw _ (List.mem_of_getElem? (i := 239) rfl)) (by decide) e1 H5 d35_5 rfl kk_84 [] [] rfl rfl rfl 0 rfl (by decide) (by decide) (by decide) (by decide) rfl ?_
  rintro _ T2 _ X2 ⟨rfl, rfl, e2⟩
  rw [List.append_nil] at X2
  show Go p.tables e below _ T2 (mkF m 8 #[.val (.ref qa1), .val (.ref qa2), .val .null, .unset, .unset] [(.ref qa3)])
  refine g_astoreN C X2 (pc' := 9) d35_8 rfl (l' := #[.val (.ref qa1), .val (.ref qa2), .val .null, .val (.ref qa3), .unset]) rfl rfl ?_
  refine g_aloadN C X2 (pc' := 10) d35_9 rfl rfl rfl ?_
  refine g_callVZ C (y2 := ⟨"java/lang/AbstractStringBuilder", "ensureCapacityInternal", "(I)V"⟩) X2 (k41_length l Z a0 hw h n0 Z0  qa2    H5 H8) (hw _ (List.mem_of_getElem? (i := 240) rfl)) (hw _ (List.mem_of_getElem? (i := 241) rfl)) (hw _ (List.mem_of_getElem? (i := 243) rfl)) (hw _ (List.mem_of_getElem? (i := 244) rfl)) (hw _ (List.mem_of_getElem? (i := 128) rfl)) (hw _ (List.mem_of_getElem? (i := 245) rfl)) (hw _ (List.mem_of_getElem? (i := 180) rfl)) rfl (by decide) e2 H5 d35_10 rfl kk_48 [] [] rfl rfl rfl 0 rfl (by decide) (by decide) (by decide) (by decide) rfl ?_
  rintro _ T3 _ X3 ⟨rfl, rfl, e3⟩
  rw [List.append_nil] at X3
  show Go p.tables e below _ T3 (mkF m 13 #[.val (.ref qa1), .val (.ref qa2), .val .null, .val (.ref qa3), .unset] [(.int (11 : Int32))])
  refine g_istore C X3 (pc' := 15) d35_13 (x := (11 : Int32)) rfl (l' := #[.val (.ref qa1), .val (.ref qa2), .val .null, .val (.ref qa3), .val (.int (11 : Int32))]) rfl rfl ?_
  refine g_aloadN C X3 (pc' := 16) d35_15 rfl rfl rfl ?_
  refine g_callV C X3 (k21_isLatin1 l Z a0 hw h n0 Z0  qa2 qi1   C0_qi1 H1 H7) (hw _ (List.mem_of_getElem? (i := 248) rfl)) (hw _ (List.mem_of_getElem? (i := 213) rfl)) (hw _ (List.mem_of_getElem? (i := 215) rfl)) (hw _ (List.mem_of_getElem? (i := 214) rfl)) (hw _ (List.mem_of_getElem? (i := 136) rfl)) (hw _ (List.mem_of_getElem? (i := 216) rfl)) (by decide) e3 H5 d35_16 rfl kk_72 [] [] rfl rfl rfl 0 rfl (by decide) (by decide) (by decide) (by decide) rfl ?_
  rintro _ T4 _ X4 ⟨rfl, rfl, e4⟩
  rw [List.append_nil] at X4
  show Go p.tables e below _ T4 (mkF m 19 #[.val (.ref qa1), .val (.ref qa2), .val .null, .val (.ref qa3), .val (.int (11 : Int32))] [(.int (1 : Int32))])
  refine g_ifN C X4 d35_19 (by decide) rfl ?_
  refine g_aloadN C X4 (pc' := 23) d35_22 rfl rfl rfl ?_
  refine g_iconst C X4 (pc' := 24) d35_23 (v := (0 : Int32)) (by decide) rfl ?_
  refine g_putF C X4 (host := "") (Or.inl (hw _ (List.mem_of_getElem? (i := 174) rfl))) Via.refl e4 H4 H2 (Or.inr ⟨(hw _ (List.mem_of_getElem? (i := 149) rfl)), rfl, rfl⟩) (hw _ (List.mem_of_getElem? (i := 147) rfl)) (ty := .byte) (by decide) rfl rfl d35_24 rfl ?_
  intro T5 h5 X5 e5 W5
  have H1 := H1.wr W5
  have H2 := H2.wr W5
  have H3 := H3.other W5 (Or.inr (slot_ne (Or.inr (hw _ (List.mem_of_getElem? (i := 148) rfl))) (Or.inr (hw _ (List.mem_of_getElem? (i := 149) rfl))) (by decide) rfl rfl))
  have H4 := H4.same W5
  have H5 := H5.wr W5
  have H6 := H6.other W5 (Or.inl (Ne.symm ne_qa1_qa2))
  have H7 := H7.other W5 (Or.inl (Ne.symm ne_qa1_qa2))
  have H8 := H8.other W5 (Or.inl (Ne.symm ne_qa1_qa2))
  have H9 := H9.other W5 (Ne.symm ne_qa1_qa3)
  have Z5 : n0 ≤ h5.size := by rw [W5.size]; exact Z0
  have N5 := Fr.snoc X5 (Fr.nil n0) z_qa1
  have P5 := (Keep.refl h [qa1]).wr W5 (Or.inl (List.mem_of_getElem? (i := 0) rfl))
  refine g_aloadN C X5 (pc' := 28) d35_27 rfl rfl rfl ?_
  refine g_aloadN C X5 (pc' := 29) d35_28 rfl rfl rfl ?_
  refine g_iconst C X5 (pc' := 30) d35_29 (v := (0 : Int32)) (by decide) rfl ?_
  refine g_iload C X5 (pc' := 32) d35_30 rfl rfl ?_
  refine g_callS C X5 (k45_copyOfRange l Z a0 hw h5 n0 Z5  qa3 qi2 qi3 qk1    H9) (hw _ (List.mem_of_getElem? (i := 249) rfl)) (hw _ (List.mem_of_getElem? (i := 250) rfl)) (hw _ (List.mem_of_getElem? (i := 79) rfl)) (hw _ (List.mem_of_getElem? (i := 251) rfl)) (by decide) e5 d35_32 rfl kk_94 [(.ref qa3), (.int (0 : Int32)), (.int (11 : Int32))] [(.ref qa1)] rfl rfl rfl 1 rfl (by decide) (by decide) (by decide) (by decide) rfl ?_
  rintro _ T6 L6 X6 ⟨b1, kc2, rfl, M6, K6, w_b1, FF3, FF4⟩
  have ne_qa1_b1 : qa1 ≠ b1 := Nat.ne_of_lt (Nat.lt_of_lt_of_le H2.lt w_b1)
  have ne_qa2_b1 : qa2 ≠ b1 := Nat.ne_of_lt (Nat.lt_of_lt_of_le H5.lt w_b1)
  have ne_qa3_b1 : qa3 ≠ b1 := Nat.ne_of_lt (Nat.lt_of_lt_of_le H9.lt w_b1)
  have z_b1 : n0 ≤ b1 := Nat.le_trans Z5 w_b1
  have y_b1 : h.size ≤ b1 := Nat.le_trans P5.1 w_b1
  have H1 := staKeep H1 K6 al0
  have H2 := H2.keep K6
  have H3 := H3.keep K6 nin0
  have H4 := H4.keep K6 nin0
  have H5 := H5.keep K6
  have H6 := H6.keep K6 nin0
  have H7 := H7.keep K6 nin0
  have H8 := H8.keep K6 nin0
  have H9 := H9.keep K6 nin0
  have Z6 : n0 ≤ T6.heap.size := Nat.le_trans Z5 K6.1
  have P6 := P5.trans K6 al0
  have N6 := Fr.app N5 M6
  obtain ⟨h6, e6⟩ : ∃ z, T6.heap = z := ⟨_, rfl⟩
  rw [e6] at H1 H2 H3 H4 H5 H6 H7 H8 H9 FF3 FF4 Z6 P6
  show Go p.tables e below _ T6 (mkF m 35 #[.val (.ref qa1), .val (.ref qa2), .val .null, .val (.ref qa3), .val (.int (11 : Int32))] [(.ref b1), (.ref qa1)])
  refine g_putF C X6 (host := "") (Or.inl (hw _ (List.mem_of_getElem? (i := 167) rfl))) Via.refl e6 H3 H2 (Or.inr ⟨(hw _ (List.mem_of_getElem? (i := 148) rfl)), rfl, rfl⟩) (hw _ (List.mem_of_getElem? (i := 147) rfl)) (ty := (.array .byte)) (by decide) rfl rfl d35_35 rfl ?_
  intro T7 h7 X7 e7 W7
  have H1 := H1.wr W7
  have H2 := H2.wr W7
  have H3 := H3.same W7
  have H4 := H4.other W7 (Or.inr (slot_ne (Or.inr (hw _ (List.mem_of_getElem? (i := 149) rfl))) (Or.inr (hw _ (List.mem_of_getElem? (i := 148) rfl))) (by decide) rfl rfl))
  have H5 := H5.wr W7
  have H6 := H6.other W7 (Or.inl (Ne.symm ne_qa1_qa2))
  have H7 := H7.other W7 (Or.inl (Ne.symm ne_qa1_qa2))
  have H8 := H8.other W7 (Or.inl (Ne.symm ne_qa1_qa2))
  have H9 := H9.other W7 (Ne.symm ne_qa1_qa3)
  have FF3 := FF3.wr W7
  have FF4 := FF4.other W7 (Ne.symm ne_qa1_b1)
  have Z7 : n0 ≤ h7.size := by rw [W7.size]; exact Z6
  have N7 := Fr.snoc X7 N6 z_qa1
  have P7 := P6.wr W7 (Or.inl (List.mem_of_getElem? (i := 0) rfl))
  refine g_goto C X7 d35_38 (pc' := 97) (by decide) (by decide) ?_
  exact g_return C X7 d35_97 (⟨b1, kc2, rfl, N7, by rw [e7]; exact P7, y_b1, by rw [e7]; exact H2, by rw [e7]; exact H3, by rw [e7]; exact H4, by rw [e7]; exact FF3, by rw [e7]; exact FF4⟩) (by decide) (by decide)
set_option maxRecDepth 65536 in
set_option maxHeartbeats 40000000 in
theorem k47_init (l : Launch) (Z : State) (a0 : Array Value) (hw : ∀ d ∈ tables_1, d.before a0 Z = true) (h : Heap) (n0 : Nat) (Z0 : n0 ≤ h.size) (qa1 : Addr) (qa2 : Addr) (qi1 : Int32) (qa3 : Addr) (qi2 : Int32) (qi3 : Int32) (qk1 : ClassId) (z_qa1 : n0 ≤ qa1) (ne_qa1_qa2 : qa1 ≠ qa2) (ne_qa1_qa3 : qa1 ≠ qa3) (C0_qi1 : ¬ (qi1.toInt = 0)) (H1 : Sta Z h "java/lang/String" "COMPACT_STRINGS" "Z" (.int qi1)) (H2 : Exa Z h qa1 "java/lang/String") (H3 : Fld Z h qa1 "java/lang/String" "value" "[B" .null) (H4 : Fld Z h qa1 "java/lang/String" "coder" "B" (.int (0 : Int32))) (H5 : Exa Z h qa2 "java/lang/StringBuilder") (H6 : Fld Z h qa2 "java/lang/AbstractStringBuilder" "value" "[B" (.ref qa3)) (H7 : Fld Z h qa2 "java/lang/AbstractStringBuilder" "coder" "B" (.int (0 : Int32))) (H8 : Fld Z h qa2 "java/lang/AbstractStringBuilder" "count" "I" (.int (11 : Int32))) (H9 : Arv Z h qa3 qk1 .byte (16 : Int32) [(.int (98 : Int32)), (.int (32 : Int32)), (.int (111 : Int32)), (.int (102 : Int32)), (.int (32 : Int32)), (.int (114 : Int32)), (.int (111 : Int32)), (.int (119 : Int32)), (.int (32 : Int32)), (.int qi2), (.int qi3)] (.int (0 : Int32))) :
    Con l Z (⟨"java/lang/String", "<init>", "(Ljava/lang/StringBuilder;)V"⟩ : MethodName) jdk_42_method_53_code 2 none ⟨4, 1, 11, 79⟩ #[(.ref qa1), (.ref qa2)] h (fun v h' L => ∃ (uf1 : Addr) (uk2 : ClassId), v = none ∧ Fr n0 L ∧ Keep h h' [qa1] ∧ h.size ≤ uf1 ∧ Exa Z h' qa1 "java/lang/String" ∧ Fld Z h' qa1 "java/lang/String" "value" "[B" (.ref uf1) ∧ Fld Z h' qa1 "java/lang/String" "coder" "B" (.int (0 : Int32)) ∧ Exa Z h' uf1 "[B" ∧ Arv Z h' uf1 uk2 .byte (11 : Int32) [(.int (98 : Int32)), (.int (32 : Int32)), (.int (111 : Int32)), (.int (102 : Int32)), (.int (32 : Int32)), (.int (114 : Int32)), (.int (111 : Int32)), (.int (119 : Int32)), (.int (32 : Int32)), (.int qi2), (.int qi3)] (.int (0 : Int32))) := by
  refine con_of_goF kk_101 (fun m => kk_100 m qa1 qa2) ?_
  intro p e s m below meth c T0 C X0 e0
  refine g_aloadN C X0 (pc' := 1) d34_0 rfl rfl rfl ?_
  refine g_aloadN C X0 (pc' := 2) d34_1 rfl rfl rfl ?_
  refine g_aconstNull C X0 (pc' := 3) d34_2 rfl ?_
  refine g_callI C X0 (k46_init l Z a0 hw h n0 Z0  qa1 qa2 qi1 qa3 qi2 qi3 qk1 z_qa1 ne_qa1_qa2 ne_qa1_qa3 C0_qi1 H1 H2 H3 H4 H5 H6 H7 H8 H9) rfl (hw _ (List.mem_of_getElem? (i := 231) rfl)) (hw _ (List.mem_of_getElem? (i := 232) rfl)) (hw _ (List.mem_of_getElem? (i := 140) rfl)) (hw _ (List.mem_of_getElem? (i := 233) rfl)) (by decide) e0 d34_3 rfl kk_99 qa1 [(.ref qa2), .null] [] rfl rfl rfl 0 rfl (by decide) (by decide) (by decide) (by decide) rfl ?_
  rintro _ T1 L1 X1 ⟨b1, kc2, rfl, M1, K1, w_b1, FF3, FF4, FF5, FF6, FF7⟩
  have ne_qa1_b1 : qa1 ≠ b1 := Nat.ne_of_lt (Nat.lt_of_lt_of_le H2.lt w_b1)
  have ne_qa2_b1 : qa2 ≠ b1 := Nat.ne_of_lt (Nat.lt_of_lt_of_le H5.lt w_b1)
  have ne_qa3_b1 : qa3 ≠ b1 := Nat.ne_of_lt (Nat.lt_of_lt_of_le H9.lt w_b1)
  have z_b1 : n0 ≤ b1 := Nat.le_trans Z0 w_b1
  have y_b1 : h.size ≤ b1 := Nat.le_trans (Keep.refl h [qa1]).1 w_b1
  have H1 := staKeep H1 K1 (alc H2.nostat al0)
  have H5 := H5.keep K1
  have H6 := H6.keep K1 (ninS (Ne.symm ne_qa1_qa2) nin0)
  have H7 := H7.keep K1 (ninS (Ne.symm ne_qa1_qa2) nin0)
  have H8 := H8.keep K1 (ninS (Ne.symm ne_qa1_qa2) nin0)
  have H9 := H9.keep K1 (ninS (Ne.symm ne_qa1_qa3) nin0)
  have Z1 : n0 ≤ T1.heap.size := Nat.le_trans Z0 K1.1
  have P1 := (Keep.refl h [qa1]).trans K1 (alc (Or.inl (List.mem_of_getElem? (i := 0) rfl)) al0)
  have N1 := Fr.app (Fr.nil n0) M1
  obtain ⟨h1, e1⟩ : ∃ z, T1.heap = z := ⟨_, rfl⟩
  rw [e1] at H1 H5 H6 H7 H8 H9 FF3 FF4 FF5 FF6 FF7 Z1 P1
  show Go p.tables e below _ T1 (mkF m 6 #[.val (.ref qa1), .val (.ref qa2)] [])
  exact g_return C X1 d34_6 (⟨b1, kc2, rfl, N1, by rw [e1]; exact P1, y_b1, by rw [e1]; exact FF3, by rw [e1]; exact FF4, by rw [e1]; exact FF5, by rw [e1]; exact FF6, by rw [e1]; exact FF7⟩) (by decide) (by decide)
set_option maxRecDepth 65536 in
set_option maxHeartbeats 40000000 in
theorem k48_toString (l : Launch) (Z : State) (a0 : Array Value) (hw : ∀ d ∈ tables_1, d.before a0 Z = true) (h : Heap) (n0 : Nat) (Z0 : n0 ≤ h.size) (qa1 : Addr) (qi1 : Int32) (qa2 : Addr) (qi2 : Int32) (qi3 : Int32) (qk1 : ClassId) (C0_qi1 : ¬ (qi1.toInt = 0)) (H1 : Sta Z h "java/lang/String" "COMPACT_STRINGS" "Z" (.int qi1)) (H2 : Exa Z h qa1 "java/lang/StringBuilder") (H3 : Fld Z h qa1 "java/lang/AbstractStringBuilder" "value" "[B" (.ref qa2)) (H4 : Fld Z h qa1 "java/lang/AbstractStringBuilder" "coder" "B" (.int (0 : Int32))) (H5 : Fld Z h qa1 "java/lang/AbstractStringBuilder" "count" "I" (.int (11 : Int32))) (H6 : Arv Z h qa2 qk1 .byte (16 : Int32) [(.int (98 : Int32)), (.int (32 : Int32)), (.int (111 : Int32)), (.int (102 : Int32)), (.int (32 : Int32)), (.int (114 : Int32)), (.int (111 : Int32)), (.int (119 : Int32)), (.int (32 : Int32)), (.int qi2), (.int qi3)] (.int (0 : Int32))) :
    Con l Z (⟨"java/lang/StringBuilder", "toString", "()Ljava/lang/String;"⟩ : MethodName) jdk_67_method_42_code 1 (some (.object "java/lang/String")) ⟨5, 2, 15, 93⟩ #[(.ref qa1)] h (fun v h' L => ∃ (uf1 : Addr) (uf2 : Addr) (uk3 : ClassId), v = some (.ref uf1) ∧ Fr n0 L ∧ Keep h h' [] ∧ h.size ≤ uf1 ∧ uf1 ≠ uf2 ∧ h.size ≤ uf2 ∧ Exa Z h' uf1 "java/lang/String" ∧ Fld Z h' uf1 "java/lang/String" "value" "[B" (.ref uf2) ∧ Fld Z h' uf1 "java/lang/String" "coder" "B" (.int (0 : Int32)) ∧ Exa Z h' uf2 "[B" ∧ Arv Z h' uf2 uk3 .byte (11 : Int32) [(.int (98 : Int32)), (.int (32 : Int32)), (.int (111 : Int32)), (.int (102 : Int32)), (.int (32 : Int32)), (.int (114 : Int32)), (.int (111 : Int32)), (.int (119 : Int32)), (.int (32 : Int32)), (.int qi2), (.int qi3)] (.int (0 : Int32))) := by
  refine con_of_goF kk_104 (fun m => kk_103 m qa1) ?_
  intro p e s m below meth c T0 C X0 e0
  refine g_new C X0 (hw _ (List.mem_of_getElem? (i := 226) rfl)) (hw _ (List.mem_of_getElem? (i := 147) rfl)) (hw _ (List.mem_of_getElem? (i := 140) rfl)) e0 d33_0 (by decide) (by decide) rfl ?_
  intro T1 h1 a1 g1 X1 e1 E1 A1 D1
  have ne_qa1_a1 : qa1 ≠ a1 := Nat.ne_of_lt (by rw [g1]; exact H2.lt)
  have ne_qa2_a1 : qa2 ≠ a1 := Nat.ne_of_lt (by rw [g1]; exact H6.lt)
  have z_a1 : n0 ≤ a1 := by rw [g1]; exact Z0
  have y_a1 : h.size ≤ a1 := by rw [g1]; exact (Keep.refl h []).1
  have H1 := H1.ext E1
  have H2 := H2.ext E1
  have H3 := H3.ext E1
  have H4 := H4.ext E1
  have H5 := H5.ext E1
  have H6 := H6.ext E1
  have P1 := (Keep.refl h []).ext E1
  have Z1 : n0 ≤ h1.size := Nat.le_trans Z0 E1.1
  have F1_1 : Fld Z h1 a1 "java/lang/String" "value" "[B" .null := D1 (Or.inr (hw _ (List.mem_of_getElem? (i := 148) rfl))) (ty := (.array .byte)) (by decide)
  have F1_2 : Fld Z h1 a1 "java/lang/String" "coder" "B" (.int (0 : Int32)) := D1 (Or.inr (hw _ (List.mem_of_getElem? (i := 149) rfl))) (ty := .byte) (by decide)
  refine g_dup C X1 (pc' := 4) d33_3 rfl rfl ?_
  refine g_aloadN C X1 (pc' := 5) d33_4 rfl rfl rfl ?_
  refine g_callI C X1 (k47_init l Z a0 hw h1 n0 Z1  a1 qa1 qi1 qa2 qi2 qi3 qk1 z_a1 (Ne.symm ne_qa1_a1) (Ne.symm ne_qa2_a1) C0_qi1 H1 A1 F1_1 F1_2 H2 H3 H4 H5 H6) rfl (hw _ (List.mem_of_getElem? (i := 227) rfl)) (hw _ (List.mem_of_getElem? (i := 228) rfl)) (hw _ (List.mem_of_getElem? (i := 140) rfl)) (hw _ (List.mem_of_getElem? (i := 230) rfl)) (by decide) e1 d33_5 rfl kk_102 a1 [(.ref qa1)] [(.ref a1)] rfl rfl rfl 1 rfl (by decide) (by decide) (by decide) (by decide) rfl ?_
  rintro _ T2 L2 X2 ⟨b1, kc2, rfl, M2, K2, w_b1, FF3, FF4, FF5, FF6, FF7⟩
  have ne_a1_b1 : a1 ≠ b1 := Nat.ne_of_lt (Nat.lt_of_lt_of_le A1.lt w_b1)
  have ne_qa1_b1 : qa1 ≠ b1 := Nat.ne_of_lt (Nat.lt_of_lt_of_le H2.lt w_b1)
  have ne_qa2_b1 : qa2 ≠ b1 := Nat.ne_of_lt (Nat.lt_of_lt_of_le H6.lt w_b1)
  have z_b1 : n0 ≤ b1 := Nat.le_trans Z1 w_b1
  have y_b1 : h.size ≤ b1 := Nat.le_trans P1.1 w_b1
  have H1 := staKeep H1 K2 (alc A1.nostat al0)
  have H2 := H2.keep K2
  have H3 := H3.keep K2 (ninS ne_qa1_a1 nin0)
  have H4 := H4.keep K2 (ninS ne_qa1_a1 nin0)
  have H5 := H5.keep K2 (ninS ne_qa1_a1 nin0)
  have H6 := H6.keep K2 (ninS ne_qa2_a1 nin0)
  have Z2 : n0 ≤ T2.heap.size := Nat.le_trans Z1 K2.1
  have P2 := P1.trans K2 (alc (Or.inr y_a1) al0)
  have N2 := Fr.app (Fr.nil n0) M2
  obtain ⟨h2, e2⟩ : ∃ z, T2.heap = z := ⟨_, rfl⟩
  rw [e2] at H1 H2 H3 H4 H5 H6 FF3 FF4 FF5 FF6 FF7 Z2 P2
  show Go p.tables e below _ T2 (mkF m 8 #[.val (.ref qa1)] [(.ref a1)])
  exact g_areturn C X2 d33_8 rfl rfl rfl (⟨a1, b1, kc2, rfl, N2, by rw [e2]; exact P2, y_a1, ne_a1_b1, y_b1, by rw [e2]; exact FF3, by rw [e2]; exact FF4, by rw [e2]; exact FF5, by rw [e2]; exact FF6, by rw [e2]; exact FF7⟩) (by decide) (by decide)
set_option maxRecDepth 65536 in
set_option maxHeartbeats 40000000 in
theorem itB2 (l : Launch) (Z : State) (a0 : Array Value) (hw : ∀ d ∈ tables_1, d.before a0 Z = true) (h : Heap) (n0 : Nat) (Z0 : n0 ≤ h.size) {p : Program} {e : Env} {R : Room} {s : State} {m : MethodId} {args : Array Value} {below : List Frame} {meth : Method} {c : Code} {T0 : State} {locs : List Loc} {cells slots : Nat} {G : Outcome → State → Prop} (C : Cx p l s m meth c Z (⟨"com/example/fleetloom/fleetloom/ChainedProgramme$Builder", "build", "()Lcom/example/fleetloom/fleetloom/ChainedProgramme;"⟩ : MethodName) prog_4_method_6_code 3 (some (.object "com/example/fleetloom/fleetloom/ChainedProgramme"))) (X0 : Stand p l e R s m args below meth c T0 locs cells slots) (e0 : T0.heap = h) (N0 : Fr n0 locs) (cs : Int32) (dg1 dg2 : Addr) (hcs : ¬ (cs.toInt = 0)) (bu pr sb bv lit lb : Addr) (kv kl : ClassId) (i : Int32) (v : UInt64) (hF : Fin v) (hi : 10 ≤ i.toInt ∧ i.toInt ≤ 46) (hRf : 8 ≤ R.frames) (hRl : 180 ≤ R.locals) (hRc : cells + 2 ≤ R.cells) (hRs : slots + 15 ≤ R.slots) (z_sb : n0 ≤ sb) (z_bv : n0 ≤ bv) (ne_sb_bv : sb ≠ bv) (ne_sb_lit : sb ≠ lit) (ne_sb_lb : sb ≠ lb) (ne_sb_dg1 : sb ≠ dg1) (ne_sb_dg2 : sb ≠ dg2) (ne_bv_lit : bv ≠ lit) (ne_bv_lb : bv ≠ lb) (ne_bv_dg1 : bv ≠ dg1) (ne_bv_dg2 : bv ≠ dg2) (ne_lit_lb : lit ≠ lb) (Xs : Exa Z h sb "java/lang/StringBuilder") (Sb1 : Fld Z h sb "java/lang/AbstractStringBuilder" "value" "[B" (.ref bv)) (Sb2 : Fld Z h sb "java/lang/AbstractStringBuilder" "coder" "B" (.int (0 : Int32))) (Sb3 : Fld Z h sb "java/lang/AbstractStringBuilder" "count" "I" (.int (0 : Int32))) (Sb4 : Arv Z h bv kv .byte (16 : Int32) [] (.int (0 : Int32))) (Sb5 : Exa Z h bv "[B") (Xl : Exa Z h lit "java/lang/String") (Lt1 : Fld Z h lit "java/lang/String" "coder" "B" (.int (0 : Int32))) (Lt2 : Fld Z h lit "java/lang/String" "value" "[B" (.ref lb)) (Lt3 : Arv Z h lb kl .byte (9 : Int32) [(.int (98 : Int32)), (.int (32 : Int32)), (.int (111 : Int32)), (.int (102 : Int32)), (.int (32 : Int32)), (.int (114 : Int32)), (.int (111 : Int32)), (.int (119 : Int32)), (.int (32 : Int32))] (.int (0 : Int32))) (FS0 : Sta Z h "java/lang/String" "COMPACT_STRINGS" "Z" (.int cs)) (FS1 : Sta Z h "java/lang/Integer" "DigitOnes" "[B" (.ref dg1)) (FS2 : Sta Z h "java/lang/Integer" "DigitTens" "[B" (.ref dg2)) (BA1 : BArr Z h dg1) (BA2 : BArr Z h dg2)
    (K : ∀ T' h' L i1, i1 = i + Int32.ofInt 1 → Stand p l e R s m args below meth c T' L (cells + 2) (slots + 15) → T'.heap = h' → Fr n0 L → Keep h h' [sb, bv] → Go p.tables e below G T' (mkF m 11 #[.val (.ref bu), .val (.ref pr), .val (.int i1)] [])) :
    Go p.tables e below G T0 (mkF m 34 #[.val (.ref bu), .val (.ref pr), .val (.int i)] [.ref lit, .ref sb, .double v]) := by
  refine g_callV C X0 (k18_append l Z a0 hw h n0 Z0  sb lit cs bv lb kv kl z_sb z_bv ne_sb_lit ne_sb_bv ne_sb_lb (Ne.symm ne_bv_lit) ne_bv_lb hcs FS0 Xs Sb1 Sb2 Sb3 Xl Lt1 Lt2 Sb4 Sb5 Lt3) (hw _ (List.mem_of_getElem? (i := 152) rfl)) (hw _ (List.mem_of_getElem? (i := 153) rfl)) (hw _ (List.mem_of_getElem? (i := 155) rfl)) (hw _ (List.mem_of_getElem? (i := 154) rfl)) (hw _ (List.mem_of_getElem? (i := 128) rfl)) (hw _ (List.mem_of_getElem? (i := 156) rfl)) (by first | decide | omega | (dsimp only; omega)) e0 Xs d10_34 rfl kk_66 [(.ref lit)] [(.double v)] rfl rfl rfl 2 rfl (by first | decide | omega | (dsimp only; omega)) (by first | decide | omega | (dsimp only; omega)) (by first | decide | omega | (dsimp only; omega)) (by first | decide | omega | (dsimp only; omega)) rfl ?_
  rintro _ T1 L1 X1 ⟨rfl, M1, K1, FF1, FF2, FF3, FF4, FF5, FF6⟩
  have Xl := Xl.keep K1
  have Lt1 := Lt1.keep K1 (ninS (Ne.symm ne_sb_lit) (ninS (Ne.symm ne_bv_lit) nin0))
  have Lt2 := Lt2.keep K1 (ninS (Ne.symm ne_sb_lit) (ninS (Ne.symm ne_bv_lit) nin0))
  have Lt3 := Lt3.keep K1 (ninS (Ne.symm ne_sb_lb) (ninS (Ne.symm ne_bv_lb) nin0))
  have FS0 := staKeep FS0 K1 (alc Xs.nostat (alc Sb4.nostat al0))
  have FS1 := staKeep FS1 K1 (alc Xs.nostat (alc Sb4.nostat al0))
  have FS2 := staKeep FS2 K1 (alc Xs.nostat (alc Sb4.nostat al0))
  have BA1 := BA1.keep K1 (ninS (Ne.symm ne_sb_dg1) (ninS (Ne.symm ne_bv_dg1) nin0))
  have BA2 := BA2.keep K1 (ninS (Ne.symm ne_sb_dg2) (ninS (Ne.symm ne_bv_dg2) nin0))
  have Z1 : n0 ≤ T1.heap.size := Nat.le_trans Z0 K1.1
  have P1 := (Keep.refl h [sb, bv]).trans K1 (alc (Or.inl (List.mem_of_getElem? (i := 0) rfl)) (alc (Or.inl (List.mem_of_getElem? (i := 1) rfl)) al0))
  have N1 := Fr.app N0 M1
  obtain ⟨h1, e1⟩ : ∃ z, T1.heap = z := ⟨_, rfl⟩
  rw [e1] at Xl Lt1 Lt2 Lt3 FS0 FS1 FS2 BA1 BA2 FF1 FF2 FF3 FF4 FF5 FF6 Z1 P1
  show Go p.tables e below _ T1 (mkF m 37 #[.val (.ref bu), .val (.ref pr), .val (.int i)] [(.ref sb), (.double v)])
  refine g_iloadN C X1 (pc' := 38) d10_37 rfl rfl ?_
  refine g_callV C X1 (k39_append l Z a0 hw h1 n0 Z1  sb i cs dg1 dg2 bv kv z_sb z_bv ne_sb_dg1 ne_sb_dg2 ne_sb_bv (Ne.symm ne_bv_dg1) (Ne.symm ne_bv_dg2) hi hcs FS0 FS1 FS2 FF1 FF2 FF3 FF4 BA1 BA2 FF5 FF6) (hw _ (List.mem_of_getElem? (i := 199) rfl)) (hw _ (List.mem_of_getElem? (i := 200) rfl)) (hw _ (List.mem_of_getElem? (i := 202) rfl)) (hw _ (List.mem_of_getElem? (i := 201) rfl)) (hw _ (List.mem_of_getElem? (i := 128) rfl)) (hw _ (List.mem_of_getElem? (i := 203) rfl)) (by first | decide | omega | (dsimp only; omega)) e1 FF1 d10_38 rfl kk_81 [(.int i)] [(.double v)] rfl rfl rfl 2 rfl (by first | decide | omega | (dsimp only; omega)) (by first | decide | omega | (dsimp only; omega)) (by first | decide | omega | (dsimp only; omega)) (by first | decide | omega | (dsimp only; omega)) rfl ?_
  rintro _ T2 L2 X2 ⟨ri7, ri8, rfl, M2, K2, FF9, FF10, FF11, FF12, FF13, FF14⟩
  have Xl := Xl.keep K2
  have Lt1 := Lt1.keep K2 (ninS (Ne.symm ne_sb_lit) (ninS (Ne.symm ne_bv_lit) nin0))
  have Lt2 := Lt2.keep K2 (ninS (Ne.symm ne_sb_lit) (ninS (Ne.symm ne_bv_lit) nin0))
  have Lt3 := Lt3.keep K2 (ninS (Ne.symm ne_sb_lb) (ninS (Ne.symm ne_bv_lb) nin0))
  have FS0 := staKeep FS0 K2 (alc FF1.nostat (alc FF5.nostat al0))
  have FS1 := staKeep FS1 K2 (alc FF1.nostat (alc FF5.nostat al0))
  have FS2 := staKeep FS2 K2 (alc FF1.nostat (alc FF5.nostat al0))
  have BA1 := BA1.keep K2 (ninS (Ne.symm ne_sb_dg1) (ninS (Ne.symm ne_bv_dg1) nin0))
  have BA2 := BA2.keep K2 (ninS (Ne.symm ne_sb_dg2) (ninS (Ne.symm ne_bv_dg2) nin0))
  have Z2 : n0 ≤ T2.heap.size := Nat.le_trans Z1 K2.1
  have P2 := P1.trans K2 (alc (Or.inl (List.mem_of_getElem? (i := 0) rfl)) (alc (Or.inl (List.mem_of_getElem? (i := 1) rfl)) al0))
  have N2 := Fr.app N1 M2
  obtain ⟨h2, e2⟩ : ∃ z, T2.heap = z := ⟨_, rfl⟩
  rw [e2] at Xl Lt1 Lt2 Lt3 FS0 FS1 FS2 BA1 BA2 FF9 FF10 FF11 FF12 FF13 FF14 Z2 P2
  show Go p.tables e below _ T2 (mkF m 41 #[.val (.ref bu), .val (.ref pr), .val (.int i)] [(.ref sb), (.double v)])
  refine g_callV C X2 (k48_toString l Z a0 hw h2 n0 Z2  sb cs bv ri7 ri8 kv   hcs FS0 FF9 FF10 FF11 FF12 FF14) (hw _ (List.mem_of_getElem? (i := 221) rfl)) (hw _ (List.mem_of_getElem? (i := 222) rfl)) (hw _ (List.mem_of_getElem? (i := 224) rfl)) (hw _ (List.mem_of_getElem? (i := 223) rfl)) (hw _ (List.mem_of_getElem? (i := 128) rfl)) (hw _ (List.mem_of_getElem? (i := 225) rfl)) (by first | decide | omega | (dsimp only; omega)) e2 FF9 d10_41 rfl kk_105 [] [(.double v)] rfl rfl rfl 2 rfl (by first | decide | omega | (dsimp only; omega)) (by first | decide | omega | (dsimp only; omega)) (by first | decide | omega | (dsimp only; omega)) (by first | decide | omega | (dsimp only; omega)) rfl ?_
  rintro _ T3 L3 X3 ⟨b15, b16, kc17, rfl, M3, K3, w_b15, ne_b15_b16, w_b16, FF18, FF19, FF20, FF21, FF22⟩
  have ne_bv_b15 : bv ≠ b15 := Nat.ne_of_lt (Nat.lt_of_lt_of_le FF13.lt w_b15)
  have ne_dg1_b15 : dg1 ≠ b15 := Nat.ne_of_lt (Nat.lt_of_lt_of_le BA1.lt w_b15)
  have ne_dg2_b15 : dg2 ≠ b15 := Nat.ne_of_lt (Nat.lt_of_lt_of_le BA2.lt w_b15)
  have ne_lb_b15 : lb ≠ b15 := Nat.ne_of_lt (Nat.lt_of_lt_of_le Lt3.lt w_b15)
  have ne_lit_b15 : lit ≠ b15 := Nat.ne_of_lt (Nat.lt_of_lt_of_le Xl.lt w_b15)
  have ne_sb_b15 : sb ≠ b15 := Nat.ne_of_lt (Nat.lt_of_lt_of_le FF9.lt w_b15)
  have z_b15 : n0 ≤ b15 := Nat.le_trans Z2 w_b15
  have y_b15 : h.size ≤ b15 := Nat.le_trans P2.1 w_b15
  have ne_bv_b16 : bv ≠ b16 := Nat.ne_of_lt (Nat.lt_of_lt_of_le FF13.lt w_b16)
  have ne_dg1_b16 : dg1 ≠ b16 := Nat.ne_of_lt (Nat.lt_of_lt_of_le BA1.lt w_b16)
  have ne_dg2_b16 : dg2 ≠ b16 := Nat.ne_of_lt (Nat.lt_of_lt_of_le BA2.lt w_b16)
  have ne_lb_b16 : lb ≠ b16 := Nat.ne_of_lt (Nat.lt_of_lt_of_le Lt3.lt w_b16)
  have ne_lit_b16 : lit ≠ b16 := Nat.ne_of_lt (Nat.lt_of_lt_of_le Xl.lt w_b16)
  have ne_sb_b16 : sb ≠ b16 := Nat.ne_of_lt (Nat.lt_of_lt_of_le FF9.lt w_b16)
  have z_b16 : n0 ≤ b16 := Nat.le_trans Z2 w_b16
  have y_b16 : h.size ≤ b16 := Nat.le_trans P2.1 w_b16
  have Xl := Xl.keep K3
  have Lt1 := Lt1.keep K3 nin0
  have Lt2 := Lt2.keep K3 nin0
  have Lt3 := Lt3.keep K3 nin0
  have FS0 := staKeep FS0 K3 al0
  have FS1 := staKeep FS1 K3 al0
  have FS2 := staKeep FS2 K3 al0
  have BA1 := BA1.keep K3 nin0
  have BA2 := BA2.keep K3 nin0
  have FF9 := FF9.keep K3
  have FF10 := FF10.keep K3 nin0
  have FF11 := FF11.keep K3 nin0
  have FF12 := FF12.keep K3 nin0
  have FF13 := FF13.keep K3
  have FF14 := FF14.keep K3 nin0
  have Z3 : n0 ≤ T3.heap.size := Nat.le_trans Z2 K3.1
  have P3 := P2.trans K3 al0
  have N3 := Fr.app N2 M3
  obtain ⟨h3, e3⟩ : ∃ z, T3.heap = z := ⟨_, rfl⟩
  rw [e3] at Xl Lt1 Lt2 Lt3 FS0 FS1 FS2 BA1 BA2 FF9 FF10 FF11 FF12 FF13 FF14 FF18 FF19 FF20 FF21 FF22 Z3 P3
  show Go p.tables e below _ T3 (mkF m 44 #[.val (.ref bu), .val (.ref pr), .val (.int i)] [(.ref b15), (.double v)])
  refine g_callS C X3 (c_fin l Z a0 hw h3 n0 Z3 v b15 hF) (hw _ (List.mem_of_getElem? (i := 258) rfl)) (hw _ (List.mem_of_getElem? (i := 259) rfl)) (hw _ (List.mem_of_getElem? (i := 2) rfl)) (hw _ (List.mem_of_getElem? (i := 260) rfl)) (by first | decide | omega | (dsimp only; omega)) e3 d10_44 rfl kk_106 [(.double v), (.ref b15)] [] rfl rfl rfl 0 rfl (by first | decide | omega | (dsimp only; omega)) (by first | decide | omega | (dsimp only; omega)) (by first | decide | omega | (dsimp only; omega)) (by first | decide | omega | (dsimp only; omega)) rfl ?_
  rintro _ T4 _ X4 ⟨rfl, rfl, e4⟩
  rw [List.append_nil] at X4
  show Go p.tables e below _ T4 (mkF m 47 #[.val (.ref bu), .val (.ref pr), .val (.int i)] [])
  obtain ⟨i23, e_i23⟩ : ∃ z : Int32, z = i + Int32.ofInt (1) := ⟨_, rfl⟩
  refine g_iinc C X4 (pc' := 50) d10_47 rfl (z := i23) e_i23 (l' := #[.val (.ref bu), .val (.ref pr), .val (.int i23)]) rfl rfl ?_
  refine g_goto C X4 d10_50 (pc' := 11) (by first | decide | omega | (dsimp only; omega)) (by first | decide | omega | (dsimp only; omega)) ?_
  exact K T4 h3 _ i23 e_i23 (X4.more (by first | decide | omega | (dsimp only; omega)) (by first | decide | omega | (dsimp only; omega))) e4 N3 P3
theorem d18_0 : decode jdk_67_method_1_code 0 = .ok (.aload_n 0, 1) := by decide +kernel
theorem d18_1 : decode jdk_67_method_1_code 1 = .ok (.bipush 16, 2) := by decide +kernel
theorem d18_3 : decode jdk_67_method_1_code 3 = .ok (.invokespecial 1, 3) := by decide +kernel
theorem d18_6 : decode jdk_67_method_1_code 6 = .ok (.return_, 1) := by decide +kernel
theorem d19_0 : decode jdk_68_method_2_code 0 = .ok (.aload_n 0, 1) := by decide +kernel
theorem d19_1 : decode jdk_68_method_2_code 1 = .ok (.invokespecial 3, 3) := by decide +kernel
theorem d19_4 : decode jdk_68_method_2_code 4 = .ok (.getstatic 18, 3) := by decide +kernel
theorem d19_7 : decode jdk_68_method_2_code 7 = .ok (.ifCond .eq 18, 3) := by decide +kernel
theorem d19_10 : decode jdk_68_method_2_code 10 = .ok (.aload_n 0, 1) := by decide +kernel
theorem d19_11 : decode jdk_68_method_2_code 11 = .ok (.iload_n 1, 1) := by decide +kernel
theorem d19_12 : decode jdk_68_method_2_code 12 = .ok (.newarray .byte, 2) := by decide +kernel
theorem d19_14 : decode jdk_68_method_2_code 14 = .ok (.putfield 15, 3) := by decide +kernel
theorem d19_17 : decode jdk_68_method_2_code 17 = .ok (.aload_n 0, 1) := by decide +kernel
theorem d19_18 : decode jdk_68_method_2_code 18 = .ok (.iconst 0, 1) := by decide +kernel
theorem d19_19 : decode jdk_68_method_2_code 19 = .ok (.putfield 22, 3) := by decide +kernel
theorem d19_22 : decode jdk_68_method_2_code 22 = .ok (.goto 16, 3) := by decide +kernel
theorem d19_25 : decode jdk_68_method_2_code 25 = .ok (.aload_n 0, 1) := by decide +kernel
theorem d19_26 : decode jdk_68_method_2_code 26 = .ok (.iload_n 1, 1) := by decide +kernel
theorem d19_27 : decode jdk_68_method_2_code 27 = .ok (.invokestatic 26, 3) := by decide +kernel
theorem d19_30 : decode jdk_68_method_2_code 30 = .ok (.putfield 15, 3) := by decide +kernel
theorem d19_33 : decode jdk_68_method_2_code 33 = .ok (.aload_n 0, 1) := by decide +kernel
theorem d19_34 : decode jdk_68_method_2_code 34 = .ok (.iconst 1, 1) := by decide +kernel
theorem d19_35 : decode jdk_68_method_2_code 35 = .ok (.putfield 22, 3) := by decide +kernel
theorem d19_38 : decode jdk_68_method_2_code 38 = .ok (.return_, 1) := by decide +kernel
theorem kk_107 (m : MethodId) (x0 : Addr) (x1 : Int32) : entryFrame m #[(.ref x0), (.int x1)] 2 = mkF m 0 #[.val (.ref x0), .val (.int x1)] [] := by first | (simp [entryFrame, mkF, argsToLocals, Value.category]; done) | rfl
theorem kk_108 : plainFor (⟨"java/lang/AbstractStringBuilder", "<init>", "(I)V"⟩ : MethodName) = true := by decide +kernel
set_option maxRecDepth 65536 in
set_option maxHeartbeats 40000000 in
theorem k49_init (l : Launch) (Z : State) (a0 : Array Value) (hw : ∀ d ∈ tables_1, d.before a0 Z = true) (h : Heap) (n0 : Nat) (Z0 : n0 ≤ h.size) (qa1 : Addr) (qi1 : Int32) (z_qa1 : n0 ≤ qa1) (C0_qi1 : ¬ (qi1.toInt = 0)) (H1 : Sta Z h "java/lang/String" "COMPACT_STRINGS" "Z" (.int qi1)) (H2 : Exa Z h qa1 "java/lang/StringBuilder") (H3 : Fld Z h qa1 "java/lang/AbstractStringBuilder" "value" "[B" .null) (H4 : Fld Z h qa1 "java/lang/AbstractStringBuilder" "coder" "B" (.int (0 : Int32))) (H5 : Fld Z h qa1 "java/lang/AbstractStringBuilder" "count" "I" (.int (0 : Int32))) :
    Con l Z (⟨"java/lang/AbstractStringBuilder", "<init>", "(I)V"⟩ : MethodName) jdk_68_method_2_code 2 none ⟨1, 1, 16, 12⟩ #[(.ref qa1), (.int (16 : Int32))] h (fun v h' L => ∃ (uf1 : Addr) (uk2 : ClassId), v = none ∧ Fr n0 L ∧ Keep h h' [qa1] ∧ h.size ≤ uf1 ∧ Exa Z h' qa1 "java/lang/StringBuilder" ∧ Fld Z h' qa1 "java/lang/AbstractStringBuilder" "value" "[B" (.ref uf1) ∧ Fld Z h' qa1 "java/lang/AbstractStringBuilder" "coder" "B" (.int (0 : Int32)) ∧ Fld Z h' qa1 "java/lang/AbstractStringBuilder" "count" "I" (.int (0 : Int32)) ∧ Arv Z h' uf1 uk2 .byte (16 : Int32) [] (.int (0 : Int32)) ∧ Exa Z h' uf1 "[B") := by
  refine con_of_goF kk_108 (fun m => kk_107 m qa1 (16 : Int32)) ?_
  intro p e s m below meth c T0 C X0 e0
  refine g_aloadN C X0 (pc' := 1) d19_0 rfl rfl rfl ?_
  refine g_initO C X0 (hw _ (List.mem_of_getElem? (i := 138) rfl)) (hw _ (List.mem_of_getElem? (i := 7) rfl)) (hw _ (List.mem_of_getElem? (i := 8) rfl)) e0 d19_1 rfl 0 rfl (by decide) (by decide) rfl ?_
  intro T1 X1 e1
  refine g_getS C X1 (hw _ (List.mem_of_getElem? (i := 139) rfl)) Via.refl e1 H1 d19_4 rfl ?_
  intro T2 X2 e2
  refine g_ifN C X2 d19_7 (C0_qi1) rfl ?_
  refine g_aloadN C X2 (pc' := 11) d19_10 rfl rfl rfl ?_
  refine g_iloadN C X2 (pc' := 12) d19_11 rfl rfl ?_
  refine g_newPE C X2 (aty := .byte) (ad := "[B") (by decide) (hw _ (List.mem_of_getElem? (i := 141) rfl)) e2 d19_12 (by decide) 16 (by decide) (by decide) (by decide) (by decide) rfl ?_
  intro T3 h3 a3 k3 g3 X3 e3 E3 A3 B3
  have ne_qa1_a3 : qa1 ≠ a3 := Nat.ne_of_lt (by rw [g3]; exact H2.lt)
  have z_a3 : n0 ≤ a3 := by rw [g3]; exact Z0
  have y_a3 : h.size ≤ a3 := by rw [g3]; exact (Keep.refl h [qa1]).1
  have H1 := H1.ext E3
  have H2 := H2.ext E3
  have H3 := H3.ext E3
  have H4 := H4.ext E3
  have H5 := H5.ext E3
  have P3 := (Keep.refl h [qa1]).ext E3
  have Z3 : n0 ≤ h3.size := Nat.le_trans Z0 E3.1
  have A3 : Arv Z h3 a3 k3 .byte (16 : Int32) [] (.int (0 : Int32)) := A3
  refine g_putF C X3 (host := "") (Or.inl (hw _ (List.mem_of_getElem? (i := 142) rfl))) Via.refl e3 H3 H2 (Or.inl (hw _ (List.mem_of_getElem? (i := 143) rfl))) (hw _ (List.mem_of_getElem? (i := 127) rfl)) (ty := (.array .byte)) (by decide) rfl rfl d19_14 rfl ?_
  intro T4 h4 X4 e4 W4
  have H1 := H1.wr W4
  have H2 := H2.wr W4
  have H3 := H3.same W4
  have H4 := H4.other W4 (Or.inr (slot_ne (Or.inl (hw _ (List.mem_of_getElem? (i := 145) rfl))) (Or.inl (hw _ (List.mem_of_getElem? (i := 143) rfl))) (by decide) rfl rfl))
  have H5 := H5.other W4 (Or.inr (slot_ne (Or.inl (hw _ (List.mem_of_getElem? (i := 176) rfl))) (Or.inl (hw _ (List.mem_of_getElem? (i := 143) rfl))) (by decide) rfl rfl))
  have A3 := A3.other W4 (Ne.symm ne_qa1_a3)
  have B3 := B3.wr W4
  have Z4 : n0 ≤ h4.size := by rw [W4.size]; exact Z3
  have N4 := Fr.snoc X4 (Fr.nil n0) z_qa1
  have P4 := P3.wr W4 (Or.inl (List.mem_of_getElem? (i := 0) rfl))
  refine g_aloadN C X4 (pc' := 18) d19_17 rfl rfl rfl ?_
  refine g_iconst C X4 (pc' := 19) d19_18 (v := (0 : Int32)) (by decide) rfl ?_
  refine g_putF C X4 (host := "") (Or.inl (hw _ (List.mem_of_getElem? (i := 144) rfl))) Via.refl e4 H4 H2 (Or.inl (hw _ (List.mem_of_getElem? (i := 145) rfl))) (hw _ (List.mem_of_getElem? (i := 127) rfl)) (ty := .byte) (by decide) rfl rfl d19_19 rfl ?_
  intro T5 h5 X5 e5 W5
  have H1 := H1.wr W5
  have H2 := H2.wr W5
  have H3 := H3.other W5 (Or.inr (slot_ne (Or.inl (hw _ (List.mem_of_getElem? (i := 143) rfl))) (Or.inl (hw _ (List.mem_of_getElem? (i := 145) rfl))) (by decide) rfl rfl))
  have H4 := H4.same W5
  have H5 := H5.other W5 (Or.inr (slot_ne (Or.inl (hw _ (List.mem_of_getElem? (i := 176) rfl))) (Or.inl (hw _ (List.mem_of_getElem? (i := 145) rfl))) (by decide) rfl rfl))
  have A3 := A3.other W5 (Ne.symm ne_qa1_a3)
  have B3 := B3.wr W5
  have Z5 : n0 ≤ h5.size := by rw [W5.size]; exact Z4
  have N5 := Fr.snoc X5 N4 z_qa1
  have P5 := P4.wr W5 (Or.inl (List.mem_of_getElem? (i := 0) rfl))
  refine g_goto C X5 d19_22 (pc' := 38) (by decide) (by decide) ?_
  exact g_return C X5 d19_38 (⟨a3, k3, rfl, N5, by rw [e5]; exact P5, y_a3, by rw [e5]; exact H2, by rw [e5]; exact H3, by rw [e5]; exact H4, by rw [e5]; exact H5, by rw [e5]; exact A3, by rw [e5]; exact B3⟩) (by decide) (by decide)
theorem kk_109 (m : MethodId) (x0 : Addr) : entryFrame m #[(.ref x0)] 1 = mkF m 0 #[.val (.ref x0)] [] := by first | (simp [entryFrame, mkF, argsToLocals, Value.category]; done) | rfl
theorem kk_110 : plainFor (⟨"java/lang/StringBuilder", "<init>", "()V"⟩ : MethodName) = true := by decide +kernel
set_option maxRecDepth 65536 in
set_option maxHeartbeats 40000000 in
theorem k50_init (l : Launch) (Z : State) (a0 : Array Value) (hw : ∀ d ∈ tables_1, d.before a0 Z = true) (h : Heap) (n0 : Nat) (Z0 : n0 ≤ h.size) (qa1 : Addr) (qi1 : Int32) (z_qa1 : n0 ≤ qa1) (C0_qi1 : ¬ (qi1.toInt = 0)) (H1 : Sta Z h "java/lang/String" "COMPACT_STRINGS" "Z" (.int qi1)) (H2 : Exa Z h qa1 "java/lang/StringBuilder") (H3 : Fld Z h qa1 "java/lang/AbstractStringBuilder" "value" "[B" .null) (H4 : Fld Z h qa1 "java/lang/AbstractStringBuilder" "coder" "B" (.int (0 : Int32))) (H5 : Fld Z h qa1 "java/lang/AbstractStringBuilder" "count" "I" (.int (0 : Int32))) :
    Con l Z (⟨"java/lang/StringBuilder", "<init>", "()V"⟩ : MethodName) jdk_67_method_1_code 1 none ⟨2, 1, 16, 25⟩ #[(.ref qa1)] h (fun v h' L => ∃ (uf1 : Addr) (uk2 : ClassId), v = none ∧ Fr n0 L ∧ Keep h h' [qa1] ∧ h.size ≤ uf1 ∧ Exa Z h' qa1 "java/lang/StringBuilder" ∧ Fld Z h' qa1 "java/lang/AbstractStringBuilder" "value" "[B" (.ref uf1) ∧ Fld Z h' qa1 "java/lang/AbstractStringBuilder" "coder" "B" (.int (0 : Int32)) ∧ Fld Z h' qa1 "java/lang/AbstractStringBuilder" "count" "I" (.int (0 : Int32)) ∧ Arv Z h' uf1 uk2 .byte (16 : Int32) [] (.int (0 : Int32)) ∧ Exa Z h' uf1 "[B") := by
  refine con_of_goF kk_110 (fun m => kk_109 m qa1) ?_
  intro p e s m below meth c T0 C X0 e0
  refine g_aloadN C X0 (pc' := 1) d18_0 rfl rfl rfl ?_
  refine g_bipush C X0 (pc' := 3) d18_1 (v := (16 : Int32)) (by decide) rfl ?_
  refine g_callI C X0 (k49_init l Z a0 hw h n0 Z0  qa1 qi1 z_qa1  C0_qi1 H1 H2 H3 H4 H5) rfl (hw _ (List.mem_of_getElem? (i := 132) rfl)) (hw _ (List.mem_of_getElem? (i := 133) rfl)) (hw _ (List.mem_of_getElem? (i := 136) rfl)) (hw _ (List.mem_of_getElem? (i := 137) rfl)) (by decide) e0 d18_3 rfl kk_51 qa1 [(.int (16 : Int32))] [] rfl rfl rfl 0 rfl (by decide) (by decide) (by decide) (by decide) rfl ?_
  rintro _ T1 L1 X1 ⟨b1, kc2, rfl, M1, K1, w_b1, FF3, FF4, FF5, FF6, FF7, FF8⟩
  have ne_qa1_b1 : qa1 ≠ b1 := Nat.ne_of_lt (Nat.lt_of_lt_of_le H2.lt w_b1)
  have z_b1 : n0 ≤ b1 := Nat.le_trans Z0 w_b1
  have y_b1 : h.size ≤ b1 := Nat.le_trans (Keep.refl h [qa1]).1 w_b1
  have H1 := staKeep H1 K1 (alc H2.nostat al0)
  have Z1 : n0 ≤ T1.heap.size := Nat.le_trans Z0 K1.1
  have P1 := (Keep.refl h [qa1]).trans K1 (alc (Or.inl (List.mem_of_getElem? (i := 0) rfl)) al0)
  have N1 := Fr.app (Fr.nil n0) M1
  obtain ⟨h1, e1⟩ : ∃ z, T1.heap = z := ⟨_, rfl⟩
  rw [e1] at H1 FF3 FF4 FF5 FF6 FF7 FF8 Z1 P1
  show Go p.tables e below _ T1 (mkF m 6 #[.val (.ref qa1)] [])
  exact g_return C X1 d18_6 (⟨b1, kc2, rfl, N1, by rw [e1]; exact P1, y_b1, by rw [e1]; exact FF3, by rw [e1]; exact FF4, by rw [e1]; exact FF5, by rw [e1]; exact FF6, by rw [e1]; exact FF7, by rw [e1]; exact FF8⟩) (by decide) (by decide)
theorem kk_111 : parseMethodDescriptor "()V" = some ⟨[], none⟩ := by decide +kernel
set_option maxRecDepth 65536 in
set_option maxHeartbeats 40000000 in
theorem itA (l : Launch) (Z : State) (a0 : Array Value) (hw : ∀ d ∈ tables_1, d.before a0 Z = true) (h : Heap) (n0 : Nat) (Z0 : n0 ≤ h.size) (wS : ∀ a ∈ Bundle.stringAtoms, a.before a0 Z = true) (hEL : EW Z a0 consts_1) {p : Program} {e : Env} {R : Room} {s : State} {m : MethodId} {args : Array Value} {below : List Frame} {meth : Method} {c : Code} {T0 : State} {locs : List Loc} {cells slots : Nat} {G : Outcome → State → Prop} {vm0 : Vm} {k0 : Nat} (C : Cx p l (s.setVm vm0) m meth c Z (⟨"com/example/fleetloom/fleetloom/ChainedProgramme$Builder", "build", "()Lcom/example/fleetloom/fleetloom/ChainedProgramme;"⟩ : MethodName) prog_4_method_6_code 3 (some (.object "com/example/fleetloom/fleetloom/ChainedProgramme"))) (X0 : Stand p l e R (s.setVm vm0) m args below meth c T0 locs cells slots) (e0 : T0.heap = h) (N0 : Fr n0 locs) (hS : s.Since vm0 k0) (hk : Siz k0 h) (HV : CHv Z consts_1 vm0 h) (cs : Int32) (dg1 dg2 : Addr) (hcs : ¬ (cs.toInt = 0)) (bu : Addr) (pr rb : Addr) (kb : ClassId) (rows : Int32) (Lq : List Value) (i : Int32) (v : UInt64) (hF : Fin v) (hv : Lq.getD i.toNatClampNeg (.double (0 : UInt64)) = .double v) (hi : 0 ≤ i.toInt ∧ i.toInt ≤ 46) (hir : i.toInt < rows.toInt) (hRf : 8 ≤ R.frames) (hRl : 180 ≤ R.locals) (hRc : cells + 6 ≤ R.cells) (hRs : slots + 75 ≤ R.slots) (XP : Exa Z h pr "com/example/fleetloom/fleetloom/ChainedProgramme") (FP : Fld Z h pr "com/example/fleetloom/fleetloom/ChainedProgramme" "rhs" "[D" (.ref rb)) (AP : Arv Z h rb kb .double rows Lq (.double (0 : UInt64))) (FS0 : Sta Z h "java/lang/String" "COMPACT_STRINGS" "Z" (.int cs)) (FS1 : Sta Z h "java/lang/Integer" "DigitOnes" "[B" (.ref dg1)) (FS2 : Sta Z h "java/lang/Integer" "DigitTens" "[B" (.ref dg2)) (BA1 : BArr Z h dg1) (BA2 : BArr Z h dg2)
    (K : ∀ T' h' vm1 k1 L i1, i1 = i + Int32.ofInt 1 → Cx p l (s.setVm vm1) m meth c Z (⟨"com/example/fleetloom/fleetloom/ChainedProgramme$Builder", "build", "()Lcom/example/fleetloom/fleetloom/ChainedProgramme;"⟩ : MethodName) prog_4_method_6_code 3 (some (.object "com/example/fleetloom/fleetloom/ChainedProgramme")) → Stand p l e R (s.setVm vm1) m args below meth c T' L (cells + 6) (slots + 75) → T'.heap = h' → s.Since vm1 k1 → Siz k1 h' → CHr Z consts_1 vm0 h vm1 h' → Keep h h' [] → Fr n0 L → Go p.tables e below G T' (mkF m 11 #[.val (.ref bu), .val (.ref pr), .val (.int i1)] [])) :
    Go p.tables e below G T0 (mkF m 19 #[.val (.ref bu), .val (.ref pr), .val (.int i)] []) := by
  refine g_aloadN C X0 (pc' := 20) d10_19 rfl rfl rfl ?_
  refine g_getF C X0 (Or.inr (hw _ (List.mem_of_getElem? (i := 125) rfl))) Via.refl e0 FP d10_20 rfl ?_
  intro T1 X1 e1
  refine g_iloadN C X1 (pc' := 24) d10_23 rfl rfl ?_
  refine g_daload C X1 (pc' := 25) e1 AP hi.1 (by omega) i.toNatClampNeg rfl hv d10_24 rfl ?_
  refine g_new C X1 (hw _ (List.mem_of_getElem? (i := 126) rfl)) (hw _ (List.mem_of_getElem? (i := 127) rfl)) (hw _ (List.mem_of_getElem? (i := 128) rfl)) e1 d10_25 (by first | decide | omega | (dsimp only; omega)) (by first | decide | omega | (dsimp only; omega)) rfl ?_
  intro T2 h2 a2 g2 X2 e2 E2 A2 D2
  have ne_dg1_a2 : dg1 ≠ a2 := Nat.ne_of_lt (by rw [g2]; exact BA1.lt)
  have ne_dg2_a2 : dg2 ≠ a2 := Nat.ne_of_lt (by rw [g2]; exact BA2.lt)
  have z_a2 : n0 ≤ a2 := by rw [g2]; exact Z0
  have y_a2 : h.size ≤ a2 := by rw [g2]; exact (Keep.refl h []).1
  have FS0 := FS0.ext E2
  have FS1 := FS1.ext E2
  have FS2 := FS2.ext E2
  have BA1 := BA1.ext E2
  have BA2 := BA2.ext E2
  have P2 := (Keep.refl h []).ext E2
  have Z2 : n0 ≤ h2.size := Nat.le_trans Z0 E2.1
  have F2_1 : Fld Z h2 a2 "java/lang/AbstractStringBuilder" "value" "[B" .null := D2 (Or.inl (hw _ (List.mem_of_getElem? (i := 143) rfl))) (ty := (.array .byte)) (by first | decide | omega | (dsimp only; omega))
  have F2_2 : Fld Z h2 a2 "java/lang/AbstractStringBuilder" "coder" "B" (.int (0 : Int32)) := D2 (Or.inl (hw _ (List.mem_of_getElem? (i := 145) rfl))) (ty := .byte) (by first | decide | omega | (dsimp only; omega))
  have F2_3 : Fld Z h2 a2 "java/lang/AbstractStringBuilder" "count" "I" (.int (0 : Int32)) := D2 (Or.inl (hw _ (List.mem_of_getElem? (i := 176) rfl))) (ty := .int) (by first | decide | omega | (dsimp only; omega))
  refine g_dup C X2 (pc' := 29) d10_28 rfl rfl ?_
  refine g_callI C X2 (k50_init l Z a0 hw h2 n0 Z2  a2 cs z_a2  hcs FS0 A2 F2_1 F2_2 F2_3) rfl (hw _ (List.mem_of_getElem? (i := 129) rfl)) (hw _ (List.mem_of_getElem? (i := 130) rfl)) (hw _ (List.mem_of_getElem? (i := 128) rfl)) (hw _ (List.mem_of_getElem? (i := 131) rfl)) (by first | decide | omega | (dsimp only; omega)) e2 d10_29 rfl kk_111 a2 [] [(.ref a2), (.double v)] rfl rfl rfl 3 rfl (by first | decide | omega | (dsimp only; omega)) (by first | decide | omega | (dsimp only; omega)) (by first | decide | omega | (dsimp only; omega)) (by first | decide | omega | (dsimp only; omega)) rfl ?_
  rintro _ T3 L3 X3 ⟨b1, kc2, rfl, M3, K3, w_b1, FF3, FF4, FF5, FF6, FF7, FF8⟩
  have ne_a2_b1 : a2 ≠ b1 := Nat.ne_of_lt (Nat.lt_of_lt_of_le A2.lt w_b1)
  have ne_dg1_b1 : dg1 ≠ b1 := Nat.ne_of_lt (Nat.lt_of_lt_of_le BA1.lt w_b1)
  have ne_dg2_b1 : dg2 ≠ b1 := Nat.ne_of_lt (Nat.lt_of_lt_of_le BA2.lt w_b1)
  have z_b1 : n0 ≤ b1 := Nat.le_trans Z2 w_b1
  have y_b1 : h.size ≤ b1 := Nat.le_trans P2.1 w_b1
  have FS0 := staKeep FS0 K3 (alc A2.nostat al0)
  have FS1 := staKeep FS1 K3 (alc A2.nostat al0)
  have FS2 := staKeep FS2 K3 (alc A2.nostat al0)
  have BA1 := BA1.keep K3 (ninS ne_dg1_a2 nin0)
  have BA2 := BA2.keep K3 (ninS ne_dg2_a2 nin0)
  have Z3 : n0 ≤ T3.heap.size := Nat.le_trans Z2 K3.1
  have P3 := P2.trans K3 (alc (Or.inr y_a2) al0)
  have N3 := Fr.app N0 M3
  obtain ⟨h3, e3⟩ : ∃ z, T3.heap = z := ⟨_, rfl⟩
  rw [e3] at FS0 FS1 FS2 BA1 BA2 FF3 FF4 FF5 FF6 FF7 FF8 Z3 P3
  show Go p.tables e below _ T3 (mkF m 32 #[.val (.ref bu), .val (.ref pr), .val (.int i)] [(.ref a2), (.double v)])
  have HV9 := CHv.keep P3 sf0 HV
  have lsb := FF3.lt
  have lbv := FF7.lt
  have ssb := Safe.keep P3 sf0 HV (Safe.new y_a2)
  have sbv := Safe.keep P3 sf0 HV (Safe.new y_b1)
  have R0 := CHr.keep P3 sf0 HV
  refine g_ldcH2 (vm0 := vm0) (s := s) (text := "b of row ") C X3 hS (hk.keep P3) hEL (List.mem_of_getElem? (i := 0) rfl) HV9 (hw _ (List.mem_of_getElem? (i := 146) rfl)) wS (vs := [(.int (98 : Int32)), (.int (32 : Int32)), (.int (111 : Int32)), (.int (102 : Int32)), (.int (32 : Int32)), (.int (114 : Int32)), (.int (111 : Int32)), (.int (119 : Int32)), (.int (32 : Int32))]) (z := 9) ⟨(fun c hc => by revert c hc; decide), rfl⟩ (by first | decide | omega | (dsimp only; omega)) rfl e3 d10_32 36 (by first | decide | omega | (dsimp only; omega)) (by first | decide | omega | (dsimp only; omega)) (by first | decide | omega | (dsimp only; omega)) (by first | decide | omega | (dsimp only; omega)) rfl ?_
  intro lit T9 h9 k9 lb kl C X9 e9 E9 S9 Y9 R9 Xl Lt1 Lt2 Lt3 hne
  have FS0 := FS0.ext E9
  have FS1 := FS1.ext E9
  have FS2 := FS2.ext E9
  have BA1 := BA1.ext E9
  have BA2 := BA2.ext E9
  have FF3 := FF3.ext E9
  have FF4 := FF4.ext E9
  have FF5 := FF5.ext E9
  have FF6 := FF6.ext E9
  have FF7 := FF7.ext E9
  have FF8 := FF8.ext E9
  have P9 := P3.ext E9
  have Z9 : n0 ≤ h9.size := Nat.le_trans Z3 E9.1
  have qs := R9.safe lsb ssb
  have qb := R9.safe lbv sbv
  have n1 := hne _ qs
  have n2 := hne _ qb
  have nll := Exa.neArv Xl Lt3 (hw _ (List.mem_of_getElem? (i := 147) rfl))
  rcases Int.lt_or_le 9 i.toInt with q9 | q9
  · exact itB2 l Z a0 hw h9 n0 Z9 C X9 e9 N3 cs dg1 dg2 hcs bu pr a2 b1 lit lb kc2 kl i v hF (by omega) hRf hRl (by omega) (by omega) z_a2 z_b1 ne_a2_b1 n1.1 n1.2 (Ne.symm ne_dg1_a2) (Ne.symm ne_dg2_a2) n2.1 n2.2 (Ne.symm ne_dg1_b1) (Ne.symm ne_dg2_b1) nll FF3 FF4 FF5 FF6 FF7 FF8 Xl Lt1 Lt2 Lt3 FS0 FS1 FS2 BA1 BA2 (fun T' h' L i1 ei X' e' N' K' => K T' h' T9.vm k9 L i1 ei C (X'.more (by first | decide | omega | (dsimp only; omega)) (by first | decide | omega | (dsimp only; omega))) e' S9 (Y9.keep K') ((R0.trans R9).trans (CHr.keep K' (sfS qs (sfS qb sf0)) R9.1)) (P9.trans K' (alc (Or.inr y_a2) (alc (Or.inr y_b1) al0))) N')
  · exact itB1 l Z a0 hw h9 n0 Z9 C X9 e9 N3 cs dg1 dg2 hcs bu pr a2 b1 lit lb kc2 kl i v hF (by omega) hRf hRl (by omega) (by omega) z_a2 z_b1 ne_a2_b1 n1.1 n1.2 (Ne.symm ne_dg1_a2) (Ne.symm ne_dg2_a2) n2.1 n2.2 (Ne.symm ne_dg1_b1) (Ne.symm ne_dg2_b1) nll FF3 FF4 FF5 FF6 FF7 FF8 Xl Lt1 Lt2 Lt3 FS0 FS1 FS2 BA1 BA2 (fun T' h' L i1 ei X' e' N' K' => K T' h' T9.vm k9 L i1 ei C (X'.more (by first | decide | omega | (dsimp only; omega)) (by first | decide | omega | (dsimp only; omega))) e' S9 (Y9.keep K') ((R0.trans R9).trans (CHr.keep K' (sfS qs (sfS qb sf0)) R9.1)) (P9.trans K' (alc (Or.inr y_a2) (alc (Or.inr y_b1) al0))) N')
theorem SPk (Z : State) {h h' : Heap} {cs : Int32} {dg1 dg2 : Addr} (K : Keep h h' []) (S : SP Z h cs dg1 dg2) : SP Z h' cs dg1 dg2 := ⟨staKeep S.1 K al0, staKeep S.2.1 K al0, staKeep S.2.2.1 K al0, S.2.2.2.1.keep K nin0, S.2.2.2.2.keep K nin0⟩
set_option maxRecDepth 65536 in
set_option maxHeartbeats 40000000 in
theorem loop (l : Launch) (Z : State) (a0 : Array Value) (hw : ∀ d ∈ tables_1, d.before a0 Z = true) (wS : ∀ a ∈ Bundle.stringAtoms, a.before a0 Z = true) (hEL : EW Z a0 consts_1) {p : Program} {e : Env} {R : Room} {s : State} {m : MethodId} {args : Array Value} {below : List Frame} {meth : Method} {c : Code} {G : Outcome → State → Prop} (hA : Heap) (n0 : Nat) (cs : Int32) (dg1 dg2 : Addr) (hcs : ¬ (cs.toInt = 0)) (bu : Addr) (pr rb : Addr) (kb : ClassId) (rows : Int32) (Lq : List Value) (vmA : Vm) (hRf : 8 ≤ R.frames) (hRl : 180 ≤ R.locals) (hrb : 1 ≤ rows.toInt ∧ rows.toInt ≤ 47) (hFL : ∀ q : Nat, ∃ w : UInt64, Lq.getD q (.double (0 : UInt64)) = .double w ∧ Fin w) (XPA : Exa Z hA pr "com/example/fleetloom/fleetloom/ChainedProgramme") (FPA : Fld Z hA pr "com/example/fleetloom/fleetloom/ChainedProgramme" "rhs" "[D" (.ref rb)) (APA : Arv Z hA rb kb .double rows Lq (.double (0 : UInt64))) (SPA : SP Z hA cs dg1 dg2)
    (K : ∀ vm1 k1 T' L' cc ss h' j, Cx p l (s.setVm vm1) m meth c Z (⟨"com/example/fleetloom/fleetloom/ChainedProgramme$Builder", "build", "()Lcom/example/fleetloom/fleetloom/ChainedProgramme;"⟩ : MethodName) prog_4_method_6_code 3 (some (.object "com/example/fleetloom/fleetloom/ChainedProgramme")) → Stand p l e R (s.setVm vm1) m args below meth c T' L' cc ss → T'.heap = h' → s.Since vm1 k1 → Siz k1 h' → CHr Z consts_1 vmA hA vm1 h' → Keep hA h' [] → Fr n0 L' → cc ≤ R.cells → ss ≤ R.slots → Go p.tables e below G T' (mkF m 53 #[.val (.ref bu), .val (.ref pr), .val (.int j)] [])) :
    ∀ (n : Nat) (i : Int32) (vm0 : Vm) (k0 : Nat) (T0 : State) (locs : List Loc) (cells slots : Nat) (h : Heap), i.toInt + n = rows.toInt → 0 ≤ i.toInt → Cx p l (s.setVm vm0) m meth c Z (⟨"com/example/fleetloom/fleetloom/ChainedProgramme$Builder", "build", "()Lcom/example/fleetloom/fleetloom/ChainedProgramme;"⟩ : MethodName) prog_4_method_6_code 3 (some (.object "com/example/fleetloom/fleetloom/ChainedProgramme")) → Stand p l e R (s.setVm vm0) m args below meth c T0 locs cells slots → T0.heap = h → Fr n0 locs → n0 ≤ h.size → s.Since vm0 k0 → Siz k0 h → CHr Z consts_1 vmA hA vm0 h → Keep hA h [] → cells + 6 * n ≤ R.cells → slots + 75 * n ≤ R.slots → Go p.tables e below G T0 (mkF m 11 #[.val (.ref bu), .val (.ref pr), .val (.int i)] []) := by
  intro n
  induction n with
  | zero =>
    intro i vm0 k0 T0 locs cells slots h hn hi0 C X0 e0 N0 Z0 hS hk H KA hc hs
    have XP := XPA.keep KA
    have FP := FPA.keep KA nin0
    have AP := APA.keep KA nin0
    refine g_iloadN C X0 (pc' := 12) d10_11 rfl rfl ?_
    refine g_aloadN C X0 (pc' := 13) d10_12 rfl rfl rfl ?_
    refine g_callV C X0 (c_rows l Z a0 hw h n0 Z0 pr rb kb rows Lq FP AP) (hw _ (List.mem_of_getElem? (i := 120) rfl)) (hw _ (List.mem_of_getElem? (i := 121) rfl)) (hw _ (List.mem_of_getElem? (i := 123) rfl)) (hw _ (List.mem_of_getElem? (i := 122) rfl)) (hw _ (List.mem_of_getElem? (i := 67) rfl)) (hw _ (List.mem_of_getElem? (i := 124) rfl)) (by first | decide | omega | (dsimp only; omega)) e0 XP d10_13 rfl kk_48 [] [(.int i)] rfl rfl rfl 1 rfl (by first | decide | omega | (dsimp only; omega)) (by first | decide | omega | (dsimp only; omega)) (by first | decide | omega | (dsimp only; omega)) (by first | decide | omega | (dsimp only; omega)) rfl ?_
    rintro _ T1 _ X1 ⟨rfl, rfl, e1⟩
    rw [List.append_nil] at X1
    show Go p.tables e below _ T1 (mkF m 16 #[.val (.ref bu), .val (.ref pr), .val (.int i)] [(.int rows), (.int i)])
    refine g_icmp C X1 d10_16 (pc' := 53) (pc'' := 19) (by first | decide | omega | (dsimp only; omega)) (by first | decide | omega | (dsimp only; omega)) rfl (fun c16 => ?_) (fun c16 => ?_)
    · have c16 : ¬ (i.toInt < rows.toInt) := c16
      exact K vm0 k0 T1 _ _ _ h i C X1 e1 hS hk H KA N0 (by first | decide | omega | (dsimp only; omega)) (by first | decide | omega | (dsimp only; omega))
    · have c16 : i.toInt < rows.toInt := Decidable.not_not.mp c16
      exfalso; omega
  | succ n ih =>
    intro i vm0 k0 T0 locs cells slots h hn hi0 C X0 e0 N0 Z0 hS hk H KA hc hs
    have XP := XPA.keep KA
    have FP := FPA.keep KA nin0
    have AP := APA.keep KA nin0
    refine g_iloadN C X0 (pc' := 12) d10_11 rfl rfl ?_
    refine g_aloadN C X0 (pc' := 13) d10_12 rfl rfl rfl ?_
    refine g_callV C X0 (c_rows l Z a0 hw h n0 Z0 pr rb kb rows Lq FP AP) (hw _ (List.mem_of_getElem? (i := 120) rfl)) (hw _ (List.mem_of_getElem? (i := 121) rfl)) (hw _ (List.mem_of_getElem? (i := 123) rfl)) (hw _ (List.mem_of_getElem? (i := 122) rfl)) (hw _ (List.mem_of_getElem? (i := 67) rfl)) (hw _ (List.mem_of_getElem? (i := 124) rfl)) (by first | decide | omega | (dsimp only; omega)) e0 XP d10_13 rfl kk_48 [] [(.int i)] rfl rfl rfl 1 rfl (by first | decide | omega | (dsimp only; omega)) (by first | decide | omega | (dsimp only; omega)) (by first | decide | omega | (dsimp only; omega)) (by first | decide | omega | (dsimp only; omega)) rfl ?_
    rintro _ T1 _ X1 ⟨rfl, rfl, e1⟩
    rw [List.append_nil] at X1
    show Go p.tables e below _ T1 (mkF m 16 #[.val (.ref bu), .val (.ref pr), .val (.int i)] [(.int rows), (.int i)])
    refine g_icmp C X1 d10_16 (pc' := 53) (pc'' := 19) (by first | decide | omega | (dsimp only; omega)) (by first | decide | omega | (dsimp only; omega)) rfl (fun c16 => ?_) (fun c16 => ?_)
    · have c16 : ¬ (i.toInt < rows.toInt) := c16
      exfalso; omega
    · have c16 : i.toInt < rows.toInt := Decidable.not_not.mp c16
      obtain ⟨v, hv, hF⟩ := hFL i.toNatClampNeg
      obtain ⟨FS0, FS1, FS2, BA1, BA2⟩ := SPk Z KA SPA
      refine itA l Z a0 hw h n0 Z0 wS hEL C X1 e1 N0 hS hk H.1 cs dg1 dg2 hcs bu pr rb kb rows Lq i v hF hv (by omega) (by omega) hRf hRl (by first | decide | omega | (dsimp only; omega)) (by first | decide | omega | (dsimp only; omega)) XP FP AP FS0 FS1 FS2 BA1 BA2 ?_
      intro T' h' vm1 k1 L i1 ei C' X' e' S' Y' R' K' N'
      have hi1 : i1.toInt = i.toInt + 1 := by
        have q1 : (Int32.ofInt 1).toInt = 1 := by decide
        rw [ei, own_iadd (by omega) (by omega), q1]
      exact ih i1 vm1 k1 T' L _ _ h' (by omega) (by omega) C' X' e' N' (Nat.le_trans Z0 K'.1) S' Y' (H.trans R') (KA.trans K' al0) (by first | decide | omega | (dsimp only; omega)) (by first | decide | omega | (dsimp only; omega))
theorem BS.ext {Z : State} {h h' : Heap} {n0 : Nat} {bu : Addr} {dense rows ch : Int32} {cl : List Value} {zz : Int32} {Lq : List Value} (E : Ext h h') (B : BS Z h n0 bu dense rows ch cl zz Lq) : BS Z h' n0 bu dense rows ch cl zz Lq := by
  obtain ⟨rb, ad1, ad2, ad3, ad4, ad5, kb, kd1, kd2, kd3, kd4, kd5, XB, G0, G1, G2, G3, G4, G5, G6, G7, G8, G9, G10, Ad1, Ad2, Ad3, Ad4, Ad5, Ad6, XR, ne_bu_rb, ne_bu_ad1, ne_bu_ad2, ne_bu_ad3, ne_bu_ad4, ne_bu_ad5, ne_rb_ad1, ne_rb_ad2, ne_rb_ad3, ne_rb_ad4, ne_rb_ad5, ne_ad1_ad2, ne_ad1_ad3, ne_ad1_ad4, ne_ad1_ad5, z_bu, z_rb, z_ad1⟩ := B
  exact ⟨rb, ad1, ad2, ad3, ad4, ad5, kb, kd1, kd2, kd3, kd4, kd5, XB.ext E, G0.ext E, G1.ext E, G2.ext E, G3.ext E, G4.ext E, G5.ext E, G6.ext E, G7.ext E, G8.ext E, G9.ext E, G10.ext E, Ad1.ext E, Ad2.ext E, Ad3.ext E, Ad4.ext E, Ad5.ext E, Ad6.ext E, XR.ext E, ne_bu_rb, ne_bu_ad1, ne_bu_ad2, ne_bu_ad3, ne_bu_ad4, ne_bu_ad5, ne_rb_ad1, ne_rb_ad2, ne_rb_ad3, ne_rb_ad4, ne_rb_ad5, ne_ad1_ad2, ne_ad1_ad3, ne_ad1_ad4, ne_ad1_ad5, z_bu, z_rb, z_ad1⟩
theorem SP.ext {Z : State} {h h' : Heap} {cs : Int32} {dg1 dg2 : Addr} (E : Ext h h') (S : SP Z h cs dg1 dg2) : SP Z h' cs dg1 dg2 := ⟨S.1.ext E, S.2.1.ext E, S.2.2.1.ext E, S.2.2.2.1.ext E, S.2.2.2.2.ext E⟩
theorem kk_112 : parseMethodDescriptor "(Lcom/example/fleetloom/fleetloom/ChainedProgramme$Builder;)V" = some ⟨[(.object "com/example/fleetloom/fleetloom/ChainedProgramme$Builder")], none⟩ := by decide +kernel
theorem kk_113 : plainFor (⟨"com/example/fleetloom/fleetloom/ChainedProgramme$Builder", "build", "()Lcom/example/fleetloom/fleetloom/ChainedProgramme;"⟩ : MethodName) = true := by decide +kernel
theorem kk_114 (m : MethodId) (x0 : Addr) : entryFrame m #[(.ref x0)] 3 = mkF m 0 #[.val (.ref x0), .unset, .unset] [] := by first | (simp [entryFrame, mkF, argsToLocals, Value.category]; done) | rfl
set_option maxRecDepth 65536 in
set_option maxHeartbeats 40000000 in
theorem c_build0 (l : Launch) (Z : State) (a0 : Array Value) (hw : ∀ d ∈ tables_1, d.before a0 Z = true) (h : Heap) (n0 : Nat) (Z0 : n0 ≤ h.size) (wS : ∀ a ∈ Bundle.stringAtoms, a.before a0 Z = true) (hEL : EW Z a0 consts_1) (cs : Int32) (dg1 dg2 : Addr) (hcs : ¬ (cs.toInt = 0)) (l1 : dg1 < n0) (l2 : dg2 < n0) (bu : Addr) (dense rows zz : Int32) (Lq : List Value) (hd : 0 ≤ dense.toInt ∧ dense.toInt ≤ rows.toInt) (hrb : 1 ≤ rows.toInt ∧ rows.toInt ≤ 47) (hzz : 0 ≤ zz.toInt ∧ zz.toInt ≤ 94) (hLq : Lq.length ≤ zz.toNatClampNeg) (hFL : ∀ q : Nat, ∃ w : UInt64, Lq.getD q (.double (0 : UInt64)) = .double w ∧ Fin w) (B : BS Z h n0 bu dense rows 0 [] zz Lq) (SPs : SP Z h cs dg1 dg2) :
    ConH l Z consts_1 (⟨"com/example/fleetloom/fleetloom/ChainedProgramme$Builder", "build", "()Lcom/example/fleetloom/fleetloom/ChainedProgramme;"⟩ : MethodName) prog_4_method_6_code 3 (some (.object "com/example/fleetloom/fleetloom/ChainedProgramme")) ⟨8, 300, 3800, 190⟩ #[.ref bu] h (fun v h' L => ∃ (pr rb : Addr) (kb : ClassId), v = some (.ref pr) ∧ Fr n0 L ∧ Exa Z h' pr "com/example/fleetloom/fleetloom/ChainedProgramme" ∧ Fld Z h' pr "com/example/fleetloom/fleetloom/ChainedProgramme" "rhs" "[D" (.ref rb) ∧ Arv Z h' rb kb .double rows Lq (.double (0 : UInt64))) := by
  refine conH_of_goF kk_113 (fun m => kk_114 m bu) ?_
  intro p e s m below meth c T0 C X0 e0 hh HC
  have ee0 : (0 : Int32).toInt = 0 := by decide
  obtain ⟨XB, Gc⟩ : Exa Z h bu "com/example/fleetloom/fleetloom/ChainedProgramme$Builder" ∧ Fld Z h bu "com/example/fleetloom/fleetloom/ChainedProgramme$Builder" "columns" "I" (.int (0 : Int32)) := by
    obtain ⟨rb, ad1, ad2, ad3, ad4, ad5, kb, kd1, kd2, kd3, kd4, kd5, XB, G0, G1, G2, G3, G4, G5, G6, G7, G8, G9, G10, Ad1, Ad2, Ad3, Ad4, Ad5, Ad6, XR, ne_bu_rb, ne_bu_ad1, ne_bu_ad2, ne_bu_ad3, ne_bu_ad4, ne_bu_ad5, ne_rb_ad1, ne_rb_ad2, ne_rb_ad3, ne_rb_ad4, ne_rb_ad5, ne_ad1_ad2, ne_ad1_ad3, ne_ad1_ad4, ne_ad1_ad5, z_bu, z_rb, z_ad1⟩ := B
    exact ⟨XB, G3⟩
  refine g_new C X0 (hw _ (List.mem_of_getElem? (i := 65) rfl)) (hw _ (List.mem_of_getElem? (i := 66) rfl)) (hw _ (List.mem_of_getElem? (i := 67) rfl)) e0 d10_0 (by first | decide | omega | (dsimp only; omega)) (by first | decide | omega | (dsimp only; omega)) rfl ?_
  intro T1 h1 a1 g1 X1 e1 E1 A1 D1
  have ne_bu_a1 : bu ≠ a1 := Nat.ne_of_lt (by rw [g1]; exact XB.lt)
  have z_a1 : n0 ≤ a1 := by rw [g1]; exact Z0
  have XB := XB.ext E1
  have Gc := Gc.ext E1
  have Z1 : n0 ≤ h1.size := Nat.le_trans Z0 E1.1
  have F1_1 : Fld Z h1 a1 "com/example/fleetloom/fleetloom/ChainedProgramme" "denseRows" "I" (.int (0 : Int32)) := D1 (Or.inr (hw _ (List.mem_of_getElem? (i := 74) rfl))) (ty := .int) (by first | decide | omega | (dsimp only; omega))
  have F1_2 : Fld Z h1 a1 "com/example/fleetloom/fleetloom/ChainedProgramme" "chainStart" "[I" .null := D1 (Or.inr (hw _ (List.mem_of_getElem? (i := 89) rfl))) (ty := (.array .int)) (by first | decide | omega | (dsimp only; omega))
  have F1_3 : Fld Z h1 a1 "com/example/fleetloom/fleetloom/ChainedProgramme" "rowChain" "[I" .null := D1 (Or.inr (hw _ (List.mem_of_getElem? (i := 92) rfl))) (ty := (.array .int)) (by first | decide | omega | (dsimp only; omega))
  have F1_4 : Fld Z h1 a1 "com/example/fleetloom/fleetloom/ChainedProgramme" "columnStart" "[I" .null := D1 (Or.inr (hw _ (List.mem_of_getElem? (i := 102) rfl))) (ty := (.array .int)) (by first | decide | omega | (dsimp only; omega))
  have F1_5 : Fld Z h1 a1 "com/example/fleetloom/fleetloom/ChainedProgramme" "entryRow" "[I" .null := D1 (Or.inr (hw _ (List.mem_of_getElem? (i := 107) rfl))) (ty := (.array .int)) (by first | decide | omega | (dsimp only; omega))
  have F1_6 : Fld Z h1 a1 "com/example/fleetloom/fleetloom/ChainedProgramme" "entryValue" "[D" .null := D1 (Or.inr (hw _ (List.mem_of_getElem? (i := 113) rfl))) (ty := (.array .double)) (by first | decide | omega | (dsimp only; omega))
  have F1_7 : Fld Z h1 a1 "com/example/fleetloom/fleetloom/ChainedProgramme" "cost" "[D" .null := D1 (Or.inr (hw _ (List.mem_of_getElem? (i := 116) rfl))) (ty := (.array .double)) (by first | decide | omega | (dsimp only; omega))
  have F1_8 : Fld Z h1 a1 "com/example/fleetloom/fleetloom/ChainedProgramme" "rhs" "[D" .null := D1 (Or.inr (hw _ (List.mem_of_getElem? (i := 119) rfl))) (ty := (.array .double)) (by first | decide | omega | (dsimp only; omega))
  refine g_dup C X1 (pc' := 4) d10_3 rfl rfl ?_
  refine g_aloadN C X1 (pc' := 5) d10_4 rfl rfl rfl ?_
  refine g_callIN C X1 (c_pi0 l Z a0 hw h1 n0 Z1 a1 bu dense rows zz Lq z_a1 hd hrb hzz hLq A1 F1_1 F1_2 F1_3 F1_4 F1_5 F1_6 F1_7 F1_8 (Ne.symm ne_bu_a1) (B.ext E1)) rfl (hw _ (List.mem_of_getElem? (i := 68) rfl)) (hw _ (List.mem_of_getElem? (i := 69) rfl)) (hw _ (List.mem_of_getElem? (i := 67) rfl)) (hw _ (List.mem_of_getElem? (i := 70) rfl)) (by first | decide | omega | (dsimp only; omega)) e1 d10_5 rfl kk_112 a1 [.ref bu] [(.ref a1)] rfl rfl rfl 1 rfl (by first | decide | omega | (dsimp only; omega)) (by first | decide | omega | (dsimp only; omega)) (by first | decide | omega | (dsimp only; omega)) (by first | decide | omega | (dsimp only; omega)) rfl ?_
  rintro _ T2 L2 X2 ⟨rfl, M2, K2, SK, CK, rb, kb, y9, XPA, FPA, APA⟩
  have HA := ((CKeep.ext E1).trans CK) consts_1 s.vm C.warm.alike HC
  have SPA := SK cs dg1 dg2 l1 l2 (SPs.ext E1)
  have GcA := Gc.keep K2 (ninS ne_bu_a1 nin0)
  have ZA : n0 ≤ T2.heap.size := Nat.le_trans Z1 K2.1
  have NA := Fr.app (Fr.nil n0) M2
  obtain ⟨hA, eA⟩ : ∃ z, T2.heap = z := ⟨_, rfl⟩
  rw [eA] at HA SPA GcA ZA XPA FPA APA
  show Go p.tables e below _ T2 (mkF m 8 #[.val (.ref bu), .unset, .unset] [(.ref a1)])
  refine g_astoreN C X2 (pc' := 9) d10_8 rfl (l' := #[.val (.ref bu), .val (.ref a1), .unset]) rfl rfl ?_
  refine g_iconst C X2 (pc' := 10) d10_9 (v := (0 : Int32)) (by first | decide | omega | (dsimp only; omega)) rfl ?_
  refine g_istoreN C X2 (pc' := 11) d10_10 (x := (0 : Int32)) rfl (l' := #[.val (.ref bu), .val (.ref a1), .val (.int (0 : Int32))]) rfl rfl ?_
  refine loop l Z a0 hw wS hEL hA n0 cs dg1 dg2 hcs bu a1 rb kb rows Lq s.vm (by first | decide | omega | (dsimp only; omega)) (by first | decide | omega | (dsimp only; omega)) hrb hFL XPA FPA APA SPA ?_ rows.toInt.toNat 0 s.vm hA.size T2 _ _ _ hA (by have := ee0; omega) (by have := ee0; omega) C X2 eA NA ZA ((State.WarmedH.refl s).since hA.size) (Nat.le_refl _) (CHr.refl HA.1) (Keep.refl hA []) (by have q47 : rows.toInt.toNat ≤ 47 := (by omega); dsimp only; omega) (by have q47 : rows.toInt.toNat ≤ 47 := (by omega); dsimp only; omega)
  intro vm1 k1 T7 L7 cc ss h7 j C X7 e7 S7 Y7 R7 K7 N7 hcc hss
  have XP := XPA.keep K7
  have FP := FPA.keep K7 nin0
  have AP := APA.keep K7 nin0
  have Gc := GcA.keep K7 nin0
  refine g_iconst C X7 (pc' := 54) d10_53 (v := (0 : Int32)) (by first | decide | omega | (dsimp only; omega)) rfl ?_
  refine g_istoreN C X7 (pc' := 55) d10_54 (x := (0 : Int32)) rfl (l' := #[.val (.ref bu), .val (.ref a1), .val (.int (0 : Int32))]) rfl rfl ?_
  refine g_iloadN C X7 (pc' := 56) d10_55 rfl rfl ?_
  refine g_aloadN C X7 (pc' := 57) d10_56 rfl rfl rfl ?_
  refine g_getF C X7 (host := "") (Or.inl (hw _ (List.mem_of_getElem? (i := 36) rfl))) Via.refl e7 Gc d10_57 rfl ?_
  intro T61 X61 e61
  refine g_icmpY C X61 d10_60 (pc' := 102) (by first | decide | omega | (dsimp only; omega)) (by first | decide | omega | (dsimp only; omega)) (by first | decide | omega | (dsimp only; omega)) ?_
  refine g_aloadN C X61 (pc' := 103) d10_102 rfl rfl rfl ?_
  exact g_areturnH C X61 S7 e61 Y7 hEL hh (HA.trans R7) d10_103 rfl rfl rfl ⟨a1, rb, kb, rfl, N7, by rw [e61]; exact XP, by rw [e61]; exact FP, by rw [e61]; exact AP⟩ hcc hss
set_option maxRecDepth 65536 in
set_option maxHeartbeats 40000000 in
theorem c_build1 (l : Launch) (Z : State) (a0 : Array Value) (hw : ∀ d ∈ tables_1, d.before a0 Z = true) (h : Heap) (n0 : Nat) (Z0 : n0 ≤ h.size) (wS : ∀ a ∈ Bundle.stringAtoms, a.before a0 Z = true) (hEL : EW Z a0 consts_1) (cs : Int32) (dg1 dg2 : Addr) (hcs : ¬ (cs.toInt = 0)) (l1 : dg1 < n0) (l2 : dg2 < n0) (bu : Addr) (dense rows zz : Int32) (Lq : List Value) (hd : 0 ≤ dense.toInt ∧ dense.toInt ≤ rows.toInt) (hrb : 1 ≤ rows.toInt ∧ rows.toInt ≤ 47) (hzz : 0 ≤ zz.toInt ∧ zz.toInt ≤ 94) (hLq : Lq.length ≤ zz.toNatClampNeg) (hFL : ∀ q : Nat, ∃ w : UInt64, Lq.getD q (.double (0 : UInt64)) = .double w ∧ Fin w) (B : BS Z h n0 bu dense rows 1 [.int dense] zz Lq) (SPs : SP Z h cs dg1 dg2) :
    ConH l Z consts_1 (⟨"com/example/fleetloom/fleetloom/ChainedProgramme$Builder", "build", "()Lcom/example/fleetloom/fleetloom/ChainedProgramme;"⟩ : MethodName) prog_4_method_6_code 3 (some (.object "com/example/fleetloom/fleetloom/ChainedProgramme")) ⟨8, 300, 3800, 190⟩ #[.ref bu] h (fun v h' L => ∃ (pr rb : Addr) (kb : ClassId), v = some (.ref pr) ∧ Fr n0 L ∧ Exa Z h' pr "com/example/fleetloom/fleetloom/ChainedProgramme" ∧ Fld Z h' pr "com/example/fleetloom/fleetloom/ChainedProgramme" "rhs" "[D" (.ref rb) ∧ Arv Z h' rb kb .double rows Lq (.double (0 : UInt64))) := by
  refine conH_of_goF kk_113 (fun m => kk_114 m bu) ?_
  intro p e s m below meth c T0 C X0 e0 hh HC
  have ee0 : (0 : Int32).toInt = 0 := by decide
  obtain ⟨XB, Gc⟩ : Exa Z h bu "com/example/fleetloom/fleetloom/ChainedProgramme$Builder" ∧ Fld Z h bu "com/example/fleetloom/fleetloom/ChainedProgramme$Builder" "columns" "I" (.int (0 : Int32)) := by
    obtain ⟨rb, ad1, ad2, ad3, ad4, ad5, kb, kd1, kd2, kd3, kd4, kd5, XB, G0, G1, G2, G3, G4, G5, G6, G7, G8, G9, G10, Ad1, Ad2, Ad3, Ad4, Ad5, Ad6, XR, ne_bu_rb, ne_bu_ad1, ne_bu_ad2, ne_bu_ad3, ne_bu_ad4, ne_bu_ad5, ne_rb_ad1, ne_rb_ad2, ne_rb_ad3, ne_rb_ad4, ne_rb_ad5, ne_ad1_ad2, ne_ad1_ad3, ne_ad1_ad4, ne_ad1_ad5, z_bu, z_rb, z_ad1⟩ := B
    exact ⟨XB, G3⟩
  refine g_new C X0 (hw _ (List.mem_of_getElem? (i := 65) rfl)) (hw _ (List.mem_of_getElem? (i := 66) rfl)) (hw _ (List.mem_of_getElem? (i := 67) rfl)) e0 d10_0 (by first | decide | omega | (dsimp only; omega)) (by first | decide | omega | (dsimp only; omega)) rfl ?_
  intro T1 h1 a1 g1 X1 e1 E1 A1 D1
  have ne_bu_a1 : bu ≠ a1 := Nat.ne_of_lt (by rw [g1]; exact XB.lt)
  have z_a1 : n0 ≤ a1 := by rw [g1]; exact Z0
  have XB := XB.ext E1
  have Gc := Gc.ext E1
  have Z1 : n0 ≤ h1.size := Nat.le_trans Z0 E1.1
  have F1_1 : Fld Z h1 a1 "com/example/fleetloom/fleetloom/ChainedProgramme" "denseRows" "I" (.int (0 : Int32)) := D1 (Or.inr (hw _ (List.mem_of_getElem? (i := 74) rfl))) (ty := .int) (by first | decide | omega | (dsimp only; omega))
  have F1_2 : Fld Z h1 a1 "com/example/fleetloom/fleetloom/ChainedProgramme" "chainStart" "[I" .null := D1 (Or.inr (hw _ (List.mem_of_getElem? (i := 89) rfl))) (ty := (.array .int)) (by first | decide | omega | (dsimp only; omega))
  have F1_3 : Fld Z h1 a1 "com/example/fleetloom/fleetloom/ChainedProgramme" "rowChain" "[I" .null := D1 (Or.inr (hw _ (List.mem_of_getElem? (i := 92) rfl))) (ty := (.array .int)) (by first | decide | omega | (dsimp only; omega))
  have F1_4 : Fld Z h1 a1 "com/example/fleetloom/fleetloom/ChainedProgramme" "columnStart" "[I" .null := D1 (Or.inr (hw _ (List.mem_of_getElem? (i := 102) rfl))) (ty := (.array .int)) (by first | decide | omega | (dsimp only; omega))
  have F1_5 : Fld Z h1 a1 "com/example/fleetloom/fleetloom/ChainedProgramme" "entryRow" "[I" .null := D1 (Or.inr (hw _ (List.mem_of_getElem? (i := 107) rfl))) (ty := (.array .int)) (by first | decide | omega | (dsimp only; omega))
  have F1_6 : Fld Z h1 a1 "com/example/fleetloom/fleetloom/ChainedProgramme" "entryValue" "[D" .null := D1 (Or.inr (hw _ (List.mem_of_getElem? (i := 113) rfl))) (ty := (.array .double)) (by first | decide | omega | (dsimp only; omega))
  have F1_7 : Fld Z h1 a1 "com/example/fleetloom/fleetloom/ChainedProgramme" "cost" "[D" .null := D1 (Or.inr (hw _ (List.mem_of_getElem? (i := 116) rfl))) (ty := (.array .double)) (by first | decide | omega | (dsimp only; omega))
  have F1_8 : Fld Z h1 a1 "com/example/fleetloom/fleetloom/ChainedProgramme" "rhs" "[D" .null := D1 (Or.inr (hw _ (List.mem_of_getElem? (i := 119) rfl))) (ty := (.array .double)) (by first | decide | omega | (dsimp only; omega))
  refine g_dup C X1 (pc' := 4) d10_3 rfl rfl ?_
  refine g_aloadN C X1 (pc' := 5) d10_4 rfl rfl rfl ?_
  refine g_callIN C X1 (c_pi1 l Z a0 hw h1 n0 Z1 a1 bu dense rows zz Lq z_a1 hd hrb hzz hLq A1 F1_1 F1_2 F1_3 F1_4 F1_5 F1_6 F1_7 F1_8 (Ne.symm ne_bu_a1) (B.ext E1)) rfl (hw _ (List.mem_of_getElem? (i := 68) rfl)) (hw _ (List.mem_of_getElem? (i := 69) rfl)) (hw _ (List.mem_of_getElem? (i := 67) rfl)) (hw _ (List.mem_of_getElem? (i := 70) rfl)) (by first | decide | omega | (dsimp only; omega)) e1 d10_5 rfl kk_112 a1 [.ref bu] [(.ref a1)] rfl rfl rfl 1 rfl (by first | decide | omega | (dsimp only; omega)) (by first | decide | omega | (dsimp only; omega)) (by first | decide | omega | (dsimp only; omega)) (by first | decide | omega | (dsimp only; omega)) rfl ?_
  rintro _ T2 L2 X2 ⟨rfl, M2, K2, SK, CK, rb, kb, y9, XPA, FPA, APA⟩
  have HA := ((CKeep.ext E1).trans CK) consts_1 s.vm C.warm.alike HC
  have SPA := SK cs dg1 dg2 l1 l2 (SPs.ext E1)
  have GcA := Gc.keep K2 (ninS ne_bu_a1 nin0)
  have ZA : n0 ≤ T2.heap.size := Nat.le_trans Z1 K2.1
  have NA := Fr.app (Fr.nil n0) M2
  obtain ⟨hA, eA⟩ : ∃ z, T2.heap = z := ⟨_, rfl⟩
  rw [eA] at HA SPA GcA ZA XPA FPA APA
  show Go p.tables e below _ T2 (mkF m 8 #[.val (.ref bu), .unset, .unset] [(.ref a1)])
  refine g_astoreN C X2 (pc' := 9) d10_8 rfl (l' := #[.val (.ref bu), .val (.ref a1), .unset]) rfl rfl ?_
  refine g_iconst C X2 (pc' := 10) d10_9 (v := (0 : Int32)) (by first | decide | omega | (dsimp only; omega)) rfl ?_
  refine g_istoreN C X2 (pc' := 11) d10_10 (x := (0 : Int32)) rfl (l' := #[.val (.ref bu), .val (.ref a1), .val (.int (0 : Int32))]) rfl rfl ?_
  refine loop l Z a0 hw wS hEL hA n0 cs dg1 dg2 hcs bu a1 rb kb rows Lq s.vm (by first | decide | omega | (dsimp only; omega)) (by first | decide | omega | (dsimp only; omega)) hrb hFL XPA FPA APA SPA ?_ rows.toInt.toNat 0 s.vm hA.size T2 _ _ _ hA (by have := ee0; omega) (by have := ee0; omega) C X2 eA NA ZA ((State.WarmedH.refl s).since hA.size) (Nat.le_refl _) (CHr.refl HA.1) (Keep.refl hA []) (by have q47 : rows.toInt.toNat ≤ 47 := (by omega); dsimp only; omega) (by have q47 : rows.toInt.toNat ≤ 47 := (by omega); dsimp only; omega)
  intro vm1 k1 T7 L7 cc ss h7 j C X7 e7 S7 Y7 R7 K7 N7 hcc hss
  have XP := XPA.keep K7
  have FP := FPA.keep K7 nin0
  have AP := APA.keep K7 nin0
  have Gc := GcA.keep K7 nin0
  refine g_iconst C X7 (pc' := 54) d10_53 (v := (0 : Int32)) (by first | decide | omega | (dsimp only; omega)) rfl ?_
  refine g_istoreN C X7 (pc' := 55) d10_54 (x := (0 : Int32)) rfl (l' := #[.val (.ref bu), .val (.ref a1), .val (.int (0 : Int32))]) rfl rfl ?_
  refine g_iloadN C X7 (pc' := 56) d10_55 rfl rfl ?_
  refine g_aloadN C X7 (pc' := 57) d10_56 rfl rfl rfl ?_
  refine g_getF C X7 (host := "") (Or.inl (hw _ (List.mem_of_getElem? (i := 36) rfl))) Via.refl e7 Gc d10_57 rfl ?_
  intro T61 X61 e61
  refine g_icmpY C X61 d10_60 (pc' := 102) (by first | decide | omega | (dsimp only; omega)) (by first | decide | omega | (dsimp only; omega)) (by first | decide | omega | (dsimp only; omega)) ?_
  refine g_aloadN C X61 (pc' := 103) d10_102 rfl rfl rfl ?_
  exact g_areturnH C X61 S7 e61 Y7 hEL hh (HA.trans R7) d10_103 rfl rfl rfl ⟨a1, rb, kb, rfl, N7, by rw [e61]; exact XP, by rw [e61]; exact FP, by rw [e61]; exact AP⟩ hcc hss
theorem ef0 (m : MethodId) (x0 x1 x2 x3 x4 x5 : Int32) : entryFrame m #[(.int x0), (.int x1), (.int x2), (.int x3), (.int x4), (.int x5)] maxLocals = mkF m 0 #[.val (.int x0), .val (.int x1), .val (.int x2), .val (.int x3), .val (.int x4), .val (.int x5), .unset, .unset, .unset, .unset, .unset, .unset, .unset, .unset, .unset, .unset, .unset, .unset, .unset, .unset, .unset, .unset, .unset, .unset] [] := by first | (simp [entryFrame, mkF, argsToLocals, Value.category, maxLocals]; done) | rfl
theorem kk_115 : parseMethodDescriptor "(ID)V" = some ⟨[.int, .double], none⟩ := by decide +kernel
theorem kk_116 : parseMethodDescriptor "()Lcom/example/fleetloom/fleetloom/ChainedProgramme;" = some ⟨[], (some (.object "com/example/fleetloom/fleetloom/ChainedProgramme"))⟩ := by decide +kernel
theorem kk_117 : parseMethodDescriptor "()[D" = some ⟨[], (some (.array .double))⟩ := by decide +kernel
theorem kk_118 : FP.dconst0 = (0 : UInt64) := by decide +kernel
theorem kk_119 : cmpValue (FP.dcmp (0 : UInt64) (0 : UInt64)) .l = (0 : Int32) := by decide +kernel
theorem BS.exa {Z : State} {h : Heap} {n0 : Nat} {bu : Addr} {dense rows ch : Int32} {cl : List Value} {zz : Int32} {Lq : List Value} (B : BS Z h n0 bu dense rows ch cl zz Lq) : Exa Z h bu "com/example/fleetloom/fleetloom/ChainedProgramme$Builder" := by
  obtain ⟨rb, ad1, ad2, ad3, ad4, ad5, kb, kd1, kd2, kd3, kd4, kd5, XB, G0, G1, G2, G3, G4, G5, G6, G7, G8, G9, G10, Ad1, Ad2, Ad3, Ad4, Ad5, Ad6, XR, ne_bu_rb, ne_bu_ad1, ne_bu_ad2, ne_bu_ad3, ne_bu_ad4, ne_bu_ad5, ne_rb_ad1, ne_rb_ad2, ne_rb_ad3, ne_rb_ad4, ne_rb_ad5, ne_ad1_ad2, ne_ad1_ad3, ne_ad1_ad4, ne_ad1_ad5, z_bu, z_rb, z_ad1⟩ := B
  exact XB
set_option maxRecDepth 65536 in
set_option maxHeartbeats 40000000 in
theorem lawT0 (l : Launch) (Z : State) (a0 : Array Value) (hw : ∀ d ∈ tables_1, d.before a0 Z = true) (h : Heap) (n0 : Nat) (Z0 : n0 ≤ h.size) (wS : ∀ a ∈ Bundle.stringAtoms, a.before a0 Z = true) (hEL : EW Z a0 consts_1) (cs : Int32) (dg1 dg2 : Addr) (hcs : ¬ (cs.toInt = 0)) (l1 : dg1 < n0) (l2 : dg2 < n0) {p : Program} {e : Env} {s : State} {m : MethodId} {args : Array Value} {below : List Frame} {meth : Method} {c : Code} {T0 : State} {locs : List Loc} (C : Cx p l s m meth c Z x code maxLocals ret) (X0 : Stand p l e room_1 s m args below meth c T0 locs 8 216) (e0 : T0.heap = h) (N0 : Fr n0 locs) (p0 p1 p2 p3 p4 p5 dense len rows : Int32) (bu : Addr) (zz : Int32) (hd : 0 ≤ dense.toInt ∧ dense.toInt ≤ rows.toInt) (hrb : 1 ≤ rows.toInt ∧ rows.toInt ≤ 47) (hrz : rows.toInt ≤ zz.toInt) (hzz : zz.toInt ≤ 94) (hr0 : rows ≠ 0) (H0 : CHv Z consts_1 s.vm h) (SP0 : SP Z h cs dg1 dg2) (B0 : BS Z h n0 bu dense rows 0 [] zz []) :
    Go p.tables e below (EndW s (fun v _ L => v = some (.int 1) ∧ Fr n0 L) room_1.cells room_1.slots) T0 (mkF m 78 #[.val (.int p0), .val (.int p1), .val (.int p2), .val (.int p3), .val (.int p4), .val (.int p5), .val (.int dense), .val (.int (0 : Int32)), .val (.int len), .val (.int rows), .val (.ref bu), .unset, .unset, .unset, .unset, .unset, .unset, .unset, .unset, .unset, .unset, .unset, .unset, .unset] []) := by
  refine g_iloadN C X0 (pc' := 79) at_78 rfl rfl ?_
  refine g_ldcI C X0 (pc' := 81) (hw _ (List.mem_of_getElem? (i := 46) rfl)) at_79 rfl ?_
  refine g_iand C X0 (pc' := 82) at_81 rfl ?_
  refine g_iload C X0 (pc' := 84) at_82 rfl rfl ?_
  refine g_irem C X0 (pc' := 85) at_84 hr0 rfl ?_
  obtain ⟨ii, e_ii⟩ : ∃ z : Int32, z = (p1 &&& (2147483647 : Int32)) % rows := ⟨_, rfl⟩
  refine g_istore C X0 (pc' := 87) at_85 (x := ii) e_ii (l' := #[.val (.int p0), .val (.int p1), .val (.int p2), .val (.int p3), .val (.int p4), .val (.int p5), .val (.int dense), .val (.int (0 : Int32)), .val (.int len), .val (.int rows), .val (.ref bu), .val (.int ii), .unset, .unset, .unset, .unset, .unset, .unset, .unset, .unset, .unset, .unset, .unset, .unset]) rfl rfl ?_
  have h_ii : 0 ≤ ii.toInt ∧ ii.toInt < rows.toInt := by
    have q1 := c_and p1 2147483647 (by decide)
    have q2 := (c_iremV (p1 &&& 2147483647) rows).1 q1.1 (by omega)
    rw [e_ii]; exact ⟨q2.1, q2.2.1⟩
  refine g_iloadN C X0 (pc' := 88) at_87 rfl rfl ?_
  refine g_ldcI C X0 (pc' := 90) (hw _ (List.mem_of_getElem? (i := 46) rfl)) at_88 rfl ?_
  refine g_iand C X0 (pc' := 91) at_90 rfl ?_
  refine g_iload C X0 (pc' := 93) at_91 rfl rfl ?_
  refine g_irem C X0 (pc' := 94) at_93 hr0 rfl ?_
  obtain ⟨jj, e_jj⟩ : ∃ z : Int32, z = (p2 &&& (2147483647 : Int32)) % rows := ⟨_, rfl⟩
  refine g_istore C X0 (pc' := 96) at_94 (x := jj) e_jj (l' := #[.val (.int p0), .val (.int p1), .val (.int p2), .val (.int p3), .val (.int p4), .val (.int p5), .val (.int dense), .val (.int (0 : Int32)), .val (.int len), .val (.int rows), .val (.ref bu), .val (.int ii), .val (.int jj), .unset, .unset, .unset, .unset, .unset, .unset, .unset, .unset, .unset, .unset, .unset]) rfl rfl ?_
  have h_jj : 0 ≤ jj.toInt ∧ jj.toInt < rows.toInt := by
    have q1 := c_and p2 2147483647 (by decide)
    have q2 := (c_iremV (p2 &&& 2147483647) rows).1 q1.1 (by omega)
    rw [e_jj]; exact ⟨q2.1, q2.2.1⟩
  refine g_iloadN C X0 (pc' := 97) at_96 rfl rfl ?_
  refine g_ldcI C X0 (pc' := 99) (hw _ (List.mem_of_getElem? (i := 46) rfl)) at_97 rfl ?_
  refine g_iand C X0 (pc' := 100) at_99 rfl ?_
  refine g_iload C X0 (pc' := 102) at_100 rfl rfl ?_
  refine g_irem C X0 (pc' := 103) at_102 hr0 rfl ?_
  obtain ⟨mm, e_mm⟩ : ∃ z : Int32, z = (p3 &&& (2147483647 : Int32)) % rows := ⟨_, rfl⟩
  refine g_istore C X0 (pc' := 105) at_103 (x := mm) e_mm (l' := #[.val (.int p0), .val (.int p1), .val (.int p2), .val (.int p3), .val (.int p4), .val (.int p5), .val (.int dense), .val (.int (0 : Int32)), .val (.int len), .val (.int rows), .val (.ref bu), .val (.int ii), .val (.int jj), .val (.int mm), .unset, .unset, .unset, .unset, .unset, .unset, .unset, .unset, .unset, .unset]) rfl rfl ?_
  have h_mm : 0 ≤ mm.toInt ∧ mm.toInt < rows.toInt := by
    have q1 := c_and p3 2147483647 (by decide)
    have q2 := (c_iremV (p3 &&& 2147483647) rows).1 q1.1 (by omega)
    rw [e_mm]; exact ⟨q2.1, q2.2.1⟩
  refine g_iload C X0 (pc' := 107) at_105 rfl rfl ?_
  refine g_i2d C X0 (pc' := 108) at_107 rfl ?_
  obtain ⟨d1, e_d1⟩ : ∃ z : UInt64, z = FP.i2d p4 := ⟨_, rfl⟩
  have D_d1 : FP.Core.DInt p4.toInt d1 := e_d1 ▸ (i2d_D p4)
  refine g_dstore C X0 (pc' := 110) at_108 (x := d1) e_d1 (l' := #[.val (.int p0), .val (.int p1), .val (.int p2), .val (.int p3), .val (.int p4), .val (.int p5), .val (.int dense), .val (.int (0 : Int32)), .val (.int len), .val (.int rows), .val (.ref bu), .val (.int ii), .val (.int jj), .val (.int mm), .val (.double d1), .second, .unset, .unset, .unset, .unset, .unset, .unset, .unset, .unset]) rfl rfl ?_
  refine g_iload C X0 (pc' := 112) at_110 rfl rfl ?_
  refine g_i2d C X0 (pc' := 113) at_112 rfl ?_
  obtain ⟨d2, e_d2⟩ : ∃ z : UInt64, z = FP.i2d p5 := ⟨_, rfl⟩
  have D_d2 : FP.Core.DInt p5.toInt d2 := e_d2 ▸ (i2d_D p5)
  refine g_dstore C X0 (pc' := 115) at_113 (x := d2) e_d2 (l' := #[.val (.int p0), .val (.int p1), .val (.int p2), .val (.int p3), .val (.int p4), .val (.int p5), .val (.int dense), .val (.int (0 : Int32)), .val (.int len), .val (.int rows), .val (.ref bu), .val (.int ii), .val (.int jj), .val (.int mm), .val (.double d1), .second, .val (.double d2), .second, .unset, .unset, .unset, .unset, .unset, .unset]) rfl rfl ?_
  refine g_aload C X0 (pc' := 117) at_115 rfl rfl rfl ?_
  refine g_iload C X0 (pc' := 119) at_117 rfl rfl ?_
  refine g_dload C X0 (pc' := 121) at_119 rfl rfl ?_
  have XBu := B0.exa
  refine g_callV C X0 (c_rhs l Z a0 hw h n0 Z0 bu dense rows 0 [] zz [] ii d1 zz.toNatClampNeg h_ii hrz (by rw [tn, tn]; simp only [List.length_nil]; omega) B0) (hw _ (List.mem_of_getElem? (i := 47) rfl)) (hw _ (List.mem_of_getElem? (i := 48) rfl)) (hw _ (List.mem_of_getElem? (i := 50) rfl)) (hw _ (List.mem_of_getElem? (i := 49) rfl)) (hw _ (List.mem_of_getElem? (i := 2) rfl)) (hw _ (List.mem_of_getElem? (i := 51) rfl)) (by decide) e0 XBu at_121 rfl kk_115 [(.int ii), (.double d1)] [] rfl rfl rfl 0 rfl (by decide) (by decide) (by decide) (by decide) rfl ?_
  rintro _ T1 L1 X1 ⟨rfl, M1, SK1, CK1, B1⟩
  have S1 := SK1 cs dg1 dg2 l1 l2 SP0
  have H1 := (CK1 consts_1 s.vm C.warm.alike H0).1
  have Z1 : n0 ≤ T1.heap.size := Nat.le_trans Z0 (CK1 consts_1 s.vm C.warm.alike H0).2.1
  have N1 := Fr.app N0 M1
  obtain ⟨h1, e1⟩ : ∃ z, T1.heap = z := ⟨_, rfl⟩
  rw [e1] at S1 H1 Z1 B1
  show Go p.tables e below _ T1 (mkF m 124 #[.val (.int p0), .val (.int p1), .val (.int p2), .val (.int p3), .val (.int p4), .val (.int p5), .val (.int dense), .val (.int (0 : Int32)), .val (.int len), .val (.int rows), .val (.ref bu), .val (.int ii), .val (.int jj), .val (.int mm), .val (.double d1), .second, .val (.double d2), .second, .unset, .unset, .unset, .unset, .unset, .unset] [])
  refine g_aload C X1 (pc' := 126) at_124 rfl rfl rfl ?_
  refine g_iload C X1 (pc' := 128) at_126 rfl rfl ?_
  refine g_dload C X1 (pc' := 130) at_128 rfl rfl ?_
  have XBu := B1.exa
  refine g_callV C X1 (c_rhs l Z a0 hw h1 n0 Z1 bu dense rows 0 [] zz ((([] : List Value) ++ List.replicate zz.toNatClampNeg (Value.double (0 : UInt64))).set ii.toNatClampNeg (Value.double d1)) jj d2 0 h_jj hrz (by simp only [List.length_set, List.nil_append, List.length_replicate]; rw [tn, tn]; omega) B1) (hw _ (List.mem_of_getElem? (i := 47) rfl)) (hw _ (List.mem_of_getElem? (i := 48) rfl)) (hw _ (List.mem_of_getElem? (i := 50) rfl)) (hw _ (List.mem_of_getElem? (i := 49) rfl)) (hw _ (List.mem_of_getElem? (i := 2) rfl)) (hw _ (List.mem_of_getElem? (i := 51) rfl)) (by decide) e1 XBu at_130 rfl kk_115 [(.int jj), (.double d2)] [] rfl rfl rfl 0 rfl (by decide) (by decide) (by decide) (by decide) rfl ?_
  rintro _ T2 L2 X2 ⟨rfl, M2, SK2, CK2, B2⟩
  have S2 := SK2 cs dg1 dg2 l1 l2 S1
  have H2 := (CK2 consts_1 s.vm C.warm.alike H1).1
  have Z2 : n0 ≤ T2.heap.size := Nat.le_trans Z1 (CK2 consts_1 s.vm C.warm.alike H1).2.1
  have N2 := Fr.app N1 M2
  obtain ⟨h2, e2⟩ : ∃ z, T2.heap = z := ⟨_, rfl⟩
  rw [e2] at S2 H2 Z2 B2
  show Go p.tables e below _ T2 (mkF m 133 #[.val (.int p0), .val (.int p1), .val (.int p2), .val (.int p3), .val (.int p4), .val (.int p5), .val (.int dense), .val (.int (0 : Int32)), .val (.int len), .val (.int rows), .val (.ref bu), .val (.int ii), .val (.int jj), .val (.int mm), .val (.double d1), .second, .val (.double d2), .second, .unset, .unset, .unset, .unset, .unset, .unset] [])
  refine g_aload C X2 (pc' := 135) at_133 rfl rfl rfl ?_
  have XBu := B2.exa
  have hLl : ((((([] : List Value) ++ List.replicate zz.toNatClampNeg (Value.double (0 : UInt64))).set ii.toNatClampNeg (Value.double d1)) ++ List.replicate 0 (Value.double (0 : UInt64))).set jj.toNatClampNeg (Value.double d2)).length ≤ zz.toNatClampNeg := by simp only [List.length_set, List.nil_append, List.length_replicate, List.length_append]; omega
  have hii : ii.toNatClampNeg < zz.toNatClampNeg := by rw [tn, tn]; omega
  have hjj : jj.toNatClampNeg < zz.toNatClampNeg := by rw [tn, tn]; omega
  have hF1 : Fin d1 := e_d1 ▸ fin_i2d p4
  have hF2 : Fin d2 := e_d2 ▸ fin_i2d p5
  have hFL : ∀ q : Nat, ∃ w : UInt64, ((((([] : List Value) ++ List.replicate zz.toNatClampNeg (Value.double (0 : UInt64))).set ii.toNatClampNeg (Value.double d1)) ++ List.replicate 0 (Value.double (0 : UInt64))).set jj.toNatClampNeg (Value.double d2)).getD q (.double (0 : UInt64)) = .double w ∧ Fin w := fun q => by
    rw [l2_get _ _ _ _ _ _ _ hii hjj]
    split
    · exact ⟨_, rfl, hF2⟩
    · split
      · exact ⟨_, rfl, hF1⟩
      · exact ⟨_, rfl, fin_zero⟩
  refine g_callVH (vm0 := s.vm) (s := s) C X2 ((State.WarmedH.refl s).since h2.size) (Nat.le_refl _) hEL (CHr.refl H2) (c_build0 l Z a0 hw h2 n0 Z2 wS hEL cs dg1 dg2 hcs l1 l2 bu dense rows zz ((((([] : List Value) ++ List.replicate zz.toNatClampNeg (Value.double (0 : UInt64))).set ii.toNatClampNeg (Value.double d1)) ++ List.replicate 0 (Value.double (0 : UInt64))).set jj.toNatClampNeg (Value.double d2)) hd hrb (by omega) hLl hFL B2 S2) (hw _ (List.mem_of_getElem? (i := 60) rfl)) (hw _ (List.mem_of_getElem? (i := 61) rfl)) (hw _ (List.mem_of_getElem? (i := 63) rfl)) (hw _ (List.mem_of_getElem? (i := 62) rfl)) (hw _ (List.mem_of_getElem? (i := 2) rfl)) (hw _ (List.mem_of_getElem? (i := 64) rfl)) (by decide) e2 XBu at_135 rfl kk_116 [] [] rfl rfl rfl 0 rfl (by decide) (by decide) (by decide) (by decide) rfl ?_
  rintro _ T3 L3 C X3 S3 H3 ⟨pr, rb, kb, rfl, M3, XP, FP, AP⟩
  have N3 := Fr.app N2 M3
  have Y3 : Siz T3.heap.size T3.heap := Nat.le_refl _
  obtain ⟨h3, e3⟩ : ∃ z, T3.heap = z := ⟨_, rfl⟩
  have Y3 : Siz T3.heap.size h3 := by rw [← e3]; exact Nat.le_refl _
  rw [e3] at XP FP AP
  have Z3 : 0 ≤ h3.size := Nat.zero_le _
  show Go p.tables e below _ T3 (mkF m 138 #[.val (.int p0), .val (.int p1), .val (.int p2), .val (.int p3), .val (.int p4), .val (.int p5), .val (.int dense), .val (.int (0 : Int32)), .val (.int len), .val (.int rows), .val (.ref bu), .val (.int ii), .val (.int jj), .val (.int mm), .val (.double d1), .second, .val (.double d2), .second, .unset, .unset, .unset, .unset, .unset, .unset] [(.ref pr)])
  refine g_astore C X3 (pc' := 140) at_138 rfl (l' := #[.val (.int p0), .val (.int p1), .val (.int p2), .val (.int p3), .val (.int p4), .val (.int p5), .val (.int dense), .val (.int (0 : Int32)), .val (.int len), .val (.int rows), .val (.ref bu), .val (.int ii), .val (.int jj), .val (.int mm), .val (.double d1), .second, .val (.double d2), .second, .val (.ref pr), .unset, .unset, .unset, .unset, .unset]) rfl rfl ?_
  refine g_aload C X3 (pc' := 142) at_140 rfl rfl rfl ?_
  refine g_callV C X3 (c_prh l Z a0 hw h3 0 Z3 pr rb kb rows ((((([] : List Value) ++ List.replicate zz.toNatClampNeg (Value.double (0 : UInt64))).set ii.toNatClampNeg (Value.double d1)) ++ List.replicate 0 (Value.double (0 : UInt64))).set jj.toNatClampNeg (Value.double d2)) FP AP) (hw _ (List.mem_of_getElem? (i := 269) rfl)) (hw _ (List.mem_of_getElem? (i := 270) rfl)) (hw _ (List.mem_of_getElem? (i := 272) rfl)) (hw _ (List.mem_of_getElem? (i := 271) rfl)) (hw _ (List.mem_of_getElem? (i := 67) rfl)) (hw _ (List.mem_of_getElem? (i := 273) rfl)) (by decide) e3 XP at_142 rfl kk_117 [] [] rfl rfl rfl 0 rfl (by decide) (by decide) (by decide) (by decide) rfl ?_
  rintro _ T4 _ X4 ⟨rfl, rfl, e4⟩
  rw [List.append_nil] at X4
  show Go p.tables e below _ T4 (mkF m 145 #[.val (.int p0), .val (.int p1), .val (.int p2), .val (.int p3), .val (.int p4), .val (.int p5), .val (.int dense), .val (.int (0 : Int32)), .val (.int len), .val (.int rows), .val (.ref bu), .val (.int ii), .val (.int jj), .val (.int mm), .val (.double d1), .second, .val (.double d2), .second, .val (.ref pr), .unset, .unset, .unset, .unset, .unset] [(.ref rb)])
  refine g_astore C X4 (pc' := 147) at_145 rfl (l' := #[.val (.int p0), .val (.int p1), .val (.int p2), .val (.int p3), .val (.int p4), .val (.int p5), .val (.int dense), .val (.int (0 : Int32)), .val (.int len), .val (.int rows), .val (.ref bu), .val (.int ii), .val (.int jj), .val (.int mm), .val (.double d1), .second, .val (.double d2), .second, .val (.ref pr), .val (.ref rb), .unset, .unset, .unset, .unset]) rfl rfl ?_
  refine g_aload C X4 (pc' := 149) at_147 rfl rfl rfl ?_
  refine g_callV C X4 (c_rows l Z a0 hw h3 0 Z3 pr rb kb rows ((((([] : List Value) ++ List.replicate zz.toNatClampNeg (Value.double (0 : UInt64))).set ii.toNatClampNeg (Value.double d1)) ++ List.replicate 0 (Value.double (0 : UInt64))).set jj.toNatClampNeg (Value.double d2)) FP AP) (hw _ (List.mem_of_getElem? (i := 274) rfl)) (hw _ (List.mem_of_getElem? (i := 121) rfl)) (hw _ (List.mem_of_getElem? (i := 123) rfl)) (hw _ (List.mem_of_getElem? (i := 122) rfl)) (hw _ (List.mem_of_getElem? (i := 67) rfl)) (hw _ (List.mem_of_getElem? (i := 124) rfl)) (by decide) e4 XP at_149 rfl kk_48 [] [] rfl rfl rfl 0 rfl (by decide) (by decide) (by decide) (by decide) rfl ?_
  rintro _ T5 _ X5 ⟨rfl, rfl, e5⟩
  rw [List.append_nil] at X5
  show Go p.tables e below _ T5 (mkF m 152 #[.val (.int p0), .val (.int p1), .val (.int p2), .val (.int p3), .val (.int p4), .val (.int p5), .val (.int dense), .val (.int (0 : Int32)), .val (.int len), .val (.int rows), .val (.ref bu), .val (.int ii), .val (.int jj), .val (.int mm), .val (.double d1), .second, .val (.double d2), .second, .val (.ref pr), .val (.ref rb), .unset, .unset, .unset, .unset] [(.int rows)])
  refine g_iload C X5 (pc' := 154) at_152 rfl rfl ?_
  refine g_icmp C X5 at_154 (pc' := 165) (pc'' := 157) (by decide) (by decide) rfl (fun c154 => ?_) (fun c154 => ?_)
  · have c154 : ¬ (rows.toInt = rows.toInt) := c154
    exact absurd rfl c154
  · have c154 : rows.toInt = rows.toInt := Decidable.not_not.mp c154
    refine g_aload C X5 (pc' := 159) at_157 rfl rfl rfl ?_
    refine g_len C X5 (pc' := 160) e5 AP at_159 rfl ?_
    refine g_iload C X5 (pc' := 162) at_160 rfl rfl ?_
    refine g_icmpY C X5 at_162 (pc' := 167) (by decide) (by decide) (c154) ?_
    refine g_iload C X5 (pc' := 169) at_167 rfl rfl ?_
    refine g_iload C X5 (pc' := 171) at_169 rfl rfl ?_
    refine g_icmp C X5 at_171 (pc' := 179) (pc'' := 174) (by decide) (by decide) rfl (fun c171 => ?_) (fun c171 => ?_)
    · have c171 : ¬ (ii.toInt = jj.toInt) := c171
      refine g_dload C X5 (pc' := 181) at_179 rfl rfl ?_
      refine g_dstore C X5 (pc' := 183) at_181 (x := d1) rfl (l' := #[.val (.int p0), .val (.int p1), .val (.int p2), .val (.int p3), .val (.int p4), .val (.int p5), .val (.int dense), .val (.int (0 : Int32)), .val (.int len), .val (.int rows), .val (.ref bu), .val (.int ii), .val (.int jj), .val (.int mm), .val (.double d1), .second, .val (.double d2), .second, .val (.ref pr), .val (.ref rb), .val (.double d1), .second, .unset, .unset]) rfl rfl ?_
      refine g_iload C X5 (pc' := 185) at_183 rfl rfl ?_
      refine g_iload C X5 (pc' := 187) at_185 rfl rfl ?_
      refine g_icmp C X5 at_187 (pc' := 195) (pc'' := 190) (by decide) (by decide) rfl (fun c187 => ?_) (fun c187 => ?_)
      · have c187 : ¬ (mm.toInt = jj.toInt) := c187
        refine g_iload C X5 (pc' := 197) at_195 rfl rfl ?_
        refine g_iload C X5 (pc' := 199) at_197 rfl rfl ?_
        refine g_icmp C X5 at_199 (pc' := 207) (pc'' := 202) (by decide) (by decide) rfl (fun c199 => ?_) (fun c199 => ?_)
        · have c199 : ¬ (mm.toInt = ii.toInt) := c199
          refine g_dconst0 C X5 (pc' := 208) at_207 rfl rfl ?_
          rw [kk_118]
          refine g_dstore C X5 (pc' := 210) at_208 (x := (0 : UInt64)) rfl (l' := #[.val (.int p0), .val (.int p1), .val (.int p2), .val (.int p3), .val (.int p4), .val (.int p5), .val (.int dense), .val (.int (0 : Int32)), .val (.int len), .val (.int rows), .val (.ref bu), .val (.int ii), .val (.int jj), .val (.int mm), .val (.double d1), .second, .val (.double d2), .second, .val (.ref pr), .val (.ref rb), .val (.double d1), .second, .val (.double (0 : UInt64)), .second]) rfl rfl ?_
          refine g_aload C X5 (pc' := 212) at_210 rfl rfl rfl ?_
          refine g_iload C X5 (pc' := 214) at_212 rfl rfl ?_
          refine g_daload C X5 (pc' := 215) e5 AP h_jj.1 h_jj.2 jj.toNatClampNeg rfl (by rw [l2_get _ _ _ _ _ _ _ hii hjj, if_pos rfl]) at_214 rfl ?_
          refine g_dload C X5 (pc' := 217) at_215 rfl rfl ?_
          refine g_dcmpV C X5 at_217 (v := (0 : Int32)) ((dcmp_cmpI D_d2 D_d2 _).trans (cmpI_self _)) rfl ?_
          refine g_ifN C X5 at_218 (by decide) rfl ?_
          refine g_aload C X5 (pc' := 223) at_221 rfl rfl rfl ?_
          refine g_iload C X5 (pc' := 225) at_223 rfl rfl ?_
          refine g_daload C X5 (pc' := 226) e5 AP h_ii.1 h_ii.2 ii.toNatClampNeg rfl (by rw [l2_get _ _ _ _ _ _ _ hii hjj, if_neg (by rw [tn, tn]; omega), if_pos rfl]) at_225 rfl ?_
          refine g_dload C X5 (pc' := 228) at_226 rfl rfl ?_
          refine g_dcmpV C X5 at_228 (v := (0 : Int32)) ((dcmp_cmpI D_d1 D_d1 _).trans (cmpI_self _)) rfl ?_
          refine g_ifN C X5 at_229 (by decide) rfl ?_
          refine g_aload C X5 (pc' := 234) at_232 rfl rfl rfl ?_
          refine g_iload C X5 (pc' := 236) at_234 rfl rfl ?_
          refine g_daload C X5 (pc' := 237) e5 AP h_mm.1 h_mm.2 mm.toNatClampNeg rfl (by rw [l2_get _ _ _ _ _ _ _ hii hjj, if_neg (by rw [tn, tn]; omega), if_neg (by rw [tn, tn]; omega)]) at_236 rfl ?_
          refine g_dload C X5 (pc' := 239) at_237 rfl rfl ?_
          refine g_dcmpV C X5 (pc' := 240) at_239 (v := (0 : Int32)) kk_119 rfl ?_
          refine g_ifN C X5 at_240 (by decide) rfl ?_
          refine g_iconst C X5 (pc' := 244) at_243 (v := (1 : Int32)) (by decide) rfl ?_
          refine g_goto C X5 at_244 (pc' := 248) (by decide) (by decide) ?_
          exact g_zreturnW C X5 S3 e5 Y3 at_248 (w := 1) (by decide) ⟨rfl, N3⟩ (by decide) (by decide)
        · have c199 : mm.toInt = ii.toInt := Decidable.not_not.mp c199
          refine g_dload C X5 (pc' := 204) at_202 rfl rfl ?_
          refine g_goto C X5 at_204 (pc' := 208) (by decide) (by decide) ?_
          refine g_dstore C X5 (pc' := 210) at_208 (x := d1) rfl (l' := #[.val (.int p0), .val (.int p1), .val (.int p2), .val (.int p3), .val (.int p4), .val (.int p5), .val (.int dense), .val (.int (0 : Int32)), .val (.int len), .val (.int rows), .val (.ref bu), .val (.int ii), .val (.int jj), .val (.int mm), .val (.double d1), .second, .val (.double d2), .second, .val (.ref pr), .val (.ref rb), .val (.double d1), .second, .val (.double d1), .second]) rfl rfl ?_
          refine g_aload C X5 (pc' := 212) at_210 rfl rfl rfl ?_
          refine g_iload C X5 (pc' := 214) at_212 rfl rfl ?_
          refine g_daload C X5 (pc' := 215) e5 AP h_jj.1 h_jj.2 jj.toNatClampNeg rfl (by rw [l2_get _ _ _ _ _ _ _ hii hjj, if_pos rfl]) at_214 rfl ?_
          refine g_dload C X5 (pc' := 217) at_215 rfl rfl ?_
          refine g_dcmpV C X5 at_217 (v := (0 : Int32)) ((dcmp_cmpI D_d2 D_d2 _).trans (cmpI_self _)) rfl ?_
          refine g_ifN C X5 at_218 (by decide) rfl ?_
          refine g_aload C X5 (pc' := 223) at_221 rfl rfl rfl ?_
          refine g_iload C X5 (pc' := 225) at_223 rfl rfl ?_
          refine g_daload C X5 (pc' := 226) e5 AP h_ii.1 h_ii.2 ii.toNatClampNeg rfl (by rw [l2_get _ _ _ _ _ _ _ hii hjj, if_neg (by rw [tn, tn]; omega), if_pos rfl]) at_225 rfl ?_
          refine g_dload C X5 (pc' := 228) at_226 rfl rfl ?_
          refine g_dcmpV C X5 at_228 (v := (0 : Int32)) ((dcmp_cmpI D_d1 D_d1 _).trans (cmpI_self _)) rfl ?_
          refine g_ifN C X5 at_229 (by decide) rfl ?_
          refine g_aload C X5 (pc' := 234) at_232 rfl rfl rfl ?_
          refine g_iload C X5 (pc' := 236) at_234 rfl rfl ?_
          refine g_daload C X5 (pc' := 237) e5 AP h_mm.1 h_mm.2 mm.toNatClampNeg rfl (by rw [l2_get _ _ _ _ _ _ _ hii hjj, if_neg (by rw [tn, tn]; omega), if_pos (by rw [tn, tn]; omega)]) at_236 rfl ?_
          refine g_dload C X5 (pc' := 239) at_237 rfl rfl ?_
          refine g_dcmpV C X5 at_239 (v := (0 : Int32)) ((dcmp_cmpI D_d1 D_d1 _).trans (cmpI_self _)) rfl ?_
          refine g_ifN C X5 at_240 (by decide) rfl ?_
          refine g_iconst C X5 (pc' := 244) at_243 (v := (1 : Int32)) (by decide) rfl ?_
          refine g_goto C X5 at_244 (pc' := 248) (by decide) (by decide) ?_
          exact g_zreturnW C X5 S3 e5 Y3 at_248 (w := 1) (by decide) ⟨rfl, N3⟩ (by decide) (by decide)
      · have c187 : mm.toInt = jj.toInt := Decidable.not_not.mp c187
        refine g_dload C X5 (pc' := 192) at_190 rfl rfl ?_
        refine g_goto C X5 at_192 (pc' := 208) (by decide) (by decide) ?_
        refine g_dstore C X5 (pc' := 210) at_208 (x := d2) rfl (l' := #[.val (.int p0), .val (.int p1), .val (.int p2), .val (.int p3), .val (.int p4), .val (.int p5), .val (.int dense), .val (.int (0 : Int32)), .val (.int len), .val (.int rows), .val (.ref bu), .val (.int ii), .val (.int jj), .val (.int mm), .val (.double d1), .second, .val (.double d2), .second, .val (.ref pr), .val (.ref rb), .val (.double d1), .second, .val (.double d2), .second]) rfl rfl ?_
        refine g_aload C X5 (pc' := 212) at_210 rfl rfl rfl ?_
        refine g_iload C X5 (pc' := 214) at_212 rfl rfl ?_
        refine g_daload C X5 (pc' := 215) e5 AP h_jj.1 h_jj.2 jj.toNatClampNeg rfl (by rw [l2_get _ _ _ _ _ _ _ hii hjj, if_pos rfl]) at_214 rfl ?_
        refine g_dload C X5 (pc' := 217) at_215 rfl rfl ?_
        refine g_dcmpV C X5 at_217 (v := (0 : Int32)) ((dcmp_cmpI D_d2 D_d2 _).trans (cmpI_self _)) rfl ?_
        refine g_ifN C X5 at_218 (by decide) rfl ?_
        refine g_aload C X5 (pc' := 223) at_221 rfl rfl rfl ?_
        refine g_iload C X5 (pc' := 225) at_223 rfl rfl ?_
        refine g_daload C X5 (pc' := 226) e5 AP h_ii.1 h_ii.2 ii.toNatClampNeg rfl (by rw [l2_get _ _ _ _ _ _ _ hii hjj, if_neg (by rw [tn, tn]; omega), if_pos rfl]) at_225 rfl ?_
        refine g_dload C X5 (pc' := 228) at_226 rfl rfl ?_
        refine g_dcmpV C X5 at_228 (v := (0 : Int32)) ((dcmp_cmpI D_d1 D_d1 _).trans (cmpI_self _)) rfl ?_
        refine g_ifN C X5 at_229 (by decide) rfl ?_
        refine g_aload C X5 (pc' := 234) at_232 rfl rfl rfl ?_
        refine g_iload C X5 (pc' := 236) at_234 rfl rfl ?_
        refine g_daload C X5 (pc' := 237) e5 AP h_mm.1 h_mm.2 mm.toNatClampNeg rfl (by rw [l2_get _ _ _ _ _ _ _ hii hjj, if_pos (by rw [tn, tn]; omega)]) at_236 rfl ?_
        refine g_dload C X5 (pc' := 239) at_237 rfl rfl ?_
        refine g_dcmpV C X5 at_239 (v := (0 : Int32)) ((dcmp_cmpI D_d2 D_d2 _).trans (cmpI_self _)) rfl ?_
        refine g_ifN C X5 at_240 (by decide) rfl ?_
        refine g_iconst C X5 (pc' := 244) at_243 (v := (1 : Int32)) (by decide) rfl ?_
        refine g_goto C X5 at_244 (pc' := 248) (by decide) (by decide) ?_
        exact g_zreturnW C X5 S3 e5 Y3 at_248 (w := 1) (by decide) ⟨rfl, N3⟩ (by decide) (by decide)
    · have c171 : ii.toInt = jj.toInt := Decidable.not_not.mp c171
      refine g_dload C X5 (pc' := 176) at_174 rfl rfl ?_
      refine g_goto C X5 at_176 (pc' := 181) (by decide) (by decide) ?_
      refine g_dstore C X5 (pc' := 183) at_181 (x := d2) rfl (l' := #[.val (.int p0), .val (.int p1), .val (.int p2), .val (.int p3), .val (.int p4), .val (.int p5), .val (.int dense), .val (.int (0 : Int32)), .val (.int len), .val (.int rows), .val (.ref bu), .val (.int ii), .val (.int jj), .val (.int mm), .val (.double d1), .second, .val (.double d2), .second, .val (.ref pr), .val (.ref rb), .val (.double d2), .second, .unset, .unset]) rfl rfl ?_
      refine g_iload C X5 (pc' := 185) at_183 rfl rfl ?_
      refine g_iload C X5 (pc' := 187) at_185 rfl rfl ?_
      refine g_icmp C X5 at_187 (pc' := 195) (pc'' := 190) (by decide) (by decide) rfl (fun c187 => ?_) (fun c187 => ?_)
      · have c187 : ¬ (mm.toInt = jj.toInt) := c187
        refine g_iload C X5 (pc' := 197) at_195 rfl rfl ?_
        refine g_iload C X5 (pc' := 199) at_197 rfl rfl ?_
        refine g_icmp C X5 at_199 (pc' := 207) (pc'' := 202) (by decide) (by decide) rfl (fun c199 => ?_) (fun c199 => ?_)
        · have c199 : ¬ (mm.toInt = ii.toInt) := c199
          refine g_dconst0 C X5 (pc' := 208) at_207 rfl rfl ?_
          rw [kk_118]
          refine g_dstore C X5 (pc' := 210) at_208 (x := (0 : UInt64)) rfl (l' := #[.val (.int p0), .val (.int p1), .val (.int p2), .val (.int p3), .val (.int p4), .val (.int p5), .val (.int dense), .val (.int (0 : Int32)), .val (.int len), .val (.int rows), .val (.ref bu), .val (.int ii), .val (.int jj), .val (.int mm), .val (.double d1), .second, .val (.double d2), .second, .val (.ref pr), .val (.ref rb), .val (.double d2), .second, .val (.double (0 : UInt64)), .second]) rfl rfl ?_
          refine g_aload C X5 (pc' := 212) at_210 rfl rfl rfl ?_
          refine g_iload C X5 (pc' := 214) at_212 rfl rfl ?_
          refine g_daload C X5 (pc' := 215) e5 AP h_jj.1 h_jj.2 jj.toNatClampNeg rfl (by rw [l2_get _ _ _ _ _ _ _ hii hjj, if_pos rfl]) at_214 rfl ?_
          refine g_dload C X5 (pc' := 217) at_215 rfl rfl ?_
          refine g_dcmpV C X5 at_217 (v := (0 : Int32)) ((dcmp_cmpI D_d2 D_d2 _).trans (cmpI_self _)) rfl ?_
          refine g_ifN C X5 at_218 (by decide) rfl ?_
          refine g_aload C X5 (pc' := 223) at_221 rfl rfl rfl ?_
          refine g_iload C X5 (pc' := 225) at_223 rfl rfl ?_
          refine g_daload C X5 (pc' := 226) e5 AP h_ii.1 h_ii.2 ii.toNatClampNeg rfl (by rw [l2_get _ _ _ _ _ _ _ hii hjj, if_pos (by rw [tn, tn]; omega)]) at_225 rfl ?_
          refine g_dload C X5 (pc' := 228) at_226 rfl rfl ?_
          refine g_dcmpV C X5 at_228 (v := (0 : Int32)) ((dcmp_cmpI D_d2 D_d2 _).trans (cmpI_self _)) rfl ?_
          refine g_ifN C X5 at_229 (by decide) rfl ?_
          refine g_aload C X5 (pc' := 234) at_232 rfl rfl rfl ?_
          refine g_iload C X5 (pc' := 236) at_234 rfl rfl ?_
          refine g_daload C X5 (pc' := 237) e5 AP h_mm.1 h_mm.2 mm.toNatClampNeg rfl (by rw [l2_get _ _ _ _ _ _ _ hii hjj, if_neg (by rw [tn, tn]; omega), if_neg (by rw [tn, tn]; omega)]) at_236 rfl ?_
          refine g_dload C X5 (pc' := 239) at_237 rfl rfl ?_
          refine g_dcmpV C X5 (pc' := 240) at_239 (v := (0 : Int32)) kk_119 rfl ?_
          refine g_ifN C X5 at_240 (by decide) rfl ?_
          refine g_iconst C X5 (pc' := 244) at_243 (v := (1 : Int32)) (by decide) rfl ?_
          refine g_goto C X5 at_244 (pc' := 248) (by decide) (by decide) ?_
          exact g_zreturnW C X5 S3 e5 Y3 at_248 (w := 1) (by decide) ⟨rfl, N3⟩ (by decide) (by decide)
        · have c199 : mm.toInt = ii.toInt := Decidable.not_not.mp c199
          refine g_dload C X5 (pc' := 204) at_202 rfl rfl ?_
          refine g_goto C X5 at_204 (pc' := 208) (by decide) (by decide) ?_
          refine g_dstore C X5 (pc' := 210) at_208 (x := d1) rfl (l' := #[.val (.int p0), .val (.int p1), .val (.int p2), .val (.int p3), .val (.int p4), .val (.int p5), .val (.int dense), .val (.int (0 : Int32)), .val (.int len), .val (.int rows), .val (.ref bu), .val (.int ii), .val (.int jj), .val (.int mm), .val (.double d1), .second, .val (.double d2), .second, .val (.ref pr), .val (.ref rb), .val (.double d2), .second, .val (.double d1), .second]) rfl rfl ?_
          refine g_aload C X5 (pc' := 212) at_210 rfl rfl rfl ?_
          refine g_iload C X5 (pc' := 214) at_212 rfl rfl ?_
          refine g_daload C X5 (pc' := 215) e5 AP h_jj.1 h_jj.2 jj.toNatClampNeg rfl (by rw [l2_get _ _ _ _ _ _ _ hii hjj, if_pos rfl]) at_214 rfl ?_
          refine g_dload C X5 (pc' := 217) at_215 rfl rfl ?_
          refine g_dcmpV C X5 at_217 (v := (0 : Int32)) ((dcmp_cmpI D_d2 D_d2 _).trans (cmpI_self _)) rfl ?_
          refine g_ifN C X5 at_218 (by decide) rfl ?_
          refine g_aload C X5 (pc' := 223) at_221 rfl rfl rfl ?_
          refine g_iload C X5 (pc' := 225) at_223 rfl rfl ?_
          refine g_daload C X5 (pc' := 226) e5 AP h_ii.1 h_ii.2 ii.toNatClampNeg rfl (by rw [l2_get _ _ _ _ _ _ _ hii hjj, if_pos (by rw [tn, tn]; omega)]) at_225 rfl ?_
          refine g_dload C X5 (pc' := 228) at_226 rfl rfl ?_
          refine g_dcmpV C X5 at_228 (v := (0 : Int32)) ((dcmp_cmpI D_d2 D_d2 _).trans (cmpI_self _)) rfl ?_
          refine g_ifN C X5 at_229 (by decide) rfl ?_
          refine g_aload C X5 (pc' := 234) at_232 rfl rfl rfl ?_
          refine g_iload C X5 (pc' := 236) at_234 rfl rfl ?_
          refine g_daload C X5 (pc' := 237) e5 AP h_mm.1 h_mm.2 mm.toNatClampNeg rfl (by rw [l2_get _ _ _ _ _ _ _ hii hjj, if_neg (by rw [tn, tn]; omega), if_pos (by rw [tn, tn]; omega)]) at_236 rfl ?_
          refine g_dload C X5 (pc' := 239) at_237 rfl rfl ?_
          refine g_dcmpV C X5 at_239 (v := (0 : Int32)) ((dcmp_cmpI D_d1 D_d1 _).trans (cmpI_self _)) rfl ?_
          refine g_ifN C X5 at_240 (by decide) rfl ?_
          refine g_iconst C X5 (pc' := 244) at_243 (v := (1 : Int32)) (by decide) rfl ?_
          refine g_goto C X5 at_244 (pc' := 248) (by decide) (by decide) ?_
          exact g_zreturnW C X5 S3 e5 Y3 at_248 (w := 1) (by decide) ⟨rfl, N3⟩ (by decide) (by decide)
      · have c187 : mm.toInt = jj.toInt := Decidable.not_not.mp c187
        refine g_dload C X5 (pc' := 192) at_190 rfl rfl ?_
        refine g_goto C X5 at_192 (pc' := 208) (by decide) (by decide) ?_
        refine g_dstore C X5 (pc' := 210) at_208 (x := d2) rfl (l' := #[.val (.int p0), .val (.int p1), .val (.int p2), .val (.int p3), .val (.int p4), .val (.int p5), .val (.int dense), .val (.int (0 : Int32)), .val (.int len), .val (.int rows), .val (.ref bu), .val (.int ii), .val (.int jj), .val (.int mm), .val (.double d1), .second, .val (.double d2), .second, .val (.ref pr), .val (.ref rb), .val (.double d2), .second, .val (.double d2), .second]) rfl rfl ?_
        refine g_aload C X5 (pc' := 212) at_210 rfl rfl rfl ?_
        refine g_iload C X5 (pc' := 214) at_212 rfl rfl ?_
        refine g_daload C X5 (pc' := 215) e5 AP h_jj.1 h_jj.2 jj.toNatClampNeg rfl (by rw [l2_get _ _ _ _ _ _ _ hii hjj, if_pos rfl]) at_214 rfl ?_
        refine g_dload C X5 (pc' := 217) at_215 rfl rfl ?_
        refine g_dcmpV C X5 at_217 (v := (0 : Int32)) ((dcmp_cmpI D_d2 D_d2 _).trans (cmpI_self _)) rfl ?_
        refine g_ifN C X5 at_218 (by decide) rfl ?_
        refine g_aload C X5 (pc' := 223) at_221 rfl rfl rfl ?_
        refine g_iload C X5 (pc' := 225) at_223 rfl rfl ?_
        refine g_daload C X5 (pc' := 226) e5 AP h_ii.1 h_ii.2 ii.toNatClampNeg rfl (by rw [l2_get _ _ _ _ _ _ _ hii hjj, if_pos (by rw [tn, tn]; omega)]) at_225 rfl ?_
        refine g_dload C X5 (pc' := 228) at_226 rfl rfl ?_
        refine g_dcmpV C X5 at_228 (v := (0 : Int32)) ((dcmp_cmpI D_d2 D_d2 _).trans (cmpI_self _)) rfl ?_
        refine g_ifN C X5 at_229 (by decide) rfl ?_
        refine g_aload C X5 (pc' := 234) at_232 rfl rfl rfl ?_
        refine g_iload C X5 (pc' := 236) at_234 rfl rfl ?_
        refine g_daload C X5 (pc' := 237) e5 AP h_mm.1 h_mm.2 mm.toNatClampNeg rfl (by rw [l2_get _ _ _ _ _ _ _ hii hjj, if_pos (by rw [tn, tn]; omega)]) at_236 rfl ?_
        refine g_dload C X5 (pc' := 239) at_237 rfl rfl ?_
        refine g_dcmpV C X5 at_239 (v := (0 : Int32)) ((dcmp_cmpI D_d2 D_d2 _).trans (cmpI_self _)) rfl ?_
        refine g_ifN C X5 at_240 (by decide) rfl ?_
        refine g_iconst C X5 (pc' := 244) at_243 (v := (1 : Int32)) (by decide) rfl ?_
        refine g_goto C X5 at_244 (pc' := 248) (by decide) (by decide) ?_
        exact g_zreturnW C X5 S3 e5 Y3 at_248 (w := 1) (by decide) ⟨rfl, N3⟩ (by decide) (by decide)
set_option maxRecDepth 65536 in
set_option maxHeartbeats 40000000 in
theorem lawT1 (l : Launch) (Z : State) (a0 : Array Value) (hw : ∀ d ∈ tables_1, d.before a0 Z = true) (h : Heap) (n0 : Nat) (Z0 : n0 ≤ h.size) (wS : ∀ a ∈ Bundle.stringAtoms, a.before a0 Z = true) (hEL : EW Z a0 consts_1) (cs : Int32) (dg1 dg2 : Addr) (hcs : ¬ (cs.toInt = 0)) (l1 : dg1 < n0) (l2 : dg2 < n0) {p : Program} {e : Env} {s : State} {m : MethodId} {args : Array Value} {below : List Frame} {meth : Method} {c : Code} {T0 : State} {locs : List Loc} (C : Cx p l s m meth c Z x code maxLocals ret) (X0 : Stand p l e room_1 s m args below meth c T0 locs 8 216) (e0 : T0.heap = h) (N0 : Fr n0 locs) (p0 p1 p2 p3 p4 p5 dense len rows : Int32) (bu : Addr) (zz : Int32) (hd : 0 ≤ dense.toInt ∧ dense.toInt ≤ rows.toInt) (hrb : 1 ≤ rows.toInt ∧ rows.toInt ≤ 47) (hrz : rows.toInt ≤ zz.toInt) (hzz : zz.toInt ≤ 94) (hr0 : rows ≠ 0) (H0 : CHv Z consts_1 s.vm h) (SP0 : SP Z h cs dg1 dg2) (B0 : BS Z h n0 bu dense rows 1 [.int dense] zz []) :
    Go p.tables e below (EndW s (fun v _ L => v = some (.int 1) ∧ Fr n0 L) room_1.cells room_1.slots) T0 (mkF m 78 #[.val (.int p0), .val (.int p1), .val (.int p2), .val (.int p3), .val (.int p4), .val (.int p5), .val (.int dense), .val (.int (1 : Int32)), .val (.int len), .val (.int rows), .val (.ref bu), .unset, .unset, .unset, .unset, .unset, .unset, .unset, .unset, .unset, .unset, .unset, .unset, .unset] []) := by
  refine g_iloadN C X0 (pc' := 79) at_78 rfl rfl ?_
  refine g_ldcI C X0 (pc' := 81) (hw _ (List.mem_of_getElem? (i := 46) rfl)) at_79 rfl ?_
  refine g_iand C X0 (pc' := 82) at_81 rfl ?_
  refine g_iload C X0 (pc' := 84) at_82 rfl rfl ?_
  refine g_irem C X0 (pc' := 85) at_84 hr0 rfl ?_
  obtain ⟨ii, e_ii⟩ : ∃ z : Int32, z = (p1 &&& (2147483647 : Int32)) % rows := ⟨_, rfl⟩
  refine g_istore C X0 (pc' := 87) at_85 (x := ii) e_ii (l' := #[.val (.int p0), .val (.int p1), .val (.int p2), .val (.int p3), .val (.int p4), .val (.int p5), .val (.int dense), .val (.int (1 : Int32)), .val (.int len), .val (.int rows), .val (.ref bu), .val (.int ii), .unset, .unset, .unset, .unset, .unset, .unset, .unset, .unset, .unset, .unset, .unset, .unset]) rfl rfl ?_
  have h_ii : 0 ≤ ii.toInt ∧ ii.toInt < rows.toInt := by
    have q1 := c_and p1 2147483647 (by decide)
    have q2 := (c_iremV (p1 &&& 2147483647) rows).1 q1.1 (by omega)
    rw [e_ii]; exact ⟨q2.1, q2.2.1⟩
  refine g_iloadN C X0 (pc' := 88) at_87 rfl rfl ?_
  refine g_ldcI C X0 (pc' := 90) (hw _ (List.mem_of_getElem? (i := 46) rfl)) at_88 rfl ?_
  refine g_iand C X0 (pc' := 91) at_90 rfl ?_
  refine g_iload C X0 (pc' := 93) at_91 rfl rfl ?_
  refine g_irem C X0 (pc' := 94) at_93 hr0 rfl ?_
  obtain ⟨jj, e_jj⟩ : ∃ z : Int32, z = (p2 &&& (2147483647 : Int32)) % rows := ⟨_, rfl⟩
  refine g_istore C X0 (pc' := 96) at_94 (x := jj) e_jj (l' := #[.val (.int p0), .val (.int p1), .val (.int p2), .val (.int p3), .val (.int p4), .val (.int p5), .val (.int dense), .val (.int (1 : Int32)), .val (.int len), .val (.int rows), .val (.ref bu), .val (.int ii), .val (.int jj), .unset, .unset, .unset, .unset, .unset, .unset, .unset, .unset, .unset, .unset, .unset]) rfl rfl ?_
  have h_jj : 0 ≤ jj.toInt ∧ jj.toInt < rows.toInt := by
    have q1 := c_and p2 2147483647 (by decide)
    have q2 := (c_iremV (p2 &&& 2147483647) rows).1 q1.1 (by omega)
    rw [e_jj]; exact ⟨q2.1, q2.2.1⟩
  refine g_iloadN C X0 (pc' := 97) at_96 rfl rfl ?_
  refine g_ldcI C X0 (pc' := 99) (hw _ (List.mem_of_getElem? (i := 46) rfl)) at_97 rfl ?_
  refine g_iand C X0 (pc' := 100) at_99 rfl ?_
  refine g_iload C X0 (pc' := 102) at_100 rfl rfl ?_
  refine g_irem C X0 (pc' := 103) at_102 hr0 rfl ?_
  obtain ⟨mm, e_mm⟩ : ∃ z : Int32, z = (p3 &&& (2147483647 : Int32)) % rows := ⟨_, rfl⟩
  refine g_istore C X0 (pc' := 105) at_103 (x := mm) e_mm (l' := #[.val (.int p0), .val (.int p1), .val (.int p2), .val (.int p3), .val (.int p4), .val (.int p5), .val (.int dense), .val (.int (1 : Int32)), .val (.int len), .val (.int rows), .val (.ref bu), .val (.int ii), .val (.int jj), .val (.int mm), .unset, .unset, .unset, .unset, .unset, .unset, .unset, .unset, .unset, .unset]) rfl rfl ?_
  have h_mm : 0 ≤ mm.toInt ∧ mm.toInt < rows.toInt := by
    have q1 := c_and p3 2147483647 (by decide)
    have q2 := (c_iremV (p3 &&& 2147483647) rows).1 q1.1 (by omega)
    rw [e_mm]; exact ⟨q2.1, q2.2.1⟩
  refine g_iload C X0 (pc' := 107) at_105 rfl rfl ?_
  refine g_i2d C X0 (pc' := 108) at_107 rfl ?_
  obtain ⟨d1, e_d1⟩ : ∃ z : UInt64, z = FP.i2d p4 := ⟨_, rfl⟩
  have D_d1 : FP.Core.DInt p4.toInt d1 := e_d1 ▸ (i2d_D p4)
  refine g_dstore C X0 (pc' := 110) at_108 (x := d1) e_d1 (l' := #[.val (.int p0), .val (.int p1), .val (.int p2), .val (.int p3), .val (.int p4), .val (.int p5), .val (.int dense), .val (.int (1 : Int32)), .val (.int len), .val (.int rows), .val (.ref bu), .val (.int ii), .val (.int jj), .val (.int mm), .val (.double d1), .second, .unset, .unset, .unset, .unset, .unset, .unset, .unset, .unset]) rfl rfl ?_
  refine g_iload C X0 (pc' := 112) at_110 rfl rfl ?_
  refine g_i2d C X0 (pc' := 113) at_112 rfl ?_
  obtain ⟨d2, e_d2⟩ : ∃ z : UInt64, z = FP.i2d p5 := ⟨_, rfl⟩
  have D_d2 : FP.Core.DInt p5.toInt d2 := e_d2 ▸ (i2d_D p5)
  refine g_dstore C X0 (pc' := 115) at_113 (x := d2) e_d2 (l' := #[.val (.int p0), .val (.int p1), .val (.int p2), .val (.int p3), .val (.int p4), .val (.int p5), .val (.int dense), .val (.int (1 : Int32)), .val (.int len), .val (.int rows), .val (.ref bu), .val (.int ii), .val (.int jj), .val (.int mm), .val (.double d1), .second, .val (.double d2), .second, .unset, .unset, .unset, .unset, .unset, .unset]) rfl rfl ?_
  refine g_aload C X0 (pc' := 117) at_115 rfl rfl rfl ?_
  refine g_iload C X0 (pc' := 119) at_117 rfl rfl ?_
  refine g_dload C X0 (pc' := 121) at_119 rfl rfl ?_
  have XBu := B0.exa
  refine g_callV C X0 (c_rhs l Z a0 hw h n0 Z0 bu dense rows 1 [.int dense] zz [] ii d1 zz.toNatClampNeg h_ii hrz (by rw [tn, tn]; simp only [List.length_nil]; omega) B0) (hw _ (List.mem_of_getElem? (i := 47) rfl)) (hw _ (List.mem_of_getElem? (i := 48) rfl)) (hw _ (List.mem_of_getElem? (i := 50) rfl)) (hw _ (List.mem_of_getElem? (i := 49) rfl)) (hw _ (List.mem_of_getElem? (i := 2) rfl)) (hw _ (List.mem_of_getElem? (i := 51) rfl)) (by decide) e0 XBu at_121 rfl kk_115 [(.int ii), (.double d1)] [] rfl rfl rfl 0 rfl (by decide) (by decide) (by decide) (by decide) rfl ?_
  rintro _ T1 L1 X1 ⟨rfl, M1, SK1, CK1, B1⟩
  have S1 := SK1 cs dg1 dg2 l1 l2 SP0
  have H1 := (CK1 consts_1 s.vm C.warm.alike H0).1
  have Z1 : n0 ≤ T1.heap.size := Nat.le_trans Z0 (CK1 consts_1 s.vm C.warm.alike H0).2.1
  have N1 := Fr.app N0 M1
  obtain ⟨h1, e1⟩ : ∃ z, T1.heap = z := ⟨_, rfl⟩
  rw [e1] at S1 H1 Z1 B1
  show Go p.tables e below _ T1 (mkF m 124 #[.val (.int p0), .val (.int p1), .val (.int p2), .val (.int p3), .val (.int p4), .val (.int p5), .val (.int dense), .val (.int (1 : Int32)), .val (.int len), .val (.int rows), .val (.ref bu), .val (.int ii), .val (.int jj), .val (.int mm), .val (.double d1), .second, .val (.double d2), .second, .unset, .unset, .unset, .unset, .unset, .unset] [])
  refine g_aload C X1 (pc' := 126) at_124 rfl rfl rfl ?_
  refine g_iload C X1 (pc' := 128) at_126 rfl rfl ?_
  refine g_dload C X1 (pc' := 130) at_128 rfl rfl ?_
  have XBu := B1.exa
  refine g_callV C X1 (c_rhs l Z a0 hw h1 n0 Z1 bu dense rows 1 [.int dense] zz ((([] : List Value) ++ List.replicate zz.toNatClampNeg (Value.double (0 : UInt64))).set ii.toNatClampNeg (Value.double d1)) jj d2 0 h_jj hrz (by simp only [List.length_set, List.nil_append, List.length_replicate]; rw [tn, tn]; omega) B1) (hw _ (List.mem_of_getElem? (i := 47) rfl)) (hw _ (List.mem_of_getElem? (i := 48) rfl)) (hw _ (List.mem_of_getElem? (i := 50) rfl)) (hw _ (List.mem_of_getElem? (i := 49) rfl)) (hw _ (List.mem_of_getElem? (i := 2) rfl)) (hw _ (List.mem_of_getElem? (i := 51) rfl)) (by decide) e1 XBu at_130 rfl kk_115 [(.int jj), (.double d2)] [] rfl rfl rfl 0 rfl (by decide) (by decide) (by decide) (by decide) rfl ?_
  rintro _ T2 L2 X2 ⟨rfl, M2, SK2, CK2, B2⟩
  have S2 := SK2 cs dg1 dg2 l1 l2 S1
  have H2 := (CK2 consts_1 s.vm C.warm.alike H1).1
  have Z2 : n0 ≤ T2.heap.size := Nat.le_trans Z1 (CK2 consts_1 s.vm C.warm.alike H1).2.1
  have N2 := Fr.app N1 M2
  obtain ⟨h2, e2⟩ : ∃ z, T2.heap = z := ⟨_, rfl⟩
  rw [e2] at S2 H2 Z2 B2
  show Go p.tables e below _ T2 (mkF m 133 #[.val (.int p0), .val (.int p1), .val (.int p2), .val (.int p3), .val (.int p4), .val (.int p5), .val (.int dense), .val (.int (1 : Int32)), .val (.int len), .val (.int rows), .val (.ref bu), .val (.int ii), .val (.int jj), .val (.int mm), .val (.double d1), .second, .val (.double d2), .second, .unset, .unset, .unset, .unset, .unset, .unset] [])
  refine g_aload C X2 (pc' := 135) at_133 rfl rfl rfl ?_
  have XBu := B2.exa
  have hLl : ((((([] : List Value) ++ List.replicate zz.toNatClampNeg (Value.double (0 : UInt64))).set ii.toNatClampNeg (Value.double d1)) ++ List.replicate 0 (Value.double (0 : UInt64))).set jj.toNatClampNeg (Value.double d2)).length ≤ zz.toNatClampNeg := by simp only [List.length_set, List.nil_append, List.length_replicate, List.length_append]; omega
  have hii : ii.toNatClampNeg < zz.toNatClampNeg := by rw [tn, tn]; omega
  have hjj : jj.toNatClampNeg < zz.toNatClampNeg := by rw [tn, tn]; omega
  have hF1 : Fin d1 := e_d1 ▸ fin_i2d p4
  have hF2 : Fin d2 := e_d2 ▸ fin_i2d p5
  have hFL : ∀ q : Nat, ∃ w : UInt64, ((((([] : List Value) ++ List.replicate zz.toNatClampNeg (Value.double (0 : UInt64))).set ii.toNatClampNeg (Value.double d1)) ++ List.replicate 0 (Value.double (0 : UInt64))).set jj.toNatClampNeg (Value.double d2)).getD q (.double (0 : UInt64)) = .double w ∧ Fin w := fun q => by
    rw [l2_get _ _ _ _ _ _ _ hii hjj]
    split
    · exact ⟨_, rfl, hF2⟩
    · split
      · exact ⟨_, rfl, hF1⟩
      · exact ⟨_, rfl, fin_zero⟩
  refine g_callVH (vm0 := s.vm) (s := s) C X2 ((State.WarmedH.refl s).since h2.size) (Nat.le_refl _) hEL (CHr.refl H2) (c_build1 l Z a0 hw h2 n0 Z2 wS hEL cs dg1 dg2 hcs l1 l2 bu dense rows zz ((((([] : List Value) ++ List.replicate zz.toNatClampNeg (Value.double (0 : UInt64))).set ii.toNatClampNeg (Value.double d1)) ++ List.replicate 0 (Value.double (0 : UInt64))).set jj.toNatClampNeg (Value.double d2)) hd hrb (by omega) hLl hFL B2 S2) (hw _ (List.mem_of_getElem? (i := 60) rfl)) (hw _ (List.mem_of_getElem? (i := 61) rfl)) (hw _ (List.mem_of_getElem? (i := 63) rfl)) (hw _ (List.mem_of_getElem? (i := 62) rfl)) (hw _ (List.mem_of_getElem? (i := 2) rfl)) (hw _ (List.mem_of_getElem? (i := 64) rfl)) (by decide) e2 XBu at_135 rfl kk_116 [] [] rfl rfl rfl 0 rfl (by decide) (by decide) (by decide) (by decide) rfl ?_
  rintro _ T3 L3 C X3 S3 H3 ⟨pr, rb, kb, rfl, M3, XP, FP, AP⟩
  have N3 := Fr.app N2 M3
  have Y3 : Siz T3.heap.size T3.heap := Nat.le_refl _
  obtain ⟨h3, e3⟩ : ∃ z, T3.heap = z := ⟨_, rfl⟩
  have Y3 : Siz T3.heap.size h3 := by rw [← e3]; exact Nat.le_refl _
  rw [e3] at XP FP AP
  have Z3 : 0 ≤ h3.size := Nat.zero_le _
  show Go p.tables e below _ T3 (mkF m 138 #[.val (.int p0), .val (.int p1), .val (.int p2), .val (.int p3), .val (.int p4), .val (.int p5), .val (.int dense), .val (.int (1 : Int32)), .val (.int len), .val (.int rows), .val (.ref bu), .val (.int ii), .val (.int jj), .val (.int mm), .val (.double d1), .second, .val (.double d2), .second, .unset, .unset, .unset, .unset, .unset, .unset] [(.ref pr)])
  refine g_astore C X3 (pc' := 140) at_138 rfl (l' := #[.val (.int p0), .val (.int p1), .val (.int p2), .val (.int p3), .val (.int p4), .val (.int p5), .val (.int dense), .val (.int (1 : Int32)), .val (.int len), .val (.int rows), .val (.ref bu), .val (.int ii), .val (.int jj), .val (.int mm), .val (.double d1), .second, .val (.double d2), .second, .val (.ref pr), .unset, .unset, .unset, .unset, .unset]) rfl rfl ?_
  refine g_aload C X3 (pc' := 142) at_140 rfl rfl rfl ?_
  refine g_callV C X3 (c_prh l Z a0 hw h3 0 Z3 pr rb kb rows ((((([] : List Value) ++ List.replicate zz.toNatClampNeg (Value.double (0 : UInt64))).set ii.toNatClampNeg (Value.double d1)) ++ List.replicate 0 (Value.double (0 : UInt64))).set jj.toNatClampNeg (Value.double d2)) FP AP) (hw _ (List.mem_of_getElem? (i := 269) rfl)) (hw _ (List.mem_of_getElem? (i := 270) rfl)) (hw _ (List.mem_of_getElem? (i := 272) rfl)) (hw _ (List.mem_of_getElem? (i := 271) rfl)) (hw _ (List.mem_of_getElem? (i := 67) rfl)) (hw _ (List.mem_of_getElem? (i := 273) rfl)) (by decide) e3 XP at_142 rfl kk_117 [] [] rfl rfl rfl 0 rfl (by decide) (by decide) (by decide) (by decide) rfl ?_
  rintro _ T4 _ X4 ⟨rfl, rfl, e4⟩
  rw [List.append_nil] at X4
  show Go p.tables e below _ T4 (mkF m 145 #[.val (.int p0), .val (.int p1), .val (.int p2), .val (.int p3), .val (.int p4), .val (.int p5), .val (.int dense), .val (.int (1 : Int32)), .val (.int len), .val (.int rows), .val (.ref bu), .val (.int ii), .val (.int jj), .val (.int mm), .val (.double d1), .second, .val (.double d2), .second, .val (.ref pr), .unset, .unset, .unset, .unset, .unset] [(.ref rb)])
  refine g_astore C X4 (pc' := 147) at_145 rfl (l' := #[.val (.int p0), .val (.int p1), .val (.int p2), .val (.int p3), .val (.int p4), .val (.int p5), .val (.int dense), .val (.int (1 : Int32)), .val (.int len), .val (.int rows), .val (.ref bu), .val (.int ii), .val (.int jj), .val (.int mm), .val (.double d1), .second, .val (.double d2), .second, .val (.ref pr), .val (.ref rb), .unset, .unset, .unset, .unset]) rfl rfl ?_
  refine g_aload C X4 (pc' := 149) at_147 rfl rfl rfl ?_
  refine g_callV C X4 (c_rows l Z a0 hw h3 0 Z3 pr rb kb rows ((((([] : List Value) ++ List.replicate zz.toNatClampNeg (Value.double (0 : UInt64))).set ii.toNatClampNeg (Value.double d1)) ++ List.replicate 0 (Value.double (0 : UInt64))).set jj.toNatClampNeg (Value.double d2)) FP AP) (hw _ (List.mem_of_getElem? (i := 274) rfl)) (hw _ (List.mem_of_getElem? (i := 121) rfl)) (hw _ (List.mem_of_getElem? (i := 123) rfl)) (hw _ (List.mem_of_getElem? (i := 122) rfl)) (hw _ (List.mem_of_getElem? (i := 67) rfl)) (hw _ (List.mem_of_getElem? (i := 124) rfl)) (by decide) e4 XP at_149 rfl kk_48 [] [] rfl rfl rfl 0 rfl (by decide) (by decide) (by decide) (by decide) rfl ?_
  rintro _ T5 _ X5 ⟨rfl, rfl, e5⟩
  rw [List.append_nil] at X5
  show Go p.tables e below _ T5 (mkF m 152 #[.val (.int p0), .val (.int p1), .val (.int p2), .val (.int p3), .val (.int p4), .val (.int p5), .val (.int dense), .val (.int (1 : Int32)), .val (.int len), .val (.int rows), .val (.ref bu), .val (.int ii), .val (.int jj), .val (.int mm), .val (.double d1), .second, .val (.double d2), .second, .val (.ref pr), .val (.ref rb), .unset, .unset, .unset, .unset] [(.int rows)])
  refine g_iload C X5 (pc' := 154) at_152 rfl rfl ?_
  refine g_icmp C X5 at_154 (pc' := 165) (pc'' := 157) (by decide) (by decide) rfl (fun c154 => ?_) (fun c154 => ?_)
  · have c154 : ¬ (rows.toInt = rows.toInt) := c154
    exact absurd rfl c154
  · have c154 : rows.toInt = rows.toInt := Decidable.not_not.mp c154
    refine g_aload C X5 (pc' := 159) at_157 rfl rfl rfl ?_
    refine g_len C X5 (pc' := 160) e5 AP at_159 rfl ?_
    refine g_iload C X5 (pc' := 162) at_160 rfl rfl ?_
    refine g_icmpY C X5 at_162 (pc' := 167) (by decide) (by decide) (c154) ?_
    refine g_iload C X5 (pc' := 169) at_167 rfl rfl ?_
    refine g_iload C X5 (pc' := 171) at_169 rfl rfl ?_
    refine g_icmp C X5 at_171 (pc' := 179) (pc'' := 174) (by decide) (by decide) rfl (fun c171 => ?_) (fun c171 => ?_)
    · have c171 : ¬ (ii.toInt = jj.toInt) := c171
      refine g_dload C X5 (pc' := 181) at_179 rfl rfl ?_
      refine g_dstore C X5 (pc' := 183) at_181 (x := d1) rfl (l' := #[.val (.int p0), .val (.int p1), .val (.int p2), .val (.int p3), .val (.int p4), .val (.int p5), .val (.int dense), .val (.int (1 : Int32)), .val (.int len), .val (.int rows), .val (.ref bu), .val (.int ii), .val (.int jj), .val (.int mm), .val (.double d1), .second, .val (.double d2), .second, .val (.ref pr), .val (.ref rb), .val (.double d1), .second, .unset, .unset]) rfl rfl ?_
      refine g_iload C X5 (pc' := 185) at_183 rfl rfl ?_
      refine g_iload C X5 (pc' := 187) at_185 rfl rfl ?_
      refine g_icmp C X5 at_187 (pc' := 195) (pc'' := 190) (by decide) (by decide) rfl (fun c187 => ?_) (fun c187 => ?_)
      · have c187 : ¬ (mm.toInt = jj.toInt) := c187
        refine g_iload C X5 (pc' := 197) at_195 rfl rfl ?_
        refine g_iload C X5 (pc' := 199) at_197 rfl rfl ?_
        refine g_icmp C X5 at_199 (pc' := 207) (pc'' := 202) (by decide) (by decide) rfl (fun c199 => ?_) (fun c199 => ?_)
        · have c199 : ¬ (mm.toInt = ii.toInt) := c199
          refine g_dconst0 C X5 (pc' := 208) at_207 rfl rfl ?_
          rw [kk_118]
          refine g_dstore C X5 (pc' := 210) at_208 (x := (0 : UInt64)) rfl (l' := #[.val (.int p0), .val (.int p1), .val (.int p2), .val (.int p3), .val (.int p4), .val (.int p5), .val (.int dense), .val (.int (1 : Int32)), .val (.int len), .val (.int rows), .val (.ref bu), .val (.int ii), .val (.int jj), .val (.int mm), .val (.double d1), .second, .val (.double d2), .second, .val (.ref pr), .val (.ref rb), .val (.double d1), .second, .val (.double (0 : UInt64)), .second]) rfl rfl ?_
          refine g_aload C X5 (pc' := 212) at_210 rfl rfl rfl ?_
          refine g_iload C X5 (pc' := 214) at_212 rfl rfl ?_
          refine g_daload C X5 (pc' := 215) e5 AP h_jj.1 h_jj.2 jj.toNatClampNeg rfl (by rw [l2_get _ _ _ _ _ _ _ hii hjj, if_pos rfl]) at_214 rfl ?_
          refine g_dload C X5 (pc' := 217) at_215 rfl rfl ?_
          refine g_dcmpV C X5 at_217 (v := (0 : Int32)) ((dcmp_cmpI D_d2 D_d2 _).trans (cmpI_self _)) rfl ?_
          refine g_ifN C X5 at_218 (by decide) rfl ?_
          refine g_aload C X5 (pc' := 223) at_221 rfl rfl rfl ?_
          refine g_iload C X5 (pc' := 225) at_223 rfl rfl ?_
          refine g_daload C X5 (pc' := 226) e5 AP h_ii.1 h_ii.2 ii.toNatClampNeg rfl (by rw [l2_get _ _ _ _ _ _ _ hii hjj, if_neg (by rw [tn, tn]; omega), if_pos rfl]) at_225 rfl ?_
          refine g_dload C X5 (pc' := 228) at_226 rfl rfl ?_
          refine g_dcmpV C X5 at_228 (v := (0 : Int32)) ((dcmp_cmpI D_d1 D_d1 _).trans (cmpI_self _)) rfl ?_
          refine g_ifN C X5 at_229 (by decide) rfl ?_
          refine g_aload C X5 (pc' := 234) at_232 rfl rfl rfl ?_
          refine g_iload C X5 (pc' := 236) at_234 rfl rfl ?_
          refine g_daload C X5 (pc' := 237) e5 AP h_mm.1 h_mm.2 mm.toNatClampNeg rfl (by rw [l2_get _ _ _ _ _ _ _ hii hjj, if_neg (by rw [tn, tn]; omega), if_neg (by rw [tn, tn]; omega)]) at_236 rfl ?_
          refine g_dload C X5 (pc' := 239) at_237 rfl rfl ?_
          refine g_dcmpV C X5 (pc' := 240) at_239 (v := (0 : Int32)) kk_119 rfl ?_
          refine g_ifN C X5 at_240 (by decide) rfl ?_
          refine g_iconst C X5 (pc' := 244) at_243 (v := (1 : Int32)) (by decide) rfl ?_
          refine g_goto C X5 at_244 (pc' := 248) (by decide) (by decide) ?_
          exact g_zreturnW C X5 S3 e5 Y3 at_248 (w := 1) (by decide) ⟨rfl, N3⟩ (by decide) (by decide)
        · have c199 : mm.toInt = ii.toInt := Decidable.not_not.mp c199
          refine g_dload C X5 (pc' := 204) at_202 rfl rfl ?_
          refine g_goto C X5 at_204 (pc' := 208) (by decide) (by decide) ?_
          refine g_dstore C X5 (pc' := 210) at_208 (x := d1) rfl (l' := #[.val (.int p0), .val (.int p1), .val (.int p2), .val (.int p3), .val (.int p4), .val (.int p5), .val (.int dense), .val (.int (1 : Int32)), .val (.int len), .val (.int rows), .val (.ref bu), .val (.int ii), .val (.int jj), .val (.int mm), .val (.double d1), .second, .val (.double d2), .second, .val (.ref pr), .val (.ref rb), .val (.double d1), .second, .val (.double d1), .second]) rfl rfl ?_
          refine g_aload C X5 (pc' := 212) at_210 rfl rfl rfl ?_
          refine g_iload C X5 (pc' := 214) at_212 rfl rfl ?_
          refine g_daload C X5 (pc' := 215) e5 AP h_jj.1 h_jj.2 jj.toNatClampNeg rfl (by rw [l2_get _ _ _ _ _ _ _ hii hjj, if_pos rfl]) at_214 rfl ?_
          refine g_dload C X5 (pc' := 217) at_215 rfl rfl ?_
          refine g_dcmpV C X5 at_217 (v := (0 : Int32)) ((dcmp_cmpI D_d2 D_d2 _).trans (cmpI_self _)) rfl ?_
          refine g_ifN C X5 at_218 (by decide) rfl ?_
          refine g_aload C X5 (pc' := 223) at_221 rfl rfl rfl ?_
          refine g_iload C X5 (pc' := 225) at_223 rfl rfl ?_
          refine g_daload C X5 (pc' := 226) e5 AP h_ii.1 h_ii.2 ii.toNatClampNeg rfl (by rw [l2_get _ _ _ _ _ _ _ hii hjj, if_neg (by rw [tn, tn]; omega), if_pos rfl]) at_225 rfl ?_
          refine g_dload C X5 (pc' := 228) at_226 rfl rfl ?_
          refine g_dcmpV C X5 at_228 (v := (0 : Int32)) ((dcmp_cmpI D_d1 D_d1 _).trans (cmpI_self _)) rfl ?_
          refine g_ifN C X5 at_229 (by decide) rfl ?_
          refine g_aload C X5 (pc' := 234) at_232 rfl rfl rfl ?_
          refine g_iload C X5 (pc' := 236) at_234 rfl rfl ?_
          refine g_daload C X5 (pc' := 237) e5 AP h_mm.1 h_mm.2 mm.toNatClampNeg rfl (by rw [l2_get _ _ _ _ _ _ _ hii hjj, if_neg (by rw [tn, tn]; omega), if_pos (by rw [tn, tn]; omega)]) at_236 rfl ?_
          refine g_dload C X5 (pc' := 239) at_237 rfl rfl ?_
          refine g_dcmpV C X5 at_239 (v := (0 : Int32)) ((dcmp_cmpI D_d1 D_d1 _).trans (cmpI_self _)) rfl ?_
          refine g_ifN C X5 at_240 (by decide) rfl ?_
          refine g_iconst C X5 (pc' := 244) at_243 (v := (1 : Int32)) (by decide) rfl ?_
          refine g_goto C X5 at_244 (pc' := 248) (by decide) (by decide) ?_
          exact g_zreturnW C X5 S3 e5 Y3 at_248 (w := 1) (by decide) ⟨rfl, N3⟩ (by decide) (by decide)
      · have c187 : mm.toInt = jj.toInt := Decidable.not_not.mp c187
        refine g_dload C X5 (pc' := 192) at_190 rfl rfl ?_
        refine g_goto C X5 at_192 (pc' := 208) (by decide) (by decide) ?_
        refine g_dstore C X5 (pc' := 210) at_208 (x := d2) rfl (l' := #[.val (.int p0), .val (.int p1), .val (.int p2), .val (.int p3), .val (.int p4), .val (.int p5), .val (.int dense), .val (.int (1 : Int32)), .val (.int len), .val (.int rows), .val (.ref bu), .val (.int ii), .val (.int jj), .val (.int mm), .val (.double d1), .second, .val (.double d2), .second, .val (.ref pr), .val (.ref rb), .val (.double d1), .second, .val (.double d2), .second]) rfl rfl ?_
        refine g_aload C X5 (pc' := 212) at_210 rfl rfl rfl ?_
        refine g_iload C X5 (pc' := 214) at_212 rfl rfl ?_
        refine g_daload C X5 (pc' := 215) e5 AP h_jj.1 h_jj.2 jj.toNatClampNeg rfl (by rw [l2_get _ _ _ _ _ _ _ hii hjj, if_pos rfl]) at_214 rfl ?_
        refine g_dload C X5 (pc' := 217) at_215 rfl rfl ?_
        refine g_dcmpV C X5 at_217 (v := (0 : Int32)) ((dcmp_cmpI D_d2 D_d2 _).trans (cmpI_self _)) rfl ?_
        refine g_ifN C X5 at_218 (by decide) rfl ?_
        refine g_aload C X5 (pc' := 223) at_221 rfl rfl rfl ?_
        refine g_iload C X5 (pc' := 225) at_223 rfl rfl ?_
        refine g_daload C X5 (pc' := 226) e5 AP h_ii.1 h_ii.2 ii.toNatClampNeg rfl (by rw [l2_get _ _ _ _ _ _ _ hii hjj, if_neg (by rw [tn, tn]; omega), if_pos rfl]) at_225 rfl ?_
        refine g_dload C X5 (pc' := 228) at_226 rfl rfl ?_
        refine g_dcmpV C X5 at_228 (v := (0 : Int32)) ((dcmp_cmpI D_d1 D_d1 _).trans (cmpI_self _)) rfl ?_
        refine g_ifN C X5 at_229 (by decide) rfl ?_
        refine g_aload C X5 (pc' := 234) at_232 rfl rfl rfl ?_
        refine g_iload C X5 (pc' := 236) at_234 rfl rfl ?_
        refine g_daload C X5 (pc' := 237) e5 AP h_mm.1 h_mm.2 mm.toNatClampNeg rfl (by rw [l2_get _ _ _ _ _ _ _ hii hjj, if_pos (by rw [tn, tn]; omega)]) at_236 rfl ?_
        refine g_dload C X5 (pc' := 239) at_237 rfl rfl ?_
        refine g_dcmpV C X5 at_239 (v := (0 : Int32)) ((dcmp_cmpI D_d2 D_d2 _).trans (cmpI_self _)) rfl ?_
        refine g_ifN C X5 at_240 (by decide) rfl ?_
        refine g_iconst C X5 (pc' := 244) at_243 (v := (1 : Int32)) (by decide) rfl ?_
        refine g_goto C X5 at_244 (pc' := 248) (by decide) (by decide) ?_
        exact g_zreturnW C X5 S3 e5 Y3 at_248 (w := 1) (by decide) ⟨rfl, N3⟩ (by decide) (by decide)
    · have c171 : ii.toInt = jj.toInt := Decidable.not_not.mp c171
      refine g_dload C X5 (pc' := 176) at_174 rfl rfl ?_
      refine g_goto C X5 at_176 (pc' := 181) (by decide) (by decide) ?_
      refine g_dstore C X5 (pc' := 183) at_181 (x := d2) rfl (l' := #[.val (.int p0), .val (.int p1), .val (.int p2), .val (.int p3), .val (.int p4), .val (.int p5), .val (.int dense), .val (.int (1 : Int32)), .val (.int len), .val (.int rows), .val (.ref bu), .val (.int ii), .val (.int jj), .val (.int mm), .val (.double d1), .second, .val (.double d2), .second, .val (.ref pr), .val (.ref rb), .val (.double d2), .second, .unset, .unset]) rfl rfl ?_
      refine g_iload C X5 (pc' := 185) at_183 rfl rfl ?_
      refine g_iload C X5 (pc' := 187) at_185 rfl rfl ?_
      refine g_icmp C X5 at_187 (pc' := 195) (pc'' := 190) (by decide) (by decide) rfl (fun c187 => ?_) (fun c187 => ?_)
      · have c187 : ¬ (mm.toInt = jj.toInt) := c187
        refine g_iload C X5 (pc' := 197) at_195 rfl rfl ?_
        refine g_iload C X5 (pc' := 199) at_197 rfl rfl ?_
        refine g_icmp C X5 at_199 (pc' := 207) (pc'' := 202) (by decide) (by decide) rfl (fun c199 => ?_) (fun c199 => ?_)
        · have c199 : ¬ (mm.toInt = ii.toInt) := c199
          refine g_dconst0 C X5 (pc' := 208) at_207 rfl rfl ?_
          rw [kk_118]
          refine g_dstore C X5 (pc' := 210) at_208 (x := (0 : UInt64)) rfl (l' := #[.val (.int p0), .val (.int p1), .val (.int p2), .val (.int p3), .val (.int p4), .val (.int p5), .val (.int dense), .val (.int (1 : Int32)), .val (.int len), .val (.int rows), .val (.ref bu), .val (.int ii), .val (.int jj), .val (.int mm), .val (.double d1), .second, .val (.double d2), .second, .val (.ref pr), .val (.ref rb), .val (.double d2), .second, .val (.double (0 : UInt64)), .second]) rfl rfl ?_
          refine g_aload C X5 (pc' := 212) at_210 rfl rfl rfl ?_
          refine g_iload C X5 (pc' := 214) at_212 rfl rfl ?_
          refine g_daload C X5 (pc' := 215) e5 AP h_jj.1 h_jj.2 jj.toNatClampNeg rfl (by rw [l2_get _ _ _ _ _ _ _ hii hjj, if_pos rfl]) at_214 rfl ?_
          refine g_dload C X5 (pc' := 217) at_215 rfl rfl ?_
          refine g_dcmpV C X5 at_217 (v := (0 : Int32)) ((dcmp_cmpI D_d2 D_d2 _).trans (cmpI_self _)) rfl ?_
          refine g_ifN C X5 at_218 (by decide) rfl ?_
          refine g_aload C X5 (pc' := 223) at_221 rfl rfl rfl ?_
          refine g_iload C X5 (pc' := 225) at_223 rfl rfl ?_
          refine g_daload C X5 (pc' := 226) e5 AP h_ii.1 h_ii.2 ii.toNatClampNeg rfl (by rw [l2_get _ _ _ _ _ _ _ hii hjj, if_pos (by rw [tn, tn]; omega)]) at_225 rfl ?_
          refine g_dload C X5 (pc' := 228) at_226 rfl rfl ?_
          refine g_dcmpV C X5 at_228 (v := (0 : Int32)) ((dcmp_cmpI D_d2 D_d2 _).trans (cmpI_self _)) rfl ?_
          refine g_ifN C X5 at_229 (by decide) rfl ?_
          refine g_aload C X5 (pc' := 234) at_232 rfl rfl rfl ?_
          refine g_iload C X5 (pc' := 236) at_234 rfl rfl ?_
          refine g_daload C X5 (pc' := 237) e5 AP h_mm.1 h_mm.2 mm.toNatClampNeg rfl (by rw [l2_get _ _ _ _ _ _ _ hii hjj, if_neg (by rw [tn, tn]; omega), if_neg (by rw [tn, tn]; omega)]) at_236 rfl ?_
          refine g_dload C X5 (pc' := 239) at_237 rfl rfl ?_
          refine g_dcmpV C X5 (pc' := 240) at_239 (v := (0 : Int32)) kk_119 rfl ?_
          refine g_ifN C X5 at_240 (by decide) rfl ?_
          refine g_iconst C X5 (pc' := 244) at_243 (v := (1 : Int32)) (by decide) rfl ?_
          refine g_goto C X5 at_244 (pc' := 248) (by decide) (by decide) ?_
          exact g_zreturnW C X5 S3 e5 Y3 at_248 (w := 1) (by decide) ⟨rfl, N3⟩ (by decide) (by decide)
        · have c199 : mm.toInt = ii.toInt := Decidable.not_not.mp c199
          refine g_dload C X5 (pc' := 204) at_202 rfl rfl ?_
          refine g_goto C X5 at_204 (pc' := 208) (by decide) (by decide) ?_
          refine g_dstore C X5 (pc' := 210) at_208 (x := d1) rfl (l' := #[.val (.int p0), .val (.int p1), .val (.int p2), .val (.int p3), .val (.int p4), .val (.int p5), .val (.int dense), .val (.int (1 : Int32)), .val (.int len), .val (.int rows), .val (.ref bu), .val (.int ii), .val (.int jj), .val (.int mm), .val (.double d1), .second, .val (.double d2), .second, .val (.ref pr), .val (.ref rb), .val (.double d2), .second, .val (.double d1), .second]) rfl rfl ?_
          refine g_aload C X5 (pc' := 212) at_210 rfl rfl rfl ?_
          refine g_iload C X5 (pc' := 214) at_212 rfl rfl ?_
          refine g_daload C X5 (pc' := 215) e5 AP h_jj.1 h_jj.2 jj.toNatClampNeg rfl (by rw [l2_get _ _ _ _ _ _ _ hii hjj, if_pos rfl]) at_214 rfl ?_
          refine g_dload C X5 (pc' := 217) at_215 rfl rfl ?_
          refine g_dcmpV C X5 at_217 (v := (0 : Int32)) ((dcmp_cmpI D_d2 D_d2 _).trans (cmpI_self _)) rfl ?_
          refine g_ifN C X5 at_218 (by decide) rfl ?_
          refine g_aload C X5 (pc' := 223) at_221 rfl rfl rfl ?_
          refine g_iload C X5 (pc' := 225) at_223 rfl rfl ?_
          refine g_daload C X5 (pc' := 226) e5 AP h_ii.1 h_ii.2 ii.toNatClampNeg rfl (by rw [l2_get _ _ _ _ _ _ _ hii hjj, if_pos (by rw [tn, tn]; omega)]) at_225 rfl ?_
          refine g_dload C X5 (pc' := 228) at_226 rfl rfl ?_
          refine g_dcmpV C X5 at_228 (v := (0 : Int32)) ((dcmp_cmpI D_d2 D_d2 _).trans (cmpI_self _)) rfl ?_
          refine g_ifN C X5 at_229 (by decide) rfl ?_
          refine g_aload C X5 (pc' := 234) at_232 rfl rfl rfl ?_
          refine g_iload C X5 (pc' := 236) at_234 rfl rfl ?_
          refine g_daload C X5 (pc' := 237) e5 AP h_mm.1 h_mm.2 mm.toNatClampNeg rfl (by rw [l2_get _ _ _ _ _ _ _ hii hjj, if_neg (by rw [tn, tn]; omega), if_pos (by rw [tn, tn]; omega)]) at_236 rfl ?_
          refine g_dload C X5 (pc' := 239) at_237 rfl rfl ?_
          refine g_dcmpV C X5 at_239 (v := (0 : Int32)) ((dcmp_cmpI D_d1 D_d1 _).trans (cmpI_self _)) rfl ?_
          refine g_ifN C X5 at_240 (by decide) rfl ?_
          refine g_iconst C X5 (pc' := 244) at_243 (v := (1 : Int32)) (by decide) rfl ?_
          refine g_goto C X5 at_244 (pc' := 248) (by decide) (by decide) ?_
          exact g_zreturnW C X5 S3 e5 Y3 at_248 (w := 1) (by decide) ⟨rfl, N3⟩ (by decide) (by decide)
      · have c187 : mm.toInt = jj.toInt := Decidable.not_not.mp c187
        refine g_dload C X5 (pc' := 192) at_190 rfl rfl ?_
        refine g_goto C X5 at_192 (pc' := 208) (by decide) (by decide) ?_
        refine g_dstore C X5 (pc' := 210) at_208 (x := d2) rfl (l' := #[.val (.int p0), .val (.int p1), .val (.int p2), .val (.int p3), .val (.int p4), .val (.int p5), .val (.int dense), .val (.int (1 : Int32)), .val (.int len), .val (.int rows), .val (.ref bu), .val (.int ii), .val (.int jj), .val (.int mm), .val (.double d1), .second, .val (.double d2), .second, .val (.ref pr), .val (.ref rb), .val (.double d2), .second, .val (.double d2), .second]) rfl rfl ?_
        refine g_aload C X5 (pc' := 212) at_210 rfl rfl rfl ?_
        refine g_iload C X5 (pc' := 214) at_212 rfl rfl ?_
        refine g_daload C X5 (pc' := 215) e5 AP h_jj.1 h_jj.2 jj.toNatClampNeg rfl (by rw [l2_get _ _ _ _ _ _ _ hii hjj, if_pos rfl]) at_214 rfl ?_
        refine g_dload C X5 (pc' := 217) at_215 rfl rfl ?_
        refine g_dcmpV C X5 at_217 (v := (0 : Int32)) ((dcmp_cmpI D_d2 D_d2 _).trans (cmpI_self _)) rfl ?_
        refine g_ifN C X5 at_218 (by decide) rfl ?_
        refine g_aload C X5 (pc' := 223) at_221 rfl rfl rfl ?_
        refine g_iload C X5 (pc' := 225) at_223 rfl rfl ?_
        refine g_daload C X5 (pc' := 226) e5 AP h_ii.1 h_ii.2 ii.toNatClampNeg rfl (by rw [l2_get _ _ _ _ _ _ _ hii hjj, if_pos (by rw [tn, tn]; omega)]) at_225 rfl ?_
        refine g_dload C X5 (pc' := 228) at_226 rfl rfl ?_
        refine g_dcmpV C X5 at_228 (v := (0 : Int32)) ((dcmp_cmpI D_d2 D_d2 _).trans (cmpI_self _)) rfl ?_
        refine g_ifN C X5 at_229 (by decide) rfl ?_
        refine g_aload C X5 (pc' := 234) at_232 rfl rfl rfl ?_
        refine g_iload C X5 (pc' := 236) at_234 rfl rfl ?_
        refine g_daload C X5 (pc' := 237) e5 AP h_mm.1 h_mm.2 mm.toNatClampNeg rfl (by rw [l2_get _ _ _ _ _ _ _ hii hjj, if_pos (by rw [tn, tn]; omega)]) at_236 rfl ?_
        refine g_dload C X5 (pc' := 239) at_237 rfl rfl ?_
        refine g_dcmpV C X5 at_239 (v := (0 : Int32)) ((dcmp_cmpI D_d2 D_d2 _).trans (cmpI_self _)) rfl ?_
        refine g_ifN C X5 at_240 (by decide) rfl ?_
        refine g_iconst C X5 (pc' := 244) at_243 (v := (1 : Int32)) (by decide) rfl ?_
        refine g_goto C X5 at_244 (pc' := 248) (by decide) (by decide) ?_
        exact g_zreturnW C X5 S3 e5 Y3 at_248 (w := 1) (by decide) ⟨rfl, N3⟩ (by decide) (by decide)
set_option maxRecDepth 65536 in
set_option maxHeartbeats 40000000 in
theorem law (l : Launch) (Z : State) (a0 : Array Value) (hw : ∀ d ∈ tables_1, d.before a0 Z = true) (p0 p1 p2 p3 p4 p5 : Int32) (h : Heap) (n0 : Nat) (Z0 : n0 ≤ h.size) (wS : ∀ a ∈ Bundle.stringAtoms, a.before a0 Z = true) (hEL : EW Z a0 consts_1) (cs : Int32) (dg1 dg2 : Addr) (hcs : ¬ (cs.toInt = 0)) (l1 : dg1 < n0) (l2 : dg2 < n0) (SP0 : SP Z h cs dg1 dg2) :
    ConV l Z consts_1 x code maxLocals ret room_1 #[.int p0, .int p1, .int p2, .int p3, .int p4, .int p5] h (fun v _ L => v = some (.int 1) ∧ Fr n0 L) := by
  refine conV_of_go pn0 (fun m => ef0 m p0 p1 p2 p3 p4 p5) ?_
  intro p e s m below meth c T0 C X0 e0 HC
  refine g_iloadN C X0 (pc' := 1) at_0 rfl rfl ?_
  refine g_bipush C X0 (pc' := 3) at_1 (v := (31 : Int32)) (by decide) rfl ?_
  refine g_iand C X0 (pc' := 4) at_3 rfl ?_
  obtain ⟨dense, e_dense⟩ : ∃ z : Int32, z = p0 &&& (31 : Int32) := ⟨_, rfl⟩
  have b_dense : 0 ≤ dense.toInt ∧ dense.toInt ≤ 31 := by rw [e_dense]; exact (own_andn p0 (m := (31 : Int32)) (n := 31) (by decide) (by decide))
  refine g_istore C X0 (pc' := 6) at_4 (x := dense) e_dense (l' := #[.val (.int p0), .val (.int p1), .val (.int p2), .val (.int p3), .val (.int p4), .val (.int p5), .val (.int dense), .unset, .unset, .unset, .unset, .unset, .unset, .unset, .unset, .unset, .unset, .unset, .unset, .unset, .unset, .unset, .unset, .unset]) rfl rfl ?_
  have hdn : 0 ≤ dense.toInt ∧ dense.toInt ≤ 31 := by rw [e_dense]; exact own_andn p0 (m := (31 : Int32)) (n := 31) (by decide) (by decide)
  refine g_iloadN C X0 (pc' := 7) at_6 rfl rfl ?_
  refine g_iconst C X0 (pc' := 8) at_7 (v := (5 : Int32)) (by decide) rfl ?_
  refine g_iushr C X0 (pc' := 9) at_8 rfl ?_
  refine g_iconst C X0 (pc' := 10) at_9 (v := (1 : Int32)) (by decide) rfl ?_
  refine g_iand C X0 (pc' := 11) at_10 rfl ?_
  refine g_if C X0 at_11 (pc' := 19) (pc'' := 14) (by decide) (by decide) rfl (fun c11 => ?_) (fun c11 => ?_)
  · have c11 : ¬ (((XT.ushr p0 (5 : Int32)) &&& (1 : Int32)).toInt = 0) := c11
    refine g_iconst C X0 (pc' := 20) at_19 (v := (1 : Int32)) (by decide) rfl ?_
    refine g_goto C X0 at_20 (pc' := 24) (by decide) (by decide) ?_
    refine g_istore C X0 (pc' := 26) at_24 (x := (1 : Int32)) rfl (l' := #[.val (.int p0), .val (.int p1), .val (.int p2), .val (.int p3), .val (.int p4), .val (.int p5), .val (.int dense), .val (.int (1 : Int32)), .unset, .unset, .unset, .unset, .unset, .unset, .unset, .unset, .unset, .unset, .unset, .unset, .unset, .unset, .unset, .unset]) rfl rfl ?_
    refine g_iloadN C X0 (pc' := 27) at_26 rfl rfl ?_
    refine g_bipush C X0 (pc' := 29) at_27 (v := (6 : Int32)) (by decide) rfl ?_
    refine g_iushr C X0 (pc' := 30) at_29 rfl ?_
    refine g_bipush C X0 (pc' := 32) at_30 (v := (15 : Int32)) (by decide) rfl ?_
    refine g_iand C X0 (pc' := 33) at_32 rfl ?_
    refine g_iconst C X0 (pc' := 34) at_33 (v := (1 : Int32)) (by decide) rfl ?_
    refine g_iadd C X0 (pc' := 35) at_34 rfl ?_
    obtain ⟨len, e_len⟩ : ∃ z : Int32, z = ((XT.ushr p0 (6 : Int32)) &&& (15 : Int32)) + (1 : Int32) := ⟨_, rfl⟩
    refine g_istore C X0 (pc' := 37) at_35 (x := len) e_len (l' := #[.val (.int p0), .val (.int p1), .val (.int p2), .val (.int p3), .val (.int p4), .val (.int p5), .val (.int dense), .val (.int (1 : Int32)), .val (.int len), .unset, .unset, .unset, .unset, .unset, .unset, .unset, .unset, .unset, .unset, .unset, .unset, .unset, .unset, .unset]) rfl rfl ?_
    have hln : 1 ≤ len.toInt ∧ len.toInt ≤ 16 := by
      have q1 := own_andn (XT.ushr p0 (6 : Int32)) (m := (15 : Int32)) (n := 15) (by decide) (by decide)
      have q2 : (1 : Int32).toInt = 1 := by decide
      rw [e_len, own_iadd (by rw [q2]; omega) (by rw [q2]; omega), q2]; omega
    refine g_iload C X0 (pc' := 39) at_37 rfl rfl ?_
    refine g_ifN C X0 at_39 (by decide) rfl ?_
    refine g_iload C X0 (pc' := 44) at_42 rfl rfl ?_
    refine g_iload C X0 (pc' := 46) at_44 rfl rfl ?_
    refine g_iadd C X0 (pc' := 47) at_46 rfl ?_
    refine g_goto C X0 at_47 (pc' := 52) (by decide) (by decide) ?_
    obtain ⟨rows, e_rows⟩ : ∃ z : Int32, z = dense + len := ⟨_, rfl⟩
    refine g_istore C X0 (pc' := 54) at_52 (x := rows) e_rows (l' := #[.val (.int p0), .val (.int p1), .val (.int p2), .val (.int p3), .val (.int p4), .val (.int p5), .val (.int dense), .val (.int (1 : Int32)), .val (.int len), .val (.int rows), .unset, .unset, .unset, .unset, .unset, .unset, .unset, .unset, .unset, .unset, .unset, .unset, .unset, .unset]) rfl rfl ?_
    have hrw : (dense + len).toInt = dense.toInt + len.toInt := own_iadd (by omega) (by omega)
    have erw : rows.toInt = dense.toInt + len.toInt := by rw [e_rows]; exact hrw
    refine g_new C X0 (hw _ (List.mem_of_getElem? (i := 0) rfl)) (hw _ (List.mem_of_getElem? (i := 1) rfl)) (hw _ (List.mem_of_getElem? (i := 2) rfl)) e0 at_54 (by decide) (by decide) rfl ?_
    intro T1 h1 a1 g1 X1 e1 E1 A1 D1
    have z_a1 : n0 ≤ a1 := by rw [g1]; exact Z0
    have Z1 : n0 ≤ h1.size := Nat.le_trans Z0 E1.1
    have F1_1 : Fld Z h1 a1 "com/example/fleetloom/fleetloom/ChainedProgramme$Builder" "chainStart" "[I" .null := D1 (Or.inl (hw _ (List.mem_of_getElem? (i := 11) rfl))) (ty := (.array .int)) (by decide)
    have F1_2 : Fld Z h1 a1 "com/example/fleetloom/fleetloom/ChainedProgramme$Builder" "columnStart" "[I" .null := D1 (Or.inl (hw _ (List.mem_of_getElem? (i := 13) rfl))) (ty := (.array .int)) (by decide)
    have F1_3 : Fld Z h1 a1 "com/example/fleetloom/fleetloom/ChainedProgramme$Builder" "cost" "[D" .null := D1 (Or.inl (hw _ (List.mem_of_getElem? (i := 16) rfl))) (ty := (.array .double)) (by decide)
    have F1_4 : Fld Z h1 a1 "com/example/fleetloom/fleetloom/ChainedProgramme$Builder" "entryRow" "[I" .null := D1 (Or.inl (hw _ (List.mem_of_getElem? (i := 18) rfl))) (ty := (.array .int)) (by decide)
    have F1_5 : Fld Z h1 a1 "com/example/fleetloom/fleetloom/ChainedProgramme$Builder" "entryValue" "[D" .null := D1 (Or.inl (hw _ (List.mem_of_getElem? (i := 20) rfl))) (ty := (.array .double)) (by decide)
    have F1_6 : Fld Z h1 a1 "com/example/fleetloom/fleetloom/ChainedProgramme$Builder" "denseRows" "I" (.int (0 : Int32)) := D1 (Or.inr (hw _ (List.mem_of_getElem? (i := 22) rfl))) (ty := .int) (by decide)
    have F1_7 : Fld Z h1 a1 "com/example/fleetloom/fleetloom/ChainedProgramme$Builder" "rows" "I" (.int (0 : Int32)) := D1 (Or.inl (hw _ (List.mem_of_getElem? (i := 24) rfl))) (ty := .int) (by decide)
    have F1_8 : Fld Z h1 a1 "com/example/fleetloom/fleetloom/ChainedProgramme$Builder" "rhs" "[D" .null := D1 (Or.inl (hw _ (List.mem_of_getElem? (i := 30) rfl))) (ty := (.array .double)) (by decide)
    have F1_9 : Fld Z h1 a1 "com/example/fleetloom/fleetloom/ChainedProgramme$Builder" "columns" "I" (.int (0 : Int32)) := D1 (Or.inl (hw _ (List.mem_of_getElem? (i := 37) rfl))) (ty := .int) (by decide)
    have F1_10 : Fld Z h1 a1 "com/example/fleetloom/fleetloom/ChainedProgramme$Builder" "chains" "I" (.int (0 : Int32)) := D1 (Or.inl (hw _ (List.mem_of_getElem? (i := 39) rfl))) (ty := .int) (by decide)
    have F1_11 : Fld Z h1 a1 "com/example/fleetloom/fleetloom/ChainedProgramme$Builder" "entries" "I" (.int (0 : Int32)) := D1 (Or.inl (hw _ (List.mem_of_getElem? (i := 104) rfl))) (ty := .int) (by decide)
    refine g_dup C X1 (pc' := 58) at_57 rfl rfl ?_
    refine g_iload C X1 (pc' := 60) at_58 rfl rfl ?_
    refine g_callI C X1 (c_bi l Z a0 hw h1 n0 Z1 a1 dense z_a1 hdn A1 F1_6 F1_7 F1_10 F1_9 F1_11 F1_1 F1_2 F1_4 F1_5 F1_3 F1_8) rfl (hw _ (List.mem_of_getElem? (i := 3) rfl)) (hw _ (List.mem_of_getElem? (i := 4) rfl)) (hw _ (List.mem_of_getElem? (i := 2) rfl)) (hw _ (List.mem_of_getElem? (i := 5) rfl)) (by decide) e1 at_60 rfl kk_51 a1 [(.int dense)] [(.ref a1)] rfl rfl rfl 1 rfl (by decide) (by decide) (by decide) (by decide) rfl ?_
    rintro _ T2 L2 X2 ⟨rfl, M2, SK2, CK2, zz, hzz, B0⟩
    have S2 := SK2 cs dg1 dg2 l1 l2 (SP0.ext E1)
    have H2 := (((CKeep.ext E1).trans CK2) consts_1 s.vm C.warm.alike HC).1
    have Z2 : n0 ≤ T2.heap.size := Nat.le_trans Z0 (((CKeep.ext E1).trans CK2) consts_1 s.vm C.warm.alike HC).2.1
    have N2 := Fr.app (Fr.nil n0) M2
    obtain ⟨h2, e2⟩ : ∃ z, T2.heap = z := ⟨_, rfl⟩
    rw [e2] at S2 H2 Z2 B0
    show Go p.tables e below _ T2 (mkF m 63 #[.val (.int p0), .val (.int p1), .val (.int p2), .val (.int p3), .val (.int p4), .val (.int p5), .val (.int dense), .val (.int (1 : Int32)), .val (.int len), .val (.int rows), .unset, .unset, .unset, .unset, .unset, .unset, .unset, .unset, .unset, .unset, .unset, .unset, .unset, .unset] [(.ref a1)])
    refine g_astore C X2 (pc' := 65) at_63 rfl (l' := #[.val (.int p0), .val (.int p1), .val (.int p2), .val (.int p3), .val (.int p4), .val (.int p5), .val (.int dense), .val (.int (1 : Int32)), .val (.int len), .val (.int rows), .val (.ref a1), .unset, .unset, .unset, .unset, .unset, .unset, .unset, .unset, .unset, .unset, .unset, .unset, .unset]) rfl rfl ?_
    refine g_iload C X2 (pc' := 67) at_65 rfl rfl ?_
    refine g_ifN C X2 at_67 (by decide) rfl ?_
    refine g_aload C X2 (pc' := 72) at_70 rfl rfl rfl ?_
    refine g_iload C X2 (pc' := 74) at_72 rfl rfl ?_
    have XBu := B0.exa
    refine g_callV C X2 (c_chain l Z a0 hw h2 n0 Z2 a1 dense len zz hdn hln hzz hrw B0) (hw _ (List.mem_of_getElem? (i := 31) rfl)) (hw _ (List.mem_of_getElem? (i := 32) rfl)) (hw _ (List.mem_of_getElem? (i := 34) rfl)) (hw _ (List.mem_of_getElem? (i := 33) rfl)) (hw _ (List.mem_of_getElem? (i := 2) rfl)) (hw _ (List.mem_of_getElem? (i := 35) rfl)) (by decide) e2 XBu at_74 rfl kk_69 [(.int len)] [] rfl rfl rfl 0 rfl (by decide) (by decide) (by decide) (by decide) rfl ?_
    rintro w3 T3 L3 X3 ⟨⟨r9, rfl⟩, M3, SK3, CK3, z2, hz2, B1⟩
    have S3 := SK3 cs dg1 dg2 l1 l2 S2
    have H3 := (CK3 consts_1 s.vm C.warm.alike H2).1
    have Z3 : n0 ≤ T3.heap.size := Nat.le_trans Z2 (CK3 consts_1 s.vm C.warm.alike H2).2.1
    have N3 := Fr.app N2 M3
    rw [← e_rows] at B1 hz2
    obtain ⟨h3, e3⟩ : ∃ z, T3.heap = z := ⟨_, rfl⟩
    rw [e3] at S3 H3 Z3 B1
    show Go p.tables e below _ T3 (mkF m 77 #[.val (.int p0), .val (.int p1), .val (.int p2), .val (.int p3), .val (.int p4), .val (.int p5), .val (.int dense), .val (.int (1 : Int32)), .val (.int len), .val (.int rows), .val (.ref a1), .unset, .unset, .unset, .unset, .unset, .unset, .unset, .unset, .unset, .unset, .unset, .unset, .unset] [(.int r9)])
    refine g_pop C X3 (pc' := 78) at_77 rfl rfl ?_
    have hrb : 1 ≤ rows.toInt ∧ rows.toInt ≤ 47 := by omega
    have hr0 : rows ≠ 0 := fun q => by
      have q2 : rows.toInt = (0 : Int32).toInt := congrArg _ q
      have q3 : (0 : Int32).toInt = 0 := by decide
      omega
    exact lawT1 l Z a0 hw h3 n0 Z3 wS hEL cs dg1 dg2 hcs l1 l2 C (X3.more (by decide) (by decide)) e3 N3 p0 p1 p2 p3 p4 p5 dense len rows a1 z2 (by omega) hrb (by omega) (by omega) hr0 H3 S3 B1
  · have c11 : ((XT.ushr p0 (5 : Int32)) &&& (1 : Int32)).toInt = 0 := Decidable.not_not.mp c11
    refine g_iload C X0 (pc' := 16) at_14 rfl rfl ?_
    refine g_if C X0 at_16 (pc' := 23) (pc'' := 19) (by decide) (by decide) rfl (fun c16 => ?_) (fun c16 => ?_)
    · have c16 : ¬ (dense.toInt = 0) := c16
      refine g_iconst C X0 (pc' := 24) at_23 (v := (0 : Int32)) (by decide) rfl ?_
      refine g_istore C X0 (pc' := 26) at_24 (x := (0 : Int32)) rfl (l' := #[.val (.int p0), .val (.int p1), .val (.int p2), .val (.int p3), .val (.int p4), .val (.int p5), .val (.int dense), .val (.int (0 : Int32)), .unset, .unset, .unset, .unset, .unset, .unset, .unset, .unset, .unset, .unset, .unset, .unset, .unset, .unset, .unset, .unset]) rfl rfl ?_
      refine g_iloadN C X0 (pc' := 27) at_26 rfl rfl ?_
      refine g_bipush C X0 (pc' := 29) at_27 (v := (6 : Int32)) (by decide) rfl ?_
      refine g_iushr C X0 (pc' := 30) at_29 rfl ?_
      refine g_bipush C X0 (pc' := 32) at_30 (v := (15 : Int32)) (by decide) rfl ?_
      refine g_iand C X0 (pc' := 33) at_32 rfl ?_
      refine g_iconst C X0 (pc' := 34) at_33 (v := (1 : Int32)) (by decide) rfl ?_
      refine g_iadd C X0 (pc' := 35) at_34 rfl ?_
      obtain ⟨len, e_len⟩ : ∃ z : Int32, z = ((XT.ushr p0 (6 : Int32)) &&& (15 : Int32)) + (1 : Int32) := ⟨_, rfl⟩
      refine g_istore C X0 (pc' := 37) at_35 (x := len) e_len (l' := #[.val (.int p0), .val (.int p1), .val (.int p2), .val (.int p3), .val (.int p4), .val (.int p5), .val (.int dense), .val (.int (0 : Int32)), .val (.int len), .unset, .unset, .unset, .unset, .unset, .unset, .unset, .unset, .unset, .unset, .unset, .unset, .unset, .unset, .unset]) rfl rfl ?_
      have hln : 1 ≤ len.toInt ∧ len.toInt ≤ 16 := by
        have q1 := own_andn (XT.ushr p0 (6 : Int32)) (m := (15 : Int32)) (n := 15) (by decide) (by decide)
        have q2 : (1 : Int32).toInt = 1 := by decide
        rw [e_len, own_iadd (by rw [q2]; omega) (by rw [q2]; omega), q2]; omega
      refine g_iload C X0 (pc' := 39) at_37 rfl rfl ?_
      refine g_ifY C X0 at_39 (pc' := 50) (by decide) (by decide) (by decide) ?_
      refine g_iload C X0 (pc' := 52) at_50 rfl rfl ?_
      refine g_istore C X0 (pc' := 54) at_52 (x := dense) rfl (l' := #[.val (.int p0), .val (.int p1), .val (.int p2), .val (.int p3), .val (.int p4), .val (.int p5), .val (.int dense), .val (.int (0 : Int32)), .val (.int len), .val (.int dense), .unset, .unset, .unset, .unset, .unset, .unset, .unset, .unset, .unset, .unset, .unset, .unset, .unset, .unset]) rfl rfl ?_
      refine g_new C X0 (hw _ (List.mem_of_getElem? (i := 0) rfl)) (hw _ (List.mem_of_getElem? (i := 1) rfl)) (hw _ (List.mem_of_getElem? (i := 2) rfl)) e0 at_54 (by decide) (by decide) rfl ?_
      intro T4 h4 a4 g4 X4 e4 E4 A4 D4
      have z_a4 : n0 ≤ a4 := by rw [g4]; exact Z0
      have Z4 : n0 ≤ h4.size := Nat.le_trans Z0 E4.1
      have F4_1 : Fld Z h4 a4 "com/example/fleetloom/fleetloom/ChainedProgramme$Builder" "chainStart" "[I" .null := D4 (Or.inl (hw _ (List.mem_of_getElem? (i := 11) rfl))) (ty := (.array .int)) (by decide)
      have F4_2 : Fld Z h4 a4 "com/example/fleetloom/fleetloom/ChainedProgramme$Builder" "columnStart" "[I" .null := D4 (Or.inl (hw _ (List.mem_of_getElem? (i := 13) rfl))) (ty := (.array .int)) (by decide)
      have F4_3 : Fld Z h4 a4 "com/example/fleetloom/fleetloom/ChainedProgramme$Builder" "cost" "[D" .null := D4 (Or.inl (hw _ (List.mem_of_getElem? (i := 16) rfl))) (ty := (.array .double)) (by decide)
      have F4_4 : Fld Z h4 a4 "com/example/fleetloom/fleetloom/ChainedProgramme$Builder" "entryRow" "[I" .null := D4 (Or.inl (hw _ (List.mem_of_getElem? (i := 18) rfl))) (ty := (.array .int)) (by decide)
      have F4_5 : Fld Z h4 a4 "com/example/fleetloom/fleetloom/ChainedProgramme$Builder" "entryValue" "[D" .null := D4 (Or.inl (hw _ (List.mem_of_getElem? (i := 20) rfl))) (ty := (.array .double)) (by decide)
      have F4_6 : Fld Z h4 a4 "com/example/fleetloom/fleetloom/ChainedProgramme$Builder" "denseRows" "I" (.int (0 : Int32)) := D4 (Or.inr (hw _ (List.mem_of_getElem? (i := 22) rfl))) (ty := .int) (by decide)
      have F4_7 : Fld Z h4 a4 "com/example/fleetloom/fleetloom/ChainedProgramme$Builder" "rows" "I" (.int (0 : Int32)) := D4 (Or.inl (hw _ (List.mem_of_getElem? (i := 24) rfl))) (ty := .int) (by decide)
      have F4_8 : Fld Z h4 a4 "com/example/fleetloom/fleetloom/ChainedProgramme$Builder" "rhs" "[D" .null := D4 (Or.inl (hw _ (List.mem_of_getElem? (i := 30) rfl))) (ty := (.array .double)) (by decide)
      have F4_9 : Fld Z h4 a4 "com/example/fleetloom/fleetloom/ChainedProgramme$Builder" "columns" "I" (.int (0 : Int32)) := D4 (Or.inl (hw _ (List.mem_of_getElem? (i := 37) rfl))) (ty := .int) (by decide)
      have F4_10 : Fld Z h4 a4 "com/example/fleetloom/fleetloom/ChainedProgramme$Builder" "chains" "I" (.int (0 : Int32)) := D4 (Or.inl (hw _ (List.mem_of_getElem? (i := 39) rfl))) (ty := .int) (by decide)
      have F4_11 : Fld Z h4 a4 "com/example/fleetloom/fleetloom/ChainedProgramme$Builder" "entries" "I" (.int (0 : Int32)) := D4 (Or.inl (hw _ (List.mem_of_getElem? (i := 104) rfl))) (ty := .int) (by decide)
      refine g_dup C X4 (pc' := 58) at_57 rfl rfl ?_
      refine g_iload C X4 (pc' := 60) at_58 rfl rfl ?_
      refine g_callI C X4 (c_bi l Z a0 hw h4 n0 Z4 a4 dense z_a4 hdn A4 F4_6 F4_7 F4_10 F4_9 F4_11 F4_1 F4_2 F4_4 F4_5 F4_3 F4_8) rfl (hw _ (List.mem_of_getElem? (i := 3) rfl)) (hw _ (List.mem_of_getElem? (i := 4) rfl)) (hw _ (List.mem_of_getElem? (i := 2) rfl)) (hw _ (List.mem_of_getElem? (i := 5) rfl)) (by decide) e4 at_60 rfl kk_51 a4 [(.int dense)] [(.ref a4)] rfl rfl rfl 1 rfl (by decide) (by decide) (by decide) (by decide) rfl ?_
      rintro _ T5 L5 X5 ⟨rfl, M5, SK5, CK5, zz, hzz, B0⟩
      have S5 := SK5 cs dg1 dg2 l1 l2 (SP0.ext E4)
      have H5 := (((CKeep.ext E4).trans CK5) consts_1 s.vm C.warm.alike HC).1
      have Z5 : n0 ≤ T5.heap.size := Nat.le_trans Z0 (((CKeep.ext E4).trans CK5) consts_1 s.vm C.warm.alike HC).2.1
      have N5 := Fr.app (Fr.nil n0) M5
      obtain ⟨h5, e5⟩ : ∃ z, T5.heap = z := ⟨_, rfl⟩
      rw [e5] at S5 H5 Z5 B0
      show Go p.tables e below _ T5 (mkF m 63 #[.val (.int p0), .val (.int p1), .val (.int p2), .val (.int p3), .val (.int p4), .val (.int p5), .val (.int dense), .val (.int (0 : Int32)), .val (.int len), .val (.int dense), .unset, .unset, .unset, .unset, .unset, .unset, .unset, .unset, .unset, .unset, .unset, .unset, .unset, .unset] [(.ref a4)])
      refine g_astore C X5 (pc' := 65) at_63 rfl (l' := #[.val (.int p0), .val (.int p1), .val (.int p2), .val (.int p3), .val (.int p4), .val (.int p5), .val (.int dense), .val (.int (0 : Int32)), .val (.int len), .val (.int dense), .val (.ref a4), .unset, .unset, .unset, .unset, .unset, .unset, .unset, .unset, .unset, .unset, .unset, .unset, .unset]) rfl rfl ?_
      refine g_iload C X5 (pc' := 67) at_65 rfl rfl ?_
      refine g_ifY C X5 at_67 (pc' := 78) (by decide) (by decide) (by decide) ?_
      have hrb : 1 ≤ dense.toInt ∧ dense.toInt ≤ 47 := by omega
      have hr0 : dense ≠ 0 := fun q => by
        have q2 : dense.toInt = (0 : Int32).toInt := congrArg _ q
        have q3 : (0 : Int32).toInt = 0 := by decide
        omega
      exact lawT0 l Z a0 hw h5 n0 Z5 wS hEL cs dg1 dg2 hcs l1 l2 C (X5.more (by decide) (by decide)) e5 N5 p0 p1 p2 p3 p4 p5 dense len dense a4 zz (by omega) hrb (by omega) (by omega) hr0 H5 S5 B0
    · have c16 : dense.toInt = 0 := Decidable.not_not.mp c16
      refine g_iconst C X0 (pc' := 20) at_19 (v := (1 : Int32)) (by decide) rfl ?_
      refine g_goto C X0 at_20 (pc' := 24) (by decide) (by decide) ?_
      refine g_istore C X0 (pc' := 26) at_24 (x := (1 : Int32)) rfl (l' := #[.val (.int p0), .val (.int p1), .val (.int p2), .val (.int p3), .val (.int p4), .val (.int p5), .val (.int dense), .val (.int (1 : Int32)), .unset, .unset, .unset, .unset, .unset, .unset, .unset, .unset, .unset, .unset, .unset, .unset, .unset, .unset, .unset, .unset]) rfl rfl ?_
      refine g_iloadN C X0 (pc' := 27) at_26 rfl rfl ?_
      refine g_bipush C X0 (pc' := 29) at_27 (v := (6 : Int32)) (by decide) rfl ?_
      refine g_iushr C X0 (pc' := 30) at_29 rfl ?_
      refine g_bipush C X0 (pc' := 32) at_30 (v := (15 : Int32)) (by decide) rfl ?_
      refine g_iand C X0 (pc' := 33) at_32 rfl ?_
      refine g_iconst C X0 (pc' := 34) at_33 (v := (1 : Int32)) (by decide) rfl ?_
      refine g_iadd C X0 (pc' := 35) at_34 rfl ?_
      obtain ⟨len, e_len⟩ : ∃ z : Int32, z = ((XT.ushr p0 (6 : Int32)) &&& (15 : Int32)) + (1 : Int32) := ⟨_, rfl⟩
      refine g_istore C X0 (pc' := 37) at_35 (x := len) e_len (l' := #[.val (.int p0), .val (.int p1), .val (.int p2), .val (.int p3), .val (.int p4), .val (.int p5), .val (.int dense), .val (.int (1 : Int32)), .val (.int len), .unset, .unset, .unset, .unset, .unset, .unset, .unset, .unset, .unset, .unset, .unset, .unset, .unset, .unset, .unset]) rfl rfl ?_
      have hln : 1 ≤ len.toInt ∧ len.toInt ≤ 16 := by
        have q1 := own_andn (XT.ushr p0 (6 : Int32)) (m := (15 : Int32)) (n := 15) (by decide) (by decide)
        have q2 : (1 : Int32).toInt = 1 := by decide
        rw [e_len, own_iadd (by rw [q2]; omega) (by rw [q2]; omega), q2]; omega
      refine g_iload C X0 (pc' := 39) at_37 rfl rfl ?_
      refine g_ifN C X0 at_39 (by decide) rfl ?_
      refine g_iload C X0 (pc' := 44) at_42 rfl rfl ?_
      refine g_iload C X0 (pc' := 46) at_44 rfl rfl ?_
      refine g_iadd C X0 (pc' := 47) at_46 rfl ?_
      refine g_goto C X0 at_47 (pc' := 52) (by decide) (by decide) ?_
      obtain ⟨rows, e_rows⟩ : ∃ z : Int32, z = dense + len := ⟨_, rfl⟩
      refine g_istore C X0 (pc' := 54) at_52 (x := rows) e_rows (l' := #[.val (.int p0), .val (.int p1), .val (.int p2), .val (.int p3), .val (.int p4), .val (.int p5), .val (.int dense), .val (.int (1 : Int32)), .val (.int len), .val (.int rows), .unset, .unset, .unset, .unset, .unset, .unset, .unset, .unset, .unset, .unset, .unset, .unset, .unset, .unset]) rfl rfl ?_
      have hrw : (dense + len).toInt = dense.toInt + len.toInt := own_iadd (by omega) (by omega)
      have erw : rows.toInt = dense.toInt + len.toInt := by rw [e_rows]; exact hrw
      refine g_new C X0 (hw _ (List.mem_of_getElem? (i := 0) rfl)) (hw _ (List.mem_of_getElem? (i := 1) rfl)) (hw _ (List.mem_of_getElem? (i := 2) rfl)) e0 at_54 (by decide) (by decide) rfl ?_
      intro T6 h6 a6 g6 X6 e6 E6 A6 D6
      have z_a6 : n0 ≤ a6 := by rw [g6]; exact Z0
      have Z6 : n0 ≤ h6.size := Nat.le_trans Z0 E6.1
      have F6_1 : Fld Z h6 a6 "com/example/fleetloom/fleetloom/ChainedProgramme$Builder" "chainStart" "[I" .null := D6 (Or.inl (hw _ (List.mem_of_getElem? (i := 11) rfl))) (ty := (.array .int)) (by decide)
      have F6_2 : Fld Z h6 a6 "com/example/fleetloom/fleetloom/ChainedProgramme$Builder" "columnStart" "[I" .null := D6 (Or.inl (hw _ (List.mem_of_getElem? (i := 13) rfl))) (ty := (.array .int)) (by decide)
      have F6_3 : Fld Z h6 a6 "com/example/fleetloom/fleetloom/ChainedProgramme$Builder" "cost" "[D" .null := D6 (Or.inl (hw _ (List.mem_of_getElem? (i := 16) rfl))) (ty := (.array .double)) (by decide)
      have F6_4 : Fld Z h6 a6 "com/example/fleetloom/fleetloom/ChainedProgramme$Builder" "entryRow" "[I" .null := D6 (Or.inl (hw _ (List.mem_of_getElem? (i := 18) rfl))) (ty := (.array .int)) (by decide)
      have F6_5 : Fld Z h6 a6 "com/example/fleetloom/fleetloom/ChainedProgramme$Builder" "entryValue" "[D" .null := D6 (Or.inl (hw _ (List.mem_of_getElem? (i := 20) rfl))) (ty := (.array .double)) (by decide)
      have F6_6 : Fld Z h6 a6 "com/example/fleetloom/fleetloom/ChainedProgramme$Builder" "denseRows" "I" (.int (0 : Int32)) := D6 (Or.inr (hw _ (List.mem_of_getElem? (i := 22) rfl))) (ty := .int) (by decide)
      have F6_7 : Fld Z h6 a6 "com/example/fleetloom/fleetloom/ChainedProgramme$Builder" "rows" "I" (.int (0 : Int32)) := D6 (Or.inl (hw _ (List.mem_of_getElem? (i := 24) rfl))) (ty := .int) (by decide)
      have F6_8 : Fld Z h6 a6 "com/example/fleetloom/fleetloom/ChainedProgramme$Builder" "rhs" "[D" .null := D6 (Or.inl (hw _ (List.mem_of_getElem? (i := 30) rfl))) (ty := (.array .double)) (by decide)
      have F6_9 : Fld Z h6 a6 "com/example/fleetloom/fleetloom/ChainedProgramme$Builder" "columns" "I" (.int (0 : Int32)) := D6 (Or.inl (hw _ (List.mem_of_getElem? (i := 37) rfl))) (ty := .int) (by decide)
      have F6_10 : Fld Z h6 a6 "com/example/fleetloom/fleetloom/ChainedProgramme$Builder" "chains" "I" (.int (0 : Int32)) := D6 (Or.inl (hw _ (List.mem_of_getElem? (i := 39) rfl))) (ty := .int) (by decide)
      have F6_11 : Fld Z h6 a6 "com/example/fleetloom/fleetloom/ChainedProgramme$Builder" "entries" "I" (.int (0 : Int32)) := D6 (Or.inl (hw _ (List.mem_of_getElem? (i := 104) rfl))) (ty := .int) (by decide)
      refine g_dup C X6 (pc' := 58) at_57 rfl rfl ?_
      refine g_iload C X6 (pc' := 60) at_58 rfl rfl ?_
      refine g_callI C X6 (c_bi l Z a0 hw h6 n0 Z6 a6 dense z_a6 hdn A6 F6_6 F6_7 F6_10 F6_9 F6_11 F6_1 F6_2 F6_4 F6_5 F6_3 F6_8) rfl (hw _ (List.mem_of_getElem? (i := 3) rfl)) (hw _ (List.mem_of_getElem? (i := 4) rfl)) (hw _ (List.mem_of_getElem? (i := 2) rfl)) (hw _ (List.mem_of_getElem? (i := 5) rfl)) (by decide) e6 at_60 rfl kk_51 a6 [(.int dense)] [(.ref a6)] rfl rfl rfl 1 rfl (by decide) (by decide) (by decide) (by decide) rfl ?_
      rintro _ T7 L7 X7 ⟨rfl, M7, SK7, CK7, zz, hzz, B0⟩
      have S7 := SK7 cs dg1 dg2 l1 l2 (SP0.ext E6)
      have H7 := (((CKeep.ext E6).trans CK7) consts_1 s.vm C.warm.alike HC).1
      have Z7 : n0 ≤ T7.heap.size := Nat.le_trans Z0 (((CKeep.ext E6).trans CK7) consts_1 s.vm C.warm.alike HC).2.1
      have N7 := Fr.app (Fr.nil n0) M7
      obtain ⟨h7, e7⟩ : ∃ z, T7.heap = z := ⟨_, rfl⟩
      rw [e7] at S7 H7 Z7 B0
      show Go p.tables e below _ T7 (mkF m 63 #[.val (.int p0), .val (.int p1), .val (.int p2), .val (.int p3), .val (.int p4), .val (.int p5), .val (.int dense), .val (.int (1 : Int32)), .val (.int len), .val (.int rows), .unset, .unset, .unset, .unset, .unset, .unset, .unset, .unset, .unset, .unset, .unset, .unset, .unset, .unset] [(.ref a6)])
      refine g_astore C X7 (pc' := 65) at_63 rfl (l' := #[.val (.int p0), .val (.int p1), .val (.int p2), .val (.int p3), .val (.int p4), .val (.int p5), .val (.int dense), .val (.int (1 : Int32)), .val (.int len), .val (.int rows), .val (.ref a6), .unset, .unset, .unset, .unset, .unset, .unset, .unset, .unset, .unset, .unset, .unset, .unset, .unset]) rfl rfl ?_
      refine g_iload C X7 (pc' := 67) at_65 rfl rfl ?_
      refine g_ifN C X7 at_67 (by decide) rfl ?_
      refine g_aload C X7 (pc' := 72) at_70 rfl rfl rfl ?_
      refine g_iload C X7 (pc' := 74) at_72 rfl rfl ?_
      have XBu := B0.exa
      refine g_callV C X7 (c_chain l Z a0 hw h7 n0 Z7 a6 dense len zz hdn hln hzz hrw B0) (hw _ (List.mem_of_getElem? (i := 31) rfl)) (hw _ (List.mem_of_getElem? (i := 32) rfl)) (hw _ (List.mem_of_getElem? (i := 34) rfl)) (hw _ (List.mem_of_getElem? (i := 33) rfl)) (hw _ (List.mem_of_getElem? (i := 2) rfl)) (hw _ (List.mem_of_getElem? (i := 35) rfl)) (by decide) e7 XBu at_74 rfl kk_69 [(.int len)] [] rfl rfl rfl 0 rfl (by decide) (by decide) (by decide) (by decide) rfl ?_
      rintro w8 T8 L8 X8 ⟨⟨r9, rfl⟩, M8, SK8, CK8, z2, hz2, B1⟩
      have S8 := SK8 cs dg1 dg2 l1 l2 S7
      have H8 := (CK8 consts_1 s.vm C.warm.alike H7).1
      have Z8 : n0 ≤ T8.heap.size := Nat.le_trans Z7 (CK8 consts_1 s.vm C.warm.alike H7).2.1
      have N8 := Fr.app N7 M8
      rw [← e_rows] at B1 hz2
      obtain ⟨h8, e8⟩ : ∃ z, T8.heap = z := ⟨_, rfl⟩
      rw [e8] at S8 H8 Z8 B1
      show Go p.tables e below _ T8 (mkF m 77 #[.val (.int p0), .val (.int p1), .val (.int p2), .val (.int p3), .val (.int p4), .val (.int p5), .val (.int dense), .val (.int (1 : Int32)), .val (.int len), .val (.int rows), .val (.ref a6), .unset, .unset, .unset, .unset, .unset, .unset, .unset, .unset, .unset, .unset, .unset, .unset, .unset] [(.int r9)])
      refine g_pop C X8 (pc' := 78) at_77 rfl rfl ?_
      have hrb : 1 ≤ rows.toInt ∧ rows.toInt ≤ 47 := by omega
      have hr0 : rows ≠ 0 := fun q => by
        have q2 : rows.toInt = (0 : Int32).toInt := congrArg _ q
        have q3 : (0 : Int32).toInt = 0 := by decide
        omega
      exact lawT1 l Z a0 hw h8 n0 Z8 wS hEL cs dg1 dg2 hcs l1 l2 C (X8.more (by decide) (by decide)) e8 N8 p0 p1 p2 p3 p4 p5 dense len rows a6 z2 (by omega) hrb (by omega) (by omega) hr0 H8 S8 B1
theorem own_tbl {s : State} {a : Array Value} {t : Term} (hf : Fit s) (w1 : (Jvm.Cond.exactly t "[B").before a s = true) (w2 : (Jvm.Cond.eq (.length t) (.int 100)).before a s = true) (wa : (Jvm.Cond.arrayClass .byte).before a s = true) : ∃ d, t.eval a s none [] s = some (.ref d) ∧ BArr s s.heap d := by
  obtain ⟨a3, c3, cell3, k3, e1, e2, e3, e4, e5, e6, -⟩ := Cond.exactly_spec w1
  have hlen := Cond.eq_int w2 rfl
  obtain ⟨sd, SA, hev, harrAt, -⟩ := Term.length_spec hlen
  cases e1.symm.trans hev
  have h31 := Jvm.Free.SBG.length_lt hev harrAt hlen
  have hsz : SA.slots.size = 100 := by
    have e : (Term.length t).eval a s none [] s = some (.int (Int32.ofNat SA.slots.size)) := by simp [Term.eval, hev, harrAt, h31]
    have h2 : Int32.ofNat SA.slots.size = Int32.ofNat 100 := by simpa using Option.some.inj (e.symm.trans hlen)
    have := congrArg Int32.toInt h2
    rw [Int32.toInt_ofNat_small h31, Int32.toInt_ofNat_small (by omega)] at this; omega
  obtain ⟨hc1, hkn, -, -⟩ := State.arrayAt?_spec harrAt
  cases hc1.symm.trans e3
  obtain ⟨c4, k4, comp, f1, f2, f3⟩ := Cond.arrayClass_spec wa
  cases (show s.vm.findClass "[B" = some c4 from f1).symm.trans e2
  have A : Arr s s.heap a3 cell3 .byte := ⟨hc1, ⟨(fun q r => by rw [r] at e5; cases e5), k4, by rw [e6]; exact f2, comp, f3⟩, hkn⟩
  have H : Has cell3 cell3.slots.toList .null := fun j hj => by rw [List.getD_eq_getElem?_getD, Array.getElem?_toList, Array.getElem?_eq_getElem hj]; rfl
  refine ⟨a3, hev, cell3.cls, cell3.slots.toList, .null, cell3, A, rfl, by rw [hsz]; decide, by decide, H, fun j hj => ?_⟩
  have e1 : (Nat.toInt32 j).toNatClampNeg = j := by simp only [Int32.toNatClampNeg, len_toInt (Nat.lt_trans hj h31)]; rfl
  exact elem_fits (j := Nat.toInt32 j) hf A (idx_in hj h31) (by rw [e1]; exact H j hj)
set_option maxRecDepth 65536 in
set_option maxHeartbeats 40000000 in
theorem comes_1 {Post : Tables → Env → Array Value → State → Outcome → State → Prop} (hpost : ∀ tb e args s v u, (limb_1_1.after args s (.returned v) u = true ∧ limb_1_2.after args s (.returned v) u = true ∧ True) → ReturnedEndW s (.returned v) u (Jvm.fieldLocs frame_1_writes args s ++ Jvm.arrayLocs frame_1_arrays args s ++ Jvm.staticLocs frame_1_statics s) 424 5056 → Post tb e args s (.returned v) u) :
    ArmFor flags0 classFile x code maxLocals ret World_1 tables_1 room_1 Calls_1 rest_1 Pre_1 Post := by
  intro l hfl _ _ p e ha hc hk s m args below hf hA hF happ hP
  obtain ⟨hcalls, hrest, hpre⟩ := hP
  obtain ⟨-, -, -, hnamed, -, -, -, hat⟩ := (Spec.applies_iff hf).mp happ
  obtain ⟨hg, hn⟩ := and_e (Cond.before_iff.mp (show (Jvm.Cond.and given_1 narrow_1).before args s = true from hpre))
  obtain ⟨g_c, g_0⟩ := and_e hg
  obtain ⟨k_0, g_1⟩ := and_e g_0
  obtain ⟨k_1, g_2⟩ := and_e g_1
  obtain ⟨k_2, g_3⟩ := and_e g_2
  obtain ⟨k_3, g_4⟩ := and_e g_3
  obtain ⟨k_4, g_5⟩ := and_e g_4
  have k_5 := g_5
  obtain ⟨w0, w1, w2, w3, w4, w5, rfl⟩ : ∃ w0 w1 w2 w3 w4 w5 : Value, args = #[w0, w1, w2, w3, w4, w5] := by
    have hs : args.size = 6 := by simpa [Cond.value, given_1] using g_c
    obtain ⟨L⟩ := args
    match L, hs with
    | [w0, w1, w2, w3, w4, w5], _ => exact ⟨w0, w1, w2, w3, w4, w5, rfl⟩
  have hw := fun d (hd : d ∈ tables_1) => atoms_spec (ws := Jvm.Cond.code x code maxLocals ret :: tables_1) hat d (List.mem_cons_of_mem _ hd)
  have hfit : Fit s := fun {y c} hc i hi => by
    obtain ⟨ha, rfl⟩ := Array.getElem?_eq_some_iff.mp hc
    have q := List.all_eq_true.mp ((Array.all_eq_true_iff_forall_mem.mp hF) _ (Array.getElem_mem ha)) i (List.mem_range.mpr hi)
    simpa [Array.getElem?_eq_getElem hi] using q
  obtain ⟨hsets, hown0⟩ := atoms_of _ (rest_1_c_eq ▸ (show rest_1_c.before _ s = true from hrest))
  obtain ⟨p0, q_0⟩ := is_v k_0
  obtain rfl : w0 = (.int p0) := Option.some.inj q_0
  obtain ⟨p1, q_1⟩ := is_v k_1
  obtain rfl : w1 = (.int p1) := Option.some.inj q_1
  obtain ⟨p2, q_2⟩ := is_v k_2
  obtain rfl : w2 = (.int p2) := Option.some.inj q_2
  obtain ⟨p3, q_3⟩ := is_v k_3
  obtain rfl : w3 = (.int p3) := Option.some.inj q_3
  obtain ⟨p4, q_4⟩ := is_v k_4
  obtain rfl : w4 = (.int p4) := Option.some.inj q_4
  obtain ⟨p5, q_5⟩ := is_v k_5
  obtain rfl : w5 = (.int p5) := Option.some.inj q_5
  obtain ⟨hcall, -⟩ := hcalls
  have hs := fun (i : Nat) (d : Jvm.Cond) (e : jdkStatics_1[i]? = some d) => hsets d (List.mem_of_getElem? e)
  obtain ⟨cs, ecs⟩ := is_v (Jvm.Cond.before_iff.mp (hs 1 _ rfl))
  have FS0 := Sta.start ecs (Or.inl (hs 0 _ rfl))
  have hcs : ¬ (cs.toInt = 0) := fun q0 => by
    have q1 : cs = 0 := Int32.toInt_inj.mp (by rw [q0]; rfl)
    subst q1
    have q := Jvm.Cond.before_iff.mp (hs 2 _ rfl)
    have q2 := Jvm.Cond.eq_ints ecs (Term.int_eval 0)
    rw [Jvm.Cond.value, q2] at q
    revert q
    decide
  obtain ⟨dg1, ev1, ba1⟩ := own_tbl hfit (hs 12 _ rfl) (hs 13 _ rfl) (hw _ (List.mem_of_getElem? (i := 141) rfl))
  obtain ⟨dg2, ev2, ba2⟩ := own_tbl hfit (hs 17 _ rfl) (hs 18 _ rfl) (hw _ (List.mem_of_getElem? (i := 141) rfl))
  have FS1 := Sta.start ev1 (Or.inl (hs 11 _ rfl))
  have FS2 := Sta.start ev2 (Or.inl (hs 16 _ rfl))
  have wS : ∀ a ∈ Bundle.stringAtoms, a.before _ s = true := fun a ha => by
    simp only [Bundle.stringAtoms, List.mem_cons, List.not_mem_nil, or_false] at ha
    rcases ha with rfl | rfl | rfl | rfl | rfl | rfl | rfl
    · exact (hw _ (List.mem_of_getElem? (i := 140) rfl))
    · exact (hw _ (List.mem_of_getElem? (i := 147) rfl))
    · exact (hw _ (List.mem_of_getElem? (i := 141) rfl))
    · exact (hw _ (List.mem_of_getElem? (i := 148) rfl))
    · exact (hw _ (List.mem_of_getElem? (i := 149) rfl))
    · exact (hw _ (List.mem_of_getElem? (i := 150) rfl))
    · exact (hw _ (List.mem_of_getElem? (i := 151) rfl))
  have hEL : EW s _ consts_1 := EW.cons (hw _ (List.mem_of_getElem? (i := 146) rfl)) (by decide) EW.nil
  have HCs : CHv s consts_1 s.vm s.heap := CHv.start hEL hcall (hs 2 _ rfl) (hw _ (List.mem_of_getElem? (i := 141) rfl)) (hw _ (List.mem_of_getElem? (i := 147) rfl))
  obtain ⟨n, o, h1, h2, h3, _, L, rfl, ⟨rfl, N⟩, hq⟩ := law l s _ hw p0 p1 p2 p3 p4 p5 s.heap s.heap.size (Nat.le_refl _) wS hEL cs dg1 dg2 hcs ba1.lt ba2.lt ⟨FS0, FS1, FS2, ba1, ba2⟩ tables_1 p e ha hc hk s m _ below hf ((Spec.applies_iff_loose hf).mp happ).1 ⟨rfl, State.Warmed39.refl s, rfl, HCs⟩ trivial
  refine ⟨n, _, h1, h2, h3, hpost _ _ _ _ _ _ ⟨Cond.after_iff.mpr rfl, Cond.after_iff.mpr (eq_i res_at (Term.int_eval (1)) rfl), trivial⟩ ⟨hq.1, hq.2.1, hq.2.2.1, (hq.2.2.2.sift fun y hy => Or.inr (N y hy)).mono (by decide) (by decide)⟩⟩
theorem main_1_1 : Claimed_1_1 := comes_1 fun _ _ _ _ _ _ h hF => ⟨h.1, hF⟩
theorem main_1_2 : Claimed_1_2 := comes_1 fun _ _ _ _ _ _ h hF => ⟨h.2.1, hF⟩
end Jvm.Pilot.@@N@@
namespace Jvm.Pilot.@@N@@
open Jvm Jvm.ClassFile Sem Op Lib Jvm.Free Jvm.Stand Jvm.Pilot.@@N@@.Jvm.D
/-! MADE BY PROGRAM (witnessworld.py) out of the Statement's table words and the real class files: 30 classes; the members and pool entries that the words name. The judged class is class 1, her method 1. -/
namespace start1
open Jvm.ClassFile
def u (s : String) : CpInfo := .utf8 (stringToUtf16 s)
/-- a pool by its gaps: so many unusable entries, then the entry; so many at the end -/
def gap : Nat → List CpInfo → List CpInfo
  | 0, r => r
  | n + 1, r => .unusable :: gap n r
def poolList (es : List (Nat × CpInfo)) (last : Nat) : List CpInfo := es.foldr (fun e r => gap e.1 (e.2 :: r)) (gap last [])
def pool (es : List (Nat × CpInfo)) (last : Nat) : Array CpInfo := ⟨poolList es last⟩
def fileOf (pool : Array CpInfo) (this : Nat) (attrs : Array Attribute := #[]) (ms : Array MethodInfo := #[]) (fl : Nat := 33) (sup : Nat := 0) (ifs : Array Nat := #[]) (fds : Array FieldInfo := #[]) : ClassFile where
  minorVersion := 0
  majorVersion := 65
  constantPool := pool
  accessFlags := fl
  thisClass := this
  superClass := sup
  interfaces := ifs
  fields := fds
  methods := ms
  attributes := attrs
def plain (name : String) (sup : Option ClassId) : Class where
  name := name
  kind := .ordinary
  loader := none
  accessFlags := 33
  super := sup
  interfaces := #[]
  cf := none
  fields := #[]
  methods := #[]
  instanceTypes := #[]
  staticTypes := #[]
  resolved := #[]
  callSites := []
  init := .initialized
  statics := none
  mirror := none

def pool0 : Array CpInfo := pool [(5, u "<init>"), (0, u "()V"), (1, .class_ 10), (1, u "java/lang/Object"), (85, u "clone"), (0, u "()Ljava/lang/Object;")] 26

def k0c0 : Code := { maxStack := 0, maxLocals := 1, code := object_method_1_code, exceptionTable := #[], attributes := #[] }
def k0m0 : Method := { name := "<init>", desc := "()V", sig := { parameters := [], returnType := none }, accessFlags := 1, code := some k0c0 }
def k0m1 : Method := { name := "clone", desc := "()Ljava/lang/Object;", sig := { parameters := [], returnType := some (.object "java/lang/Object") }, accessFlags := 260, code := none }
/-- java/lang/Object -/
def k0 : Class := { plain "java/lang/Object" none with
  accessFlags := 33
  interfaces := #[]
  cf := some (fileOf pool0 8 #[] #[{ accessFlags := 1, nameIndex := 5, descriptorIndex := 6, attributes := #[] }, { accessFlags := 260, nameIndex := 96, descriptorIndex := 97, attributes := #[] }] 33 0 #[] #[])
  fields := #[]
  methods := #[k0m0, k0m1]
  instanceTypes := #[]
  staticTypes := #[]
  resolved := Array.replicate 124 none
  statics := none }

def pool1 : Array CpInfo := pool [(2, .class_ 4), (1, u "java/lang/Object"), (0, u "<init>"), (0, u "()V"), (0, .class_ 8), (0, u "com/example/fleetloom/fleetloom/ChainedProgramme$Builder"), (0, .methodref 7 10), (0, .nameAndType 5 11), (0, u "(I)V"), (0, .methodref 7 13), (0, .nameAndType 14 15), (0, u "chain"), (0, u "(I)I"), (0, .integer 2147483647), (0, .methodref 7 18), (0, .nameAndType 19 20), (0, u "rhs"), (0, u "(ID)V"), (0, .methodref 7 22), (0, .nameAndType 23 24), (0, u "build"), (0, u "()Lcom/example/fleetloom/fleetloom/ChainedProgramme;"), (0, .methodref 26 27), (0, .class_ 28), (0, .nameAndType 19 29), (0, u "com/example/fleetloom/fleetloom/ChainedProgramme"), (0, u "()[D"), (0, .methodref 26 31), (0, .nameAndType 32 33), (0, u "rows"), (0, u "()I"), (0, .class_ 35), (0, u "com/example/fleetloom/fleetloom/BuilderRhsPinLaw"), (2, u "law"), (0, u "(IIIIII)Z")] 7

def k1m0 : Method := { name := "<init>", desc := "()V", sig := { parameters := [], returnType := none }, accessFlags := 1, code := none }
def k1c1 : Code := { maxStack := 4, maxLocals := 24, code := code, exceptionTable := #[], attributes := #[] }
def k1m1 : Method := { name := "law", desc := "(IIIIII)Z", sig := { parameters := [.int, .int, .int, .int, .int, .int], returnType := some .boolean }, accessFlags := 9, code := some k1c1 }
/-- com/example/fleetloom/fleetloom/BuilderRhsPinLaw -/
def k1 : Class := { plain "com/example/fleetloom/fleetloom/BuilderRhsPinLaw" (some 0) with
  accessFlags := 49
  interfaces := #[]
  cf := some (fileOf pool1 34 #[] #[{ accessFlags := 1, nameIndex := 5, descriptorIndex := 6, attributes := #[] }, { accessFlags := 9, nameIndex := 38, descriptorIndex := 39, attributes := #[] }] 49 2 #[] #[])
  fields := #[]
  methods := #[k1m0, k1m1]
  instanceTypes := #[]
  staticTypes := #[]
  resolved := Array.replicate 47 none
  statics := none }

def pool2 : Array CpInfo := pool [(1, .methodref 2 3), (0, .class_ 4), (0, .nameAndType 5 6), (0, u "java/lang/Object"), (0, u "<init>"), (0, u "()V"), (0, .fieldref 8 9), (0, .class_ 10), (0, .nameAndType 11 12), (0, u "com/example/fleetloom/fleetloom/ChainedProgramme$Builder"), (0, u "chainStart"), (0, u "[I"), (0, .fieldref 8 14), (0, .nameAndType 15 12), (0, u "columnStart"), (0, .fieldref 8 17), (0, .nameAndType 18 19), (0, u "cost"), (0, u "[D"), (0, .fieldref 8 21), (0, .nameAndType 22 12), (0, u "entryRow"), (0, .fieldref 8 24), (0, .nameAndType 25 19), (0, u "entryValue"), (0, .fieldref 8 27), (0, .nameAndType 28 29), (0, u "denseRows"), (0, u "I"), (0, .fieldref 8 31), (0, .nameAndType 32 29), (0, u "rows"), (0, .methodref 34 35), (0, .class_ 36), (0, .nameAndType 37 38), (0, u "java/lang/Math"), (0, u "max"), (0, u "(II)I"), (0, .fieldref 8 40), (0, .nameAndType 41 19), (0, u "rhs"), (0, .fieldref 8 43), (0, .nameAndType 44 29), (0, u "columns"), (9, .class_ 55), (0, u "java/lang/StringBuilder"), (0, .methodref 54 3), (2, .methodref 54 60), (0, .nameAndType 61 62), (0, u "append"), (0, u "(Ljava/lang/String;)Ljava/lang/StringBuilder;"), (0, .methodref 54 64), (0, .nameAndType 61 65), (0, u "(I)Ljava/lang/StringBuilder;"), (2, .methodref 54 69), (0, .nameAndType 70 71), (0, u "toString"), (0, u "()Ljava/lang/String;"), (1, .fieldref 8 74), (0, .nameAndType 75 29), (0, u "chains"), (0, .methodref 8 77), (0, .nameAndType 78 79), (0, u "grow"), (0, u "([II)[I"), (0, .methodref 8 81), (0, .nameAndType 78 82), (0, u "([DI)[D"), (0, .methodref 84 85), (0, .class_ 86), (0, .nameAndType 87 38), (0, u "java/util/Objects"), (0, u "checkIndex"), (2, u "entries"), (2, .class_ 94), (0, u "com/example/fleetloom/fleetloom/ChainedProgramme"), (0, .methodref 93 96), (0, .nameAndType 5 97), (0, u "(Lcom/example/fleetloom/fleetloom/ChainedProgramme$Builder;)V"), (0, .methodref 93 99), (0, .nameAndType 32 100), (0, u "()I"), (0, .fieldref 93 40), (0, .string 103), (0, u "b of row "), (0, .methodref 8 105), (0, .nameAndType 106 107), (0, u "finite"), (0, u "(DLjava/lang/String;)V"), (0, .fieldref 93 17), (5, u "(I)V"), (0, .methodref 116 117), (0, .class_ 118), (0, .nameAndType 119 79), (0, u "java/util/Arrays"), (0, u "copyOf"), (0, .methodref 116 121), (0, .nameAndType 119 82), (0, .methodref 123 124), (0, .class_ 125), (0, .nameAndType 126 127), (0, u "java/lang/Double"), (0, u "isFinite"), (0, u "(D)Z"), (7, u "chain"), (0, u "(I)I"), (1, u "(ID)V"), (3, u "build"), (0, u "()Lcom/example/fleetloom/fleetloom/ChainedProgramme;")] 7

def k2c0 : Code := { maxStack := 3, maxLocals := 2, code := prog_4_method_1_code, exceptionTable := #[], attributes := #[] }
def k2m0 : Method := { name := "<init>", desc := "(I)V", sig := { parameters := [.int], returnType := none }, accessFlags := 0, code := some k2c0 }
def k2c1 : Code := { maxStack := 5, maxLocals := 2, code := prog_4_method_2_code, exceptionTable := #[], attributes := #[] }
def k2m1 : Method := { name := "chain", desc := "(I)I", sig := { parameters := [.int], returnType := some .int }, accessFlags := 0, code := some k2c1 }
def k2c2 : Code := { maxStack := 4, maxLocals := 4, code := prog_4_method_3_code, exceptionTable := #[], attributes := #[] }
def k2m2 : Method := { name := "rhs", desc := "(ID)V", sig := { parameters := [.int, .double], returnType := none }, accessFlags := 0, code := some k2c2 }
def k2c3 : Code := { maxStack := 4, maxLocals := 3, code := prog_4_method_6_code, exceptionTable := #[], attributes := #[] }
def k2m3 : Method := { name := "build", desc := "()Lcom/example/fleetloom/fleetloom/ChainedProgramme;", sig := { parameters := [], returnType := some (.object "com/example/fleetloom/fleetloom/ChainedProgramme") }, accessFlags := 0, code := some k2c3 }
def k2c4 : Code := { maxStack := 3, maxLocals := 2, code := prog_4_method_7_code, exceptionTable := #[], attributes := #[] }
def k2m4 : Method := { name := "grow", desc := "([II)[I", sig := { parameters := [(.array .int), .int], returnType := some (.array .int) }, accessFlags := 10, code := some k2c4 }
def k2c5 : Code := { maxStack := 3, maxLocals := 2, code := prog_4_method_8_code, exceptionTable := #[], attributes := #[] }
def k2m5 : Method := { name := "grow", desc := "([DI)[D", sig := { parameters := [(.array .double), .int], returnType := some (.array .double) }, accessFlags := 10, code := some k2c5 }
def k2c6 : Code := { maxStack := 5, maxLocals := 3, code := prog_4_method_9_code, exceptionTable := #[], attributes := #[] }
def k2m6 : Method := { name := "finite", desc := "(DLjava/lang/String;)V", sig := { parameters := [.double, (.object "java/lang/String")], returnType := none }, accessFlags := 10, code := some k2c6 }
/-- com/example/fleetloom/fleetloom/ChainedProgramme$Builder -/
def k2 : Class := { plain "com/example/fleetloom/fleetloom/ChainedProgramme$Builder" (some 0) with
  accessFlags := 32
  interfaces := #[]
  cf := some (fileOf pool2 8 #[.nestHost 93] #[{ accessFlags := 0, nameIndex := 5, descriptorIndex := 114, attributes := #[] }, { accessFlags := 0, nameIndex := 135, descriptorIndex := 136, attributes := #[] }, { accessFlags := 0, nameIndex := 41, descriptorIndex := 138, attributes := #[] }, { accessFlags := 0, nameIndex := 142, descriptorIndex := 143, attributes := #[] }, { accessFlags := 10, nameIndex := 78, descriptorIndex := 79, attributes := #[] }, { accessFlags := 10, nameIndex := 78, descriptorIndex := 82, attributes := #[] }, { accessFlags := 10, nameIndex := 106, descriptorIndex := 107, attributes := #[] }] 32 2 #[] #[{ accessFlags := 18, nameIndex := 28, descriptorIndex := 29, attributes := #[] }, { accessFlags := 2, nameIndex := 32, descriptorIndex := 29, attributes := #[] }, { accessFlags := 2, nameIndex := 75, descriptorIndex := 29, attributes := #[] }, { accessFlags := 2, nameIndex := 44, descriptorIndex := 29, attributes := #[] }, { accessFlags := 2, nameIndex := 90, descriptorIndex := 29, attributes := #[] }, { accessFlags := 2, nameIndex := 11, descriptorIndex := 12, attributes := #[] }, { accessFlags := 2, nameIndex := 41, descriptorIndex := 19, attributes := #[] }, { accessFlags := 2, nameIndex := 15, descriptorIndex := 12, attributes := #[] }, { accessFlags := 2, nameIndex := 18, descriptorIndex := 19, attributes := #[] }, { accessFlags := 2, nameIndex := 22, descriptorIndex := 12, attributes := #[] }, { accessFlags := 2, nameIndex := 25, descriptorIndex := 19, attributes := #[] }])
  fields := #[{ name := "denseRows", type := .int, accessFlags := 18, slot := 0, constantValue := 0 }, { name := "rows", type := .int, accessFlags := 2, slot := 1, constantValue := 0 }, { name := "chains", type := .int, accessFlags := 2, slot := 2, constantValue := 0 }, { name := "columns", type := .int, accessFlags := 2, slot := 3, constantValue := 0 }, { name := "entries", type := .int, accessFlags := 2, slot := 4, constantValue := 0 }, { name := "chainStart", type := (.array .int), accessFlags := 2, slot := 5, constantValue := 0 }, { name := "rhs", type := (.array .double), accessFlags := 2, slot := 6, constantValue := 0 }, { name := "columnStart", type := (.array .int), accessFlags := 2, slot := 7, constantValue := 0 }, { name := "cost", type := (.array .double), accessFlags := 2, slot := 8, constantValue := 0 }, { name := "entryRow", type := (.array .int), accessFlags := 2, slot := 9, constantValue := 0 }, { name := "entryValue", type := (.array .double), accessFlags := 2, slot := 10, constantValue := 0 }]
  methods := #[k2m0, k2m1, k2m2, k2m3, k2m4, k2m5, k2m6]
  instanceTypes := #[.int, .int, .int, .int, .int, (.array .int), (.array .double), (.array .int), (.array .double), (.array .int), (.array .double)]
  staticTypes := #[]
  resolved := Array.replicate 151 none
  statics := none }

def pool3 : Array CpInfo := pool [(1, .class_ 2), (0, u "java/lang/Math"), (1, .class_ 6), (1, u "java/lang/Object"), (0, u "<init>"), (0, u "()V"), (5, u "(D)D"), (83, .class_ 100), (1, u "java/lang/Math$RandomNumberGeneratorHolder"), (23, u "abs"), (47, u "negativeZeroFloatBits"), (0, u "J"), (2, u "negativeZeroDoubleBits"), (21, u "max"), (2, u "min"), (43, u "$assertionsDisabled"), (0, u "Z"), (88, u "(II)I"), (2, u "twoToTheDoubleScaleDown"), (0, u "D"), (4, u "twoToTheDoubleScaleUp"), (9, u "E"), (3, u "PI"), (2, u "TAU"), (2, u "DEGREES_TO_RADIANS"), (0, u "RADIANS_TO_DEGREES")] 94

def k3m0 : Method := { name := "<init>", desc := "()V", sig := { parameters := [], returnType := none }, accessFlags := 2, code := none }
def k3c1 : Code := { maxStack := 4, maxLocals := 2, code := jdk_29_method_64_code, exceptionTable := #[], attributes := #[] }
def k3m1 : Method := { name := "abs", desc := "(D)D", sig := { parameters := [.double], returnType := some .double }, accessFlags := 9, code := some k3c1 }
def k3c2 : Code := { maxStack := 2, maxLocals := 2, code := jdk_29_method_65_code, exceptionTable := #[], attributes := #[] }
def k3m2 : Method := { name := "max", desc := "(II)I", sig := { parameters := [.int, .int], returnType := some .int }, accessFlags := 9, code := some k3c2 }
def k3c3 : Code := { maxStack := 2, maxLocals := 2, code := jdk_29_method_69_code, exceptionTable := #[], attributes := #[] }
def k3m3 : Method := { name := "min", desc := "(II)I", sig := { parameters := [.int, .int], returnType := some .int }, accessFlags := 9, code := some k3c3 }
/-- java/lang/Math -/
def k3 : Class := { plain "java/lang/Math" (some 0) with
  accessFlags := 49
  interfaces := #[]
  cf := some (fileOf pool3 1 #[.nestMembers #[98]] #[{ accessFlags := 2, nameIndex := 7, descriptorIndex := 8, attributes := #[] }, { accessFlags := 9, nameIndex := 124, descriptorIndex := 14, attributes := #[] }, { accessFlags := 9, nameIndex := 198, descriptorIndex := 335, attributes := #[] }, { accessFlags := 9, nameIndex := 201, descriptorIndex := 335, attributes := #[] }] 49 4 #[] #[{ accessFlags := 25, nameIndex := 354, descriptorIndex := 339, attributes := #[] }, { accessFlags := 25, nameIndex := 358, descriptorIndex := 339, attributes := #[] }, { accessFlags := 25, nameIndex := 361, descriptorIndex := 339, attributes := #[] }, { accessFlags := 26, nameIndex := 364, descriptorIndex := 339, attributes := #[] }, { accessFlags := 26, nameIndex := 365, descriptorIndex := 339, attributes := #[] }, { accessFlags := 26, nameIndex := 172, descriptorIndex := 173, attributes := #[] }, { accessFlags := 26, nameIndex := 176, descriptorIndex := 173, attributes := #[] }, { accessFlags := 8, nameIndex := 344, descriptorIndex := 339, attributes := #[] }, { accessFlags := 8, nameIndex := 338, descriptorIndex := 339, attributes := #[] }, { accessFlags := 4120, nameIndex := 245, descriptorIndex := 246, attributes := #[] }])
  fields := #[{ name := "E", type := .double, accessFlags := 25, slot := 0, constantValue := 0 }, { name := "PI", type := .double, accessFlags := 25, slot := 1, constantValue := 0 }, { name := "TAU", type := .double, accessFlags := 25, slot := 2, constantValue := 0 }, { name := "DEGREES_TO_RADIANS", type := .double, accessFlags := 26, slot := 3, constantValue := 0 }, { name := "RADIANS_TO_DEGREES", type := .double, accessFlags := 26, slot := 4, constantValue := 0 }, { name := "negativeZeroFloatBits", type := .long, accessFlags := 26, slot := 5, constantValue := 0 }, { name := "negativeZeroDoubleBits", type := .long, accessFlags := 26, slot := 6, constantValue := 0 }, { name := "twoToTheDoubleScaleUp", type := .double, accessFlags := 8, slot := 7, constantValue := 0 }, { name := "twoToTheDoubleScaleDown", type := .double, accessFlags := 8, slot := 8, constantValue := 0 }, { name := "$assertionsDisabled", type := .boolean, accessFlags := 4120, slot := 9, constantValue := 0 }]
  methods := #[k3m0, k3m1, k3m2, k3m3]
  instanceTypes := #[]
  staticTypes := #[.double, .double, .double, .double, .double, .long, .long, .double, .double, .boolean]
  resolved := Array.replicate 460 none
  statics := none }

def pool4 : Array CpInfo := pool [(2, .class_ 4), (1, u "java/lang/Object"), (0, u "<init>"), (0, u "()V"), (35, .class_ 44), (1, u "java/util/Objects"), (60, .methodref 106 107), (0, .class_ 108), (0, .nameAndType 109 110), (0, u "jdk/internal/util/Preconditions"), (0, u "checkIndex"), (0, u "(IILjava/util/function/BiFunction;)I"), (60, u "(II)I")] 12

def k4m0 : Method := { name := "<init>", desc := "()V", sig := { parameters := [], returnType := none }, accessFlags := 2, code := none }
def k4c1 : Code := { maxStack := 3, maxLocals := 2, code := jdk_31_method_17_code, exceptionTable := #[], attributes := #[] }
def k4m1 : Method := { name := "checkIndex", desc := "(II)I", sig := { parameters := [.int, .int], returnType := some .int }, accessFlags := 9, code := some k4c1 }
/-- java/util/Objects -/
def k4 : Class := { plain "java/util/Objects" (some 0) with
  accessFlags := 49
  interfaces := #[]
  cf := some (fileOf pool4 42 #[] #[{ accessFlags := 2, nameIndex := 5, descriptorIndex := 6, attributes := #[] }, { accessFlags := 9, nameIndex := 109, descriptorIndex := 171, attributes := #[] }] 49 2 #[] #[])
  fields := #[]
  methods := #[k4m0, k4m1]
  instanceTypes := #[]
  staticTypes := #[]
  resolved := Array.replicate 184 none
  statics := none }

def pool5 : Array CpInfo := pool [(2, .class_ 4), (1, u "java/lang/Object"), (0, u "<init>"), (0, u "()V"), (17, .class_ 26), (1, u "jdk/internal/util/Preconditions"), (6, u "checkIndex"), (21, .class_ 56), (0, u "jdk/internal/util/Preconditions$4"), (57, .class_ 115), (0, u "jdk/internal/util/Preconditions$1"), (7, u "SIOOBE_FORMATTER"), (0, u "Ljava/util/function/BiFunction;"), (0, .class_ 126), (0, u "jdk/internal/util/Preconditions$2"), (3, u "AIOOBE_FORMATTER"), (0, .class_ 132), (0, u "jdk/internal/util/Preconditions$3"), (3, u "IOOBE_FORMATTER"), (41, u "(IILjava/util/function/BiFunction;)I")] 15

def k5m0 : Method := { name := "<init>", desc := "()V", sig := { parameters := [], returnType := none }, accessFlags := 1, code := none }
def k5c1 : Code := { maxStack := 3, maxLocals := 3, code := jdk_41_method_11_code, exceptionTable := #[], attributes := #[] }
def k5m1 : Method := { name := "checkIndex", desc := "(IILjava/util/function/BiFunction;)I", sig := { parameters := [.int, .int, (.object "java/util/function/BiFunction")], returnType := some .int }, accessFlags := 9, code := some k5c1 }
/-- jdk/internal/util/Preconditions -/
def k5 : Class := { plain "jdk/internal/util/Preconditions" (some 0) with
  accessFlags := 33
  interfaces := #[]
  cf := some (fileOf pool5 24 #[.nestMembers #[55, 131, 125, 114]] #[{ accessFlags := 1, nameIndex := 5, descriptorIndex := 6, attributes := #[] }, { accessFlags := 9, nameIndex := 33, descriptorIndex := 178, attributes := #[] }] 33 2 #[] #[{ accessFlags := 25, nameIndex := 123, descriptorIndex := 124, attributes := #[] }, { accessFlags := 25, nameIndex := 130, descriptorIndex := 124, attributes := #[] }, { accessFlags := 25, nameIndex := 136, descriptorIndex := 124, attributes := #[] }])
  fields := #[{ name := "SIOOBE_FORMATTER", type := (.object "java/util/function/BiFunction"), accessFlags := 25, slot := 0, constantValue := 0 }, { name := "AIOOBE_FORMATTER", type := (.object "java/util/function/BiFunction"), accessFlags := 25, slot := 1, constantValue := 0 }, { name := "IOOBE_FORMATTER", type := (.object "java/util/function/BiFunction"), accessFlags := 25, slot := 2, constantValue := 0 }]
  methods := #[k5m0, k5m1]
  instanceTypes := #[]
  staticTypes := #[(.object "java/util/function/BiFunction"), (.object "java/util/function/BiFunction"), (.object "java/util/function/BiFunction")]
  resolved := Array.replicate 194 none
  statics := some 0 }

def pool6 : Array CpInfo := pool [(1, .methodref 2 3), (0, .class_ 4), (0, .nameAndType 5 6), (0, u "java/lang/Object"), (0, u "<init>"), (0, u "()V"), (0, .fieldref 8 9), (0, .class_ 10), (0, .nameAndType 11 12), (0, u "com/example/fleetloom/fleetloom/ChainedProgramme$Builder"), (0, u "denseRows"), (0, u "I"), (0, .fieldref 14 9), (0, .class_ 15), (0, u "com/example/fleetloom/fleetloom/ChainedProgramme"), (0, .fieldref 8 17), (0, .nameAndType 18 19), (0, u "chainStart"), (0, u "[I"), (0, .fieldref 8 21), (0, .nameAndType 22 12), (0, u "chains"), (0, .methodref 24 25), (0, .class_ 26), (0, .nameAndType 27 28), (0, u "java/util/Arrays"), (0, u "copyOf"), (0, u "([II)[I"), (0, .fieldref 14 17), (0, .fieldref 8 31), (0, .nameAndType 32 12), (0, u "rows"), (0, .fieldref 14 34), (0, .nameAndType 35 19), (0, u "rowChain"), (0, .methodref 24 37), (0, .nameAndType 38 39), (0, u "fill"), (0, u "([IIII)V"), (0, .fieldref 8 41), (0, .nameAndType 42 19), (0, u "columnStart"), (0, .fieldref 8 44), (0, .nameAndType 45 12), (0, u "columns"), (0, .fieldref 14 41), (0, .fieldref 8 48), (0, .nameAndType 49 12), (0, u "entries"), (0, .fieldref 8 51), (0, .nameAndType 52 19), (0, u "entryRow"), (0, .fieldref 14 51), (0, .fieldref 8 55), (0, .nameAndType 56 57), (0, u "entryValue"), (0, u "[D"), (0, .methodref 24 59), (0, .nameAndType 27 60), (0, u "([DI)[D"), (0, .fieldref 14 55), (0, .fieldref 8 63), (0, .nameAndType 64 57), (0, u "cost"), (0, .fieldref 14 63), (0, .fieldref 8 67), (0, .nameAndType 68 57), (0, u "rhs"), (0, .fieldref 14 67), (40, u "(Lcom/example/fleetloom/fleetloom/ChainedProgramme$Builder;)V"), (3, u "()I"), (2, u "()[D")] 10

def k6c0 : Code := { maxStack := 5, maxLocals := 3, code := prog_3_method_1_code, exceptionTable := #[], attributes := #[] }
def k6m0 : Method := { name := "<init>", desc := "(Lcom/example/fleetloom/fleetloom/ChainedProgramme$Builder;)V", sig := { parameters := [(.object "com/example/fleetloom/fleetloom/ChainedProgramme$Builder")], returnType := none }, accessFlags := 2, code := some k6c0 }
def k6c1 : Code := { maxStack := 1, maxLocals := 1, code := prog_3_method_2_code, exceptionTable := #[], attributes := #[] }
def k6m1 : Method := { name := "rows", desc := "()I", sig := { parameters := [], returnType := some .int }, accessFlags := 0, code := some k6c1 }
def k6c2 : Code := { maxStack := 1, maxLocals := 1, code := prog_3_method_12_code, exceptionTable := #[], attributes := #[] }
def k6m2 : Method := { name := "rhs", desc := "()[D", sig := { parameters := [], returnType := some (.array .double) }, accessFlags := 0, code := some k6c2 }
/-- com/example/fleetloom/fleetloom/ChainedProgramme -/
def k6 : Class := { plain "com/example/fleetloom/fleetloom/ChainedProgramme" (some 0) with
  accessFlags := 32
  interfaces := #[]
  cf := some (fileOf pool6 14 #[.nestMembers #[8]] #[{ accessFlags := 2, nameIndex := 5, descriptorIndex := 110, attributes := #[] }, { accessFlags := 0, nameIndex := 32, descriptorIndex := 114, attributes := #[] }, { accessFlags := 0, nameIndex := 68, descriptorIndex := 117, attributes := #[] }] 32 2 #[] #[{ accessFlags := 18, nameIndex := 11, descriptorIndex := 12, attributes := #[] }, { accessFlags := 18, nameIndex := 18, descriptorIndex := 19, attributes := #[] }, { accessFlags := 18, nameIndex := 35, descriptorIndex := 19, attributes := #[] }, { accessFlags := 18, nameIndex := 42, descriptorIndex := 19, attributes := #[] }, { accessFlags := 18, nameIndex := 52, descriptorIndex := 19, attributes := #[] }, { accessFlags := 18, nameIndex := 56, descriptorIndex := 57, attributes := #[] }, { accessFlags := 18, nameIndex := 64, descriptorIndex := 57, attributes := #[] }, { accessFlags := 18, nameIndex := 68, descriptorIndex := 57, attributes := #[] }])
  fields := #[{ name := "denseRows", type := .int, accessFlags := 18, slot := 0, constantValue := 0 }, { name := "chainStart", type := (.array .int), accessFlags := 18, slot := 1, constantValue := 0 }, { name := "rowChain", type := (.array .int), accessFlags := 18, slot := 2, constantValue := 0 }, { name := "columnStart", type := (.array .int), accessFlags := 18, slot := 3, constantValue := 0 }, { name := "entryRow", type := (.array .int), accessFlags := 18, slot := 4, constantValue := 0 }, { name := "entryValue", type := (.array .double), accessFlags := 18, slot := 5, constantValue := 0 }, { name := "cost", type := (.array .double), accessFlags := 18, slot := 6, constantValue := 0 }, { name := "rhs", type := (.array .double), accessFlags := 18, slot := 7, constantValue := 0 }]
  methods := #[k6m0, k6m1, k6m2]
  instanceTypes := #[.int, (.array .int), (.array .int), (.array .int), (.array .int), (.array .double), (.array .double), (.array .double)]
  staticTypes := #[]
  resolved := (((((((((((Array.replicate 128 none).set! 7 (some (.field 2 0))).set! 16 (some (.field 2 5))).set! 20 (some (.field 2 2))).set! 30 (some (.field 2 1))).set! 40 (some (.field 2 7))).set! 43 (some (.field 2 3))).set! 47 (some (.field 2 4))).set! 50 (some (.field 2 9))).set! 54 (some (.field 2 10))).set! 62 (some (.field 2 8))).set! 66 (some (.field 2 6))
  statics := none }

def pool7 : Array CpInfo := pool [(2, .class_ 4), (1, u "java/lang/Object"), (0, u "<init>"), (0, u "()V"), (5, u "([IIII)V"), (0, .methodref 14 15), (0, .class_ 16), (0, .nameAndType 17 18), (0, u "java/util/Arrays"), (0, u "rangeCheck"), (0, u "(III)V"), (55, .class_ 76), (1, u "java/util/Arrays$NaturalOrder"), (32, u "()Ljava/lang/Object;"), (3, .class_ 115), (1, u "java/util/Arrays$LegacyMergeSort"), (1, u "Z"), (10, .nameAndType 129 109), (0, u "clone"), (9, u "copyOfRange"), (10, .methodref 151 152), (0, .class_ 153), (0, .nameAndType 154 155), (0, u "java/lang/System"), (0, u "arraycopy"), (0, u "(Ljava/lang/Object;ILjava/lang/Object;II)V"), (146, u "copyOf"), (1, .methodref 305 306), (0, .class_ 307), (0, .nameAndType 308 309), (0, u "java/lang/Math"), (0, u "min"), (0, u "(II)I"), (18, .methodref 329 128), (0, .class_ 330), (0, u "[D"), (8, .methodref 14 340), (0, .nameAndType 341 342), (0, u "copyOfRangeByte"), (0, u "([BII)[B"), (0, .methodref 14 344), (0, .nameAndType 345 346), (0, u "checkLength"), (0, u "(II)V"), (28, .class_ 376), (0, u "java/util/Arrays$ArrayList"), (68, u "$assertionsDisabled"), (269, u "MIN_ARRAY_SORT_GRAN"), (0, u "I"), (2, u "INSERTIONSORT_THRESHOLD"), (120, u "fill"), (30, u "([II)[I"), (3, u "([DI)[D"), (99, .class_ 976), (0, u "java/util/Arrays$ArrayItr")] 52

def k7m0 : Method := { name := "<init>", desc := "()V", sig := { parameters := [], returnType := none }, accessFlags := 2, code := none }
def k7c1 : Code := { maxStack := 4, maxLocals := 3, code := jdk_65_method_30_code, exceptionTable := #[], attributes := #[] }
def k7m1 : Method := { name := "rangeCheck", desc := "(III)V", sig := { parameters := [.int, .int, .int], returnType := none }, accessFlags := 8, code := some k7c1 }
def k7c2 : Code := { maxStack := 3, maxLocals := 5, code := jdk_65_method_104_code, exceptionTable := #[], attributes := #[] }
def k7m2 : Method := { name := "fill", desc := "([IIII)V", sig := { parameters := [(.array .int), .int, .int, .int], returnType := none }, accessFlags := 9, code := some k7c2 }
def k7c3 : Code := { maxStack := 6, maxLocals := 3, code := jdk_65_method_123_code, exceptionTable := #[], attributes := #[] }
def k7m3 : Method := { name := "copyOf", desc := "([II)[I", sig := { parameters := [(.array .int), .int], returnType := some (.array .int) }, accessFlags := 9, code := some k7c3 }
def k7c4 : Code := { maxStack := 6, maxLocals := 3, code := jdk_65_method_127_code, exceptionTable := #[], attributes := #[] }
def k7m4 : Method := { name := "copyOf", desc := "([DI)[D", sig := { parameters := [(.array .double), .int], returnType := some (.array .double) }, accessFlags := 9, code := some k7c4 }
def k7c5 : Code := { maxStack := 4, maxLocals := 2, code := jdk_65_method_131_code, exceptionTable := #[], attributes := #[] }
def k7m5 : Method := { name := "checkLength", desc := "(II)V", sig := { parameters := [.int, .int], returnType := none }, accessFlags := 10, code := some k7c5 }
def k7c6 : Code := { maxStack := 3, maxLocals := 3, code := jdk_65_method_132_code, exceptionTable := #[], attributes := #[] }
def k7m6 : Method := { name := "copyOfRange", desc := "([BII)[B", sig := { parameters := [(.array .byte), .int, .int], returnType := some (.array .byte) }, accessFlags := 9, code := some k7c6 }
def k7c7 : Code := { maxStack := 6, maxLocals := 5, code := jdk_65_method_133_code, exceptionTable := #[], attributes := #[] }
def k7m7 : Method := { name := "copyOfRangeByte", desc := "([BII)[B", sig := { parameters := [(.array .byte), .int, .int], returnType := some (.array .byte) }, accessFlags := 10, code := some k7c7 }
/-- java/util/Arrays -/
def k7 : Class := { plain "java/util/Arrays" (some 0) with
  accessFlags := 49
  interfaces := #[]
  cf := some (fileOf pool7 14 #[.nestMembers #[975, 375, 113, 74]] #[{ accessFlags := 2, nameIndex := 5, descriptorIndex := 6, attributes := #[] }, { accessFlags := 8, nameIndex := 17, descriptorIndex := 18, attributes := #[] }, { accessFlags := 9, nameIndex := 840, descriptorIndex := 12, attributes := #[] }, { accessFlags := 9, nameIndex := 302, descriptorIndex := 871, attributes := #[] }, { accessFlags := 9, nameIndex := 302, descriptorIndex := 875, attributes := #[] }, { accessFlags := 10, nameIndex := 345, descriptorIndex := 346, attributes := #[] }, { accessFlags := 9, nameIndex := 139, descriptorIndex := 342, attributes := #[] }, { accessFlags := 10, nameIndex := 341, descriptorIndex := 342, attributes := #[] }] 49 2 #[] #[{ accessFlags := 26, nameIndex := 715, descriptorIndex := 716, attributes := #[] }, { accessFlags := 26, nameIndex := 719, descriptorIndex := 716, attributes := #[] }, { accessFlags := 4120, nameIndex := 445, descriptorIndex := 117, attributes := #[] }])
  fields := #[{ name := "MIN_ARRAY_SORT_GRAN", type := .int, accessFlags := 26, slot := 0, constantValue := 0 }, { name := "INSERTIONSORT_THRESHOLD", type := .int, accessFlags := 26, slot := 1, constantValue := 0 }, { name := "$assertionsDisabled", type := .boolean, accessFlags := 4120, slot := 2, constantValue := 0 }]
  methods := #[k7m0, k7m1, k7m2, k7m3, k7m4, k7m5, k7m6, k7m7]
  instanceTypes := #[]
  staticTypes := #[.int, .int, .boolean]
  resolved := Array.replicate 1029 none
  statics := none }

def pool8 : Array CpInfo := pool [(2, .class_ 4), (1, u "java/lang/Object"), (0, u "<init>"), (0, u "()V"), (1, .class_ 10), (1, u "java/lang/System"), (0, u "allowSecurityManager"), (0, u "I"), (16, u "cons"), (0, u "Ljava/io/Console;"), (77, .class_ 110), (1, u "java/lang/System$CallersHolder"), (43, u "initialErrStream"), (0, u "Ljava/io/PrintStream;"), (19, u "security"), (0, u "Ljava/lang/SecurityManager;"), (31, .class_ 209), (0, u "java/lang/System$1"), (7, u "props"), (0, u "Ljava/util/Properties;"), (2, u "lineSeparator"), (0, u "Ljava/lang/String;"), (96, .class_ 321), (1, u "java/lang/System$LoggerFinder"), (5, .class_ 328), (0, u "java/lang/System$Logger"), (67, u "err"), (2, u "out"), (91, u "notSupportedJnuEncoding"), (15, u "in"), (17, u "initialIn"), (0, u "Ljava/io/InputStream;"), (35, u "bootLayer"), (0, u "Ljava/lang/ModuleLayer;"), (99, .class_ 664), (0, u "java/lang/System$2"), (9, u "NEVER"), (2, u "MAYBE"), (49, u "arraycopy"), (0, u "(Ljava/lang/Object;ILjava/lang/Object;II)V"), (72, .class_ 802), (0, u "java/lang/System$Logger$Level")] 31

def k8m0 : Method := { name := "<init>", desc := "()V", sig := { parameters := [], returnType := none }, accessFlags := 2, code := none }
def k8m1 : Method := { name := "arraycopy", desc := "(Ljava/lang/Object;ILjava/lang/Object;II)V", sig := { parameters := [(.object "java/lang/Object"), .int, (.object "java/lang/Object"), .int, .int], returnType := none }, accessFlags := 265, code := none }
/-- java/lang/System -/
def k8 : Class := { plain "java/lang/System" (some 0) with
  accessFlags := 49
  interfaces := #[]
  cf := some (fileOf pool8 8 #[.nestMembers #[319, 327, 801, 108, 663, 208]] #[{ accessFlags := 2, nameIndex := 5, descriptorIndex := 6, attributes := #[] }, { accessFlags := 265, nameIndex := 727, descriptorIndex := 728, attributes := #[] }] 49 2 #[] #[{ accessFlags := 25, nameIndex := 507, descriptorIndex := 526, attributes := #[] }, { accessFlags := 25, nameIndex := 399, descriptorIndex := 155, attributes := #[] }, { accessFlags := 25, nameIndex := 396, descriptorIndex := 155, attributes := #[] }, { accessFlags := 10, nameIndex := 525, descriptorIndex := 526, attributes := #[] }, { accessFlags := 26, nameIndex := 674, descriptorIndex := 12, attributes := #[] }, { accessFlags := 26, nameIndex := 677, descriptorIndex := 12, attributes := #[] }, { accessFlags := 10, nameIndex := 11, descriptorIndex := 12, attributes := #[] }, { accessFlags := 74, nameIndex := 175, descriptorIndex := 176, attributes := #[] }, { accessFlags := 10, nameIndex := 491, descriptorIndex := 222, attributes := #[] }, { accessFlags := 74, nameIndex := 29, descriptorIndex := 30, attributes := #[] }, { accessFlags := 74, nameIndex := 154, descriptorIndex := 155, attributes := #[] }, { accessFlags := 10, nameIndex := 217, descriptorIndex := 218, attributes := #[] }, { accessFlags := 10, nameIndex := 221, descriptorIndex := 222, attributes := #[] }, { accessFlags := 8, nameIndex := 562, descriptorIndex := 563, attributes := #[] }])
  fields := #[{ name := "in", type := (.object "java/io/InputStream"), accessFlags := 25, slot := 0, constantValue := 0 }, { name := "out", type := (.object "java/io/PrintStream"), accessFlags := 25, slot := 1, constantValue := 0 }, { name := "err", type := (.object "java/io/PrintStream"), accessFlags := 25, slot := 2, constantValue := 0 }, { name := "initialIn", type := (.object "java/io/InputStream"), accessFlags := 10, slot := 3, constantValue := 0 }, { name := "NEVER", type := .int, accessFlags := 26, slot := 4, constantValue := 0 }, { name := "MAYBE", type := .int, accessFlags := 26, slot := 5, constantValue := 0 }, { name := "allowSecurityManager", type := .int, accessFlags := 10, slot := 6, constantValue := 0 }, { name := "security", type := (.object "java/lang/SecurityManager"), accessFlags := 74, slot := 7, constantValue := 0 }, { name := "notSupportedJnuEncoding", type := (.object "java/lang/String"), accessFlags := 10, slot := 8, constantValue := 0 }, { name := "cons", type := (.object "java/io/Console"), accessFlags := 74, slot := 9, constantValue := 0 }, { name := "initialErrStream", type := (.object "java/io/PrintStream"), accessFlags := 74, slot := 10, constantValue := 0 }, { name := "props", type := (.object "java/util/Properties"), accessFlags := 10, slot := 11, constantValue := 0 }, { name := "lineSeparator", type := (.object "java/lang/String"), accessFlags := 10, slot := 12, constantValue := 0 }, { name := "bootLayer", type := (.object "java/lang/ModuleLayer"), accessFlags := 8, slot := 13, constantValue := 0 }]
  methods := #[k8m0, k8m1]
  instanceTypes := #[]
  staticTypes := #[(.object "java/io/InputStream"), (.object "java/io/PrintStream"), (.object "java/io/PrintStream"), (.object "java/io/InputStream"), .int, .int, .int, (.object "java/lang/SecurityManager"), (.object "java/lang/String"), (.object "java/io/Console"), (.object "java/io/PrintStream"), (.object "java/util/Properties"), (.object "java/lang/String"), (.object "java/lang/ModuleLayer")]
  resolved := Array.replicate 834 none
  statics := none }

def pool9 : Array CpInfo := pool [(1, .class_ 2), (0, u "java/lang/Appendable"), (0, .class_ 4), (0, u "java/lang/Object")] 9

/-- java/lang/Appendable -/
def k9 : Class := { plain "java/lang/Appendable" (some 0) with
  accessFlags := 1537
  interfaces := #[]
  cf := some (fileOf pool9 1 #[] #[] 1537 3 #[] #[])
  fields := #[]
  methods := #[]
  instanceTypes := #[]
  staticTypes := #[]
  resolved := Array.replicate 14 none
  statics := none }

def pool10 : Array CpInfo := pool [(2, .class_ 4), (1, u "java/lang/CharSequence"), (42, .class_ 48), (0, u "java/lang/CharSequence$1CodePointIterator"), (10, .class_ 60), (0, u "java/lang/CharSequence$1CharIterator"), (5, .class_ 67), (0, u "java/lang/Object")] 63

/-- java/lang/CharSequence -/
def k10 : Class := { plain "java/lang/CharSequence" (some 0) with
  accessFlags := 1537
  interfaces := #[]
  cf := some (fileOf pool10 2 #[.nestMembers #[47, 59]] #[] 1537 66 #[] #[])
  fields := #[]
  methods := #[]
  instanceTypes := #[]
  staticTypes := #[]
  resolved := Array.replicate 131 none
  statics := none }

def pool11 : Array CpInfo := pool [(1, .class_ 2), (0, u "java/lang/String"), (0, .methodref 4 5), (0, .class_ 6), (0, .nameAndType 7 8), (0, u "java/lang/Object"), (0, u "<init>"), (0, u "()V"), (1, .class_ 12), (1, u "java/lang/AbstractStringBuilder"), (0, u "EMPTYVALUE"), (0, u "[B"), (0, .fieldref 10 16), (0, .nameAndType 17 14), (0, u "value"), (0, .fieldref 1 19), (0, .nameAndType 20 21), (0, u "COMPACT_STRINGS"), (0, u "Z"), (0, .fieldref 10 23), (0, .nameAndType 24 25), (0, u "coder"), (0, u "B"), (6, .methodref 1 33), (0, .nameAndType 34 35), (0, u "length"), (0, u "()I"), (0, .class_ 37), (0, u "java/lang/Integer"), (2, .methodref 1 41), (0, .nameAndType 24 42), (0, u "()B"), (2, u "append"), (0, u "(Ljava/lang/String;)Ljava/lang/AbstractStringBuilder;"), (1, .class_ 49), (0, u "java/lang/CharSequence"), (19, u "(Ljava/lang/String;)V"), (5, u "maybeLatin1"), (3, .fieldref 10 80), (0, .nameAndType 81 82), (0, u "count"), (0, u "I"), (0, .methodref 10 84), (0, .nameAndType 85 86), (0, u "isLatin1"), (0, u "()Z"), (13, .methodref 10 101), (0, .nameAndType 102 103), (0, u "ensureCapacityInternal"), (0, u "(I)V"), (3, u "(I)I"), (80, u "getChars"), (19, .methodref 10 209), (0, .nameAndType 210 211), (0, u "putStringAt"), (0, u "(ILjava/lang/String;)V"), (5, u "inflateIfNeededFor"), (2, .nameAndType 221 222), (0, u "getBytes"), (0, u "([BIB)V"), (22, .methodref 36 246), (0, .nameAndType 247 107), (0, u "stringSize"), (0, .methodref 36 249), (0, .nameAndType 188 250), (0, u "(II[B)I"), (146, .methodref 10 398), (0, .nameAndType 217 69), (0, .methodref 1 220), (3, u "()[B"), (40, .class_ 445), (0, u "java/lang/Appendable"), (65, u "(I)Ljava/lang/AbstractStringBuilder;"), (40, u "getValue")] 56

def k11m0 : Method := { name := "<init>", desc := "()V", sig := { parameters := [], returnType := none }, accessFlags := 0, code := none }
def k11c1 : Code := { maxStack := 2, maxLocals := 2, code := jdk_68_method_2_code, exceptionTable := #[], attributes := #[] }
def k11m1 : Method := { name := "<init>", desc := "(I)V", sig := { parameters := [.int], returnType := none }, accessFlags := 0, code := some k11c1 }
def k11c2 : Code := { maxStack := 1, maxLocals := 1, code := jdk_68_method_6_code, exceptionTable := #[], attributes := #[] }
def k11m2 : Method := { name := "length", desc := "()I", sig := { parameters := [], returnType := some .int }, accessFlags := 1, code := some k11c2 }
def k11c3 : Code := { maxStack := 4, maxLocals := 3, code := jdk_68_method_9_code, exceptionTable := #[], attributes := #[] }
def k11m3 : Method := { name := "ensureCapacityInternal", desc := "(I)V", sig := { parameters := [.int], returnType := none }, accessFlags := 2, code := some k11c3 }
def k11c4 : Code := { maxStack := 3, maxLocals := 3, code := jdk_68_method_22_code, exceptionTable := #[], attributes := #[] }
def k11m4 : Method := { name := "append", desc := "(Ljava/lang/String;)Ljava/lang/AbstractStringBuilder;", sig := { parameters := [(.object "java/lang/String")], returnType := some (.object "java/lang/AbstractStringBuilder") }, accessFlags := 1, code := some k11c4 }
def k11c5 : Code := { maxStack := 4, maxLocals := 4, code := jdk_68_method_32_code, exceptionTable := #[], attributes := #[] }
def k11m5 : Method := { name := "append", desc := "(I)Ljava/lang/AbstractStringBuilder;", sig := { parameters := [.int], returnType := some (.object "java/lang/AbstractStringBuilder") }, accessFlags := 1, code := some k11c5 }
def k11c6 : Code := { maxStack := 1, maxLocals := 1, code := jdk_68_method_64_code, exceptionTable := #[], attributes := #[] }
def k11m6 : Method := { name := "getValue", desc := "()[B", sig := { parameters := [], returnType := some (.array .byte) }, accessFlags := 16, code := some k11c6 }
def k11c7 : Code := { maxStack := 1, maxLocals := 1, code := jdk_68_method_68_code, exceptionTable := #[], attributes := #[] }
def k11m7 : Method := { name := "isLatin1", desc := "()Z", sig := { parameters := [], returnType := some .boolean }, accessFlags := 16, code := some k11c7 }
def k11c8 : Code := { maxStack := 2, maxLocals := 2, code := jdk_68_method_71_code, exceptionTable := #[], attributes := #[] }
def k11m8 : Method := { name := "inflateIfNeededFor", desc := "(Ljava/lang/String;)V", sig := { parameters := [(.object "java/lang/String")], returnType := none }, accessFlags := 2, code := some k11c8 }
def k11c9 : Code := { maxStack := 4, maxLocals := 3, code := jdk_68_method_73_code, exceptionTable := #[], attributes := #[] }
def k11m9 : Method := { name := "putStringAt", desc := "(ILjava/lang/String;)V", sig := { parameters := [.int, (.object "java/lang/String")], returnType := none }, accessFlags := 2, code := some k11c9 }
/-- java/lang/AbstractStringBuilder -/
def k11 : Class := { plain "java/lang/AbstractStringBuilder" (some 0) with
  accessFlags := 1056
  interfaces := #[9, 10]
  cf := some (fileOf pool11 10 #[] #[{ accessFlags := 0, nameIndex := 7, descriptorIndex := 8, attributes := #[] }, { accessFlags := 0, nameIndex := 7, descriptorIndex := 103, attributes := #[] }, { accessFlags := 1, nameIndex := 34, descriptorIndex := 35, attributes := #[] }, { accessFlags := 2, nameIndex := 102, descriptorIndex := 103, attributes := #[] }, { accessFlags := 1, nameIndex := 45, descriptorIndex := 46, attributes := #[] }, { accessFlags := 1, nameIndex := 45, descriptorIndex := 511, attributes := #[] }, { accessFlags := 16, nameIndex := 552, descriptorIndex := 403, attributes := #[] }, { accessFlags := 16, nameIndex := 85, descriptorIndex := 86, attributes := #[] }, { accessFlags := 2, nameIndex := 217, descriptorIndex := 69, attributes := #[] }, { accessFlags := 2, nameIndex := 210, descriptorIndex := 211, attributes := #[] }] 1056 4 #[444, 48] #[{ accessFlags := 0, nameIndex := 17, descriptorIndex := 14, attributes := #[] }, { accessFlags := 0, nameIndex := 24, descriptorIndex := 25, attributes := #[] }, { accessFlags := 0, nameIndex := 75, descriptorIndex := 21, attributes := #[] }, { accessFlags := 0, nameIndex := 81, descriptorIndex := 82, attributes := #[] }, { accessFlags := 26, nameIndex := 13, descriptorIndex := 14, attributes := #[] }])
  fields := #[{ name := "value", type := (.array .byte), accessFlags := 0, slot := 0, constantValue := 0 }, { name := "coder", type := .byte, accessFlags := 0, slot := 1, constantValue := 0 }, { name := "maybeLatin1", type := .boolean, accessFlags := 0, slot := 2, constantValue := 0 }, { name := "count", type := .int, accessFlags := 0, slot := 3, constantValue := 0 }, { name := "EMPTYVALUE", type := (.array .byte), accessFlags := 26, slot := 0, constantValue := 0 }]
  methods := #[k11m0, k11m1, k11m2, k11m3, k11m4, k11m5, k11m6, k11m7, k11m8, k11m9]
  instanceTypes := #[(.array .byte), .byte, .boolean, .int]
  staticTypes := #[(.array .byte)]
  resolved := Array.replicate 609 none
  statics := none }

def pool12 : Array CpInfo := pool [(1, .class_ 2), (0, u "java/io/Serializable"), (0, .class_ 4), (0, u "java/lang/Object")] 2

/-- java/io/Serializable -/
def k12 : Class := { plain "java/io/Serializable" (some 0) with
  accessFlags := 1537
  interfaces := #[]
  cf := some (fileOf pool12 1 #[] #[] 1537 3 #[] #[])
  fields := #[]
  methods := #[]
  instanceTypes := #[]
  staticTypes := #[]
  resolved := Array.replicate 7 none
  statics := none }

def pool13 : Array CpInfo := pool [(1, .class_ 2), (0, u "java/lang/Comparable"), (0, .class_ 4), (0, u "java/lang/Object")] 7

/-- java/lang/Comparable -/
def k13 : Class := { plain "java/lang/Comparable" (some 0) with
  accessFlags := 1537
  interfaces := #[]
  cf := some (fileOf pool13 1 #[] #[] 1537 3 #[] #[])
  fields := #[]
  methods := #[]
  instanceTypes := #[]
  staticTypes := #[]
  resolved := Array.replicate 12 none
  statics := none }

def pool14 : Array CpInfo := pool [(1, .methodref 2 3), (0, .class_ 4), (0, .nameAndType 5 6), (0, u "java/lang/AbstractStringBuilder"), (0, u "<init>"), (0, u "(I)V"), (11, .class_ 20), (1, u "java/lang/String"), (3, .class_ 26), (1, u "java/lang/StringBuilder"), (0, u "append"), (0, u "(Ljava/lang/String;)Ljava/lang/StringBuilder;"), (0, .methodref 2 30), (0, .nameAndType 27 31), (0, u "(Ljava/lang/String;)Ljava/lang/AbstractStringBuilder;"), (21, .methodref 2 54), (0, .nameAndType 27 55), (0, u "(I)Ljava/lang/AbstractStringBuilder;"), (81, .methodref 18 138), (0, .nameAndType 5 139), (0, u "(Ljava/lang/StringBuilder;)V"), (5, u "()V"), (10, u "()I"), (111, u "(I)Ljava/lang/StringBuilder;"), (74, .methodref 2 344), (0, .nameAndType 345 156), (0, u "length"), (3, .class_ 350), (0, u "java/lang/Appendable"), (0, .class_ 352), (0, u "java/io/Serializable"), (0, .class_ 354), (0, u "java/lang/Comparable"), (0, .class_ 356), (0, u "java/lang/CharSequence"), (0, u "serialVersionUID"), (0, u "J"), (40, u "toString"), (0, u "()Ljava/lang/String;")] 21

def k14c0 : Code := { maxStack := 2, maxLocals := 1, code := jdk_67_method_1_code, exceptionTable := #[], attributes := #[] }
def k14m0 : Method := { name := "<init>", desc := "()V", sig := { parameters := [], returnType := none }, accessFlags := 1, code := some k14c0 }
def k14c1 : Code := { maxStack := 2, maxLocals := 2, code := jdk_67_method_7_code, exceptionTable := #[], attributes := #[] }
def k14m1 : Method := { name := "append", desc := "(Ljava/lang/String;)Ljava/lang/StringBuilder;", sig := { parameters := [(.object "java/lang/String")], returnType := some (.object "java/lang/StringBuilder") }, accessFlags := 1, code := some k14c1 }
def k14c2 : Code := { maxStack := 2, maxLocals := 2, code := jdk_67_method_15_code, exceptionTable := #[], attributes := #[] }
def k14m2 : Method := { name := "append", desc := "(I)Ljava/lang/StringBuilder;", sig := { parameters := [.int], returnType := some (.object "java/lang/StringBuilder") }, accessFlags := 1, code := some k14c2 }
def k14c3 : Code := { maxStack := 3, maxLocals := 1, code := jdk_67_method_42_code, exceptionTable := #[], attributes := #[] }
def k14m3 : Method := { name := "toString", desc := "()Ljava/lang/String;", sig := { parameters := [], returnType := some (.object "java/lang/String") }, accessFlags := 1, code := some k14c3 }
def k14c4 : Code := { maxStack := 1, maxLocals := 1, code := jdk_67_method_93_code, exceptionTable := #[], attributes := #[] }
def k14m4 : Method := { name := "length", desc := "()I", sig := { parameters := [], returnType := some .int }, accessFlags := 4161, code := some k14c4 }
/-- java/lang/StringBuilder -/
def k14 : Class := { plain "java/lang/StringBuilder" (some 11) with
  accessFlags := 49
  interfaces := #[9, 12, 13, 10]
  cf := some (fileOf pool14 24 #[] #[{ accessFlags := 1, nameIndex := 5, descriptorIndex := 145, attributes := #[] }, { accessFlags := 1, nameIndex := 27, descriptorIndex := 28, attributes := #[] }, { accessFlags := 1, nameIndex := 27, descriptorIndex := 268, attributes := #[] }, { accessFlags := 1, nameIndex := 399, descriptorIndex := 400, attributes := #[] }, { accessFlags := 4161, nameIndex := 345, descriptorIndex := 156, attributes := #[] }] 49 2 #[349, 351, 353, 355] #[{ accessFlags := 24, nameIndex := 357, descriptorIndex := 358, attributes := #[] }])
  fields := #[{ name := "serialVersionUID", type := .long, accessFlags := 24, slot := 0, constantValue := 0 }]
  methods := #[k14m0, k14m1, k14m2, k14m3, k14m4]
  instanceTypes := #[(.array .byte), .byte, .boolean, .int]
  staticTypes := #[.long]
  resolved := Array.replicate 422 none
  statics := none }

def pool15 : Array CpInfo := pool [(1, .class_ 2), (0, u "java/lang/constant/Constable"), (0, .class_ 4), (0, u "java/lang/Object")] 6

/-- java/lang/constant/Constable -/
def k15 : Class := { plain "java/lang/constant/Constable" (some 0) with
  accessFlags := 1537
  interfaces := #[]
  cf := some (fileOf pool15 1 #[] #[] 1537 3 #[] #[])
  fields := #[]
  methods := #[]
  instanceTypes := #[]
  staticTypes := #[]
  resolved := Array.replicate 11 none
  statics := none }

def pool16 : Array CpInfo := pool [(1, .class_ 2), (0, u "java/lang/constant/ConstantDesc"), (0, .class_ 4), (0, u "java/lang/Object")] 32

/-- java/lang/constant/ConstantDesc -/
def k16 : Class := { plain "java/lang/constant/ConstantDesc" (some 0) with
  accessFlags := 1537
  interfaces := #[]
  cf := some (fileOf pool16 1 #[] #[] 1537 3 #[] #[])
  fields := #[]
  methods := #[]
  instanceTypes := #[]
  staticTypes := #[]
  resolved := Array.replicate 37 none
  statics := none }

def pool17 : Array CpInfo := pool [(1, .methodref 2 3), (0, .class_ 4), (0, .nameAndType 5 6), (0, u "java/lang/Object"), (0, u "<init>"), (0, u "()V"), (2, .fieldref 10 11), (0, .class_ 12), (0, .nameAndType 13 14), (0, u "java/lang/String"), (0, u "value"), (0, u "[B"), (0, .fieldref 10 16), (0, .nameAndType 17 18), (0, u "coder"), (0, u "B"), (2, u "hash"), (0, u "I"), (2, u "hashIsZero"), (0, u "Z"), (11, .fieldref 10 39), (0, .nameAndType 40 26), (0, u "COMPACT_STRINGS"), (13, .methodref 55 56), (0, .class_ 57), (0, .nameAndType 58 59), (0, u "java/util/Arrays"), (0, u "copyOfRange"), (0, u "([BII)[B"), (82, u "()Z"), (50, .class_ 195), (1, u "java/lang/System"), (16, .methodref 193 213), (0, .nameAndType 214 215), (0, u "arraycopy"), (0, u "(Ljava/lang/Object;ILjava/lang/Object;II)V"), (118, u "()I"), (0, .methodref 10 336), (0, .nameAndType 17 337), (0, u "()B"), (2, u "()[B"), (148, .methodref 10 490), (0, .nameAndType 5 491), (0, u "(Ljava/lang/AbstractStringBuilder;Ljava/lang/Void;)V"), (1, .nameAndType 494 142), (0, u "isLatin1"), (11, .nameAndType 507 334), (0, u "length"), (24, u "getBytes"), (16, .methodref 550 506), (0, .class_ 551), (0, u "java/lang/AbstractStringBuilder"), (0, .methodref 550 553), (0, .nameAndType 554 340), (0, u "getValue"), (20, .class_ 576), (0, u "java/lang/CharSequence"), (22, u "CASE_INSENSITIVE_ORDER"), (0, u "Ljava/util/Comparator;"), (220, u "([BIB)V"), (225, .methodref 550 493), (53, u "serialPersistentFields"), (0, u "[Ljava/io/ObjectStreamField;"), (0, .class_ 1104), (0, u "java/lang/String$CaseInsensitiveComparator"), (1, .class_ 1107), (0, u "java/io/Serializable"), (0, .class_ 1109), (0, u "java/lang/Comparable"), (0, .class_ 1111), (0, u "java/lang/constant/Constable"), (0, .class_ 1113), (0, u "java/lang/constant/ConstantDesc"), (2, u "serialVersionUID"), (0, u "J"), (3, u "REPL"), (0, u "C"), (2, u "LATIN1"), (1, u "UTF16"), (105, u "(Ljava/lang/StringBuilder;)V")] 217

def k17m0 : Method := { name := "<init>", desc := "()V", sig := { parameters := [], returnType := none }, accessFlags := 1, code := none }
def k17c1 : Code := { maxStack := 3, maxLocals := 2, code := jdk_42_method_53_code, exceptionTable := #[], attributes := #[] }
def k17m1 : Method := { name := "<init>", desc := "(Ljava/lang/StringBuilder;)V", sig := { parameters := [(.object "java/lang/StringBuilder")], returnType := none }, accessFlags := 1, code := some k17c1 }
def k17c2 : Code := { maxStack := 2, maxLocals := 1, code := jdk_42_method_54_code, exceptionTable := #[], attributes := #[] }
def k17m2 : Method := { name := "length", desc := "()I", sig := { parameters := [], returnType := some .int }, accessFlags := 1, code := some k17c2 }
def k17c3 : Code := { maxStack := 5, maxLocals := 4, code := jdk_42_method_147_code, exceptionTable := #[], attributes := #[] }
def k17m3 : Method := { name := "getBytes", desc := "([BIB)V", sig := { parameters := [(.array .byte), .int, .byte], returnType := none }, accessFlags := 0, code := some k17c3 }
def k17c4 : Code := { maxStack := 5, maxLocals := 5, code := jdk_42_method_150_code, exceptionTable := #[], attributes := #[] }
def k17m4 : Method := { name := "<init>", desc := "(Ljava/lang/AbstractStringBuilder;Ljava/lang/Void;)V", sig := { parameters := [(.object "java/lang/AbstractStringBuilder"), (.object "java/lang/Void")], returnType := none }, accessFlags := 0, code := some k17c4 }
def k17c5 : Code := { maxStack := 1, maxLocals := 1, code := jdk_42_method_152_code, exceptionTable := #[], attributes := #[] }
def k17m5 : Method := { name := "coder", desc := "()B", sig := { parameters := [], returnType := some .byte }, accessFlags := 0, code := some k17c5 }
/-- java/lang/String -/
def k17 : Class := { plain "java/lang/String" (some 0) with
  accessFlags := 49
  interfaces := #[12, 13, 10, 15, 16]
  cf := some (fileOf pool17 10 #[.nestMembers #[1103]] #[{ accessFlags := 1, nameIndex := 5, descriptorIndex := 6, attributes := #[] }, { accessFlags := 1, nameIndex := 5, descriptorIndex := 1233, attributes := #[] }, { accessFlags := 1, nameIndex := 507, descriptorIndex := 334, attributes := #[] }, { accessFlags := 0, nameIndex := 532, descriptorIndex := 821, attributes := #[] }, { accessFlags := 0, nameIndex := 5, descriptorIndex := 491, attributes := #[] }, { accessFlags := 0, nameIndex := 17, descriptorIndex := 337, attributes := #[] }] 49 2 #[1106, 1108, 575, 1110, 1112] #[{ accessFlags := 18, nameIndex := 13, descriptorIndex := 14, attributes := #[] }, { accessFlags := 18, nameIndex := 17, descriptorIndex := 18, attributes := #[] }, { accessFlags := 2, nameIndex := 21, descriptorIndex := 22, attributes := #[] }, { accessFlags := 2, nameIndex := 25, descriptorIndex := 26, attributes := #[] }, { accessFlags := 26, nameIndex := 1116, descriptorIndex := 1117, attributes := #[] }, { accessFlags := 24, nameIndex := 40, descriptorIndex := 26, attributes := #[] }, { accessFlags := 26, nameIndex := 1101, descriptorIndex := 1102, attributes := #[] }, { accessFlags := 26, nameIndex := 1121, descriptorIndex := 1122, attributes := #[] }, { accessFlags := 25, nameIndex := 599, descriptorIndex := 600, attributes := #[] }, { accessFlags := 24, nameIndex := 1125, descriptorIndex := 18, attributes := #[] }, { accessFlags := 24, nameIndex := 1127, descriptorIndex := 18, attributes := #[] }])
  fields := #[{ name := "value", type := (.array .byte), accessFlags := 18, slot := 0, constantValue := 0 }, { name := "coder", type := .byte, accessFlags := 18, slot := 1, constantValue := 0 }, { name := "hash", type := .int, accessFlags := 2, slot := 2, constantValue := 0 }, { name := "hashIsZero", type := .boolean, accessFlags := 2, slot := 3, constantValue := 0 }, { name := "serialVersionUID", type := .long, accessFlags := 26, slot := 0, constantValue := 0 }, { name := "COMPACT_STRINGS", type := .boolean, accessFlags := 24, slot := 1, constantValue := 0 }, { name := "serialPersistentFields", type := (.array (.object "java/io/ObjectStreamField")), accessFlags := 26, slot := 2, constantValue := 0 }, { name := "REPL", type := .char, accessFlags := 26, slot := 3, constantValue := 0 }, { name := "CASE_INSENSITIVE_ORDER", type := (.object "java/util/Comparator"), accessFlags := 25, slot := 4, constantValue := 0 }, { name := "LATIN1", type := .byte, accessFlags := 24, slot := 5, constantValue := 0 }, { name := "UTF16", type := .byte, accessFlags := 24, slot := 6, constantValue := 0 }]
  methods := #[k17m0, k17m1, k17m2, k17m3, k17m4, k17m5]
  instanceTypes := #[(.array .byte), .byte, .int, .boolean]
  staticTypes := #[.long, .boolean, (.array (.object "java/io/ObjectStreamField")), .char, (.object "java/util/Comparator"), .byte, .byte]
  resolved := Array.replicate 1451 none
  statics := some 1 }

def pool18 : Array CpInfo := pool [(2, .class_ 4), (1, u "java/lang/Object"), (0, u "<init>"), (0, u "()V"), (1, .class_ 10), (1, u "java/lang/Number"), (2, .class_ 14), (0, u "java/io/Serializable"), (0, u "serialVersionUID"), (0, u "J")] 20

def k18m0 : Method := { name := "<init>", desc := "()V", sig := { parameters := [], returnType := none }, accessFlags := 1, code := none }
/-- java/lang/Number -/
def k18 : Class := { plain "java/lang/Number" (some 0) with
  accessFlags := 1057
  interfaces := #[12]
  cf := some (fileOf pool18 8 #[] #[{ accessFlags := 1, nameIndex := 5, descriptorIndex := 6, attributes := #[] }] 1057 2 #[13] #[{ accessFlags := 26, nameIndex := 15, descriptorIndex := 16, attributes := #[] }])
  fields := #[{ name := "serialVersionUID", type := .long, accessFlags := 26, slot := 0, constantValue := 0 }]
  methods := #[k18m0]
  instanceTypes := #[]
  staticTypes := #[.long]
  resolved := Array.replicate 37 none
  statics := none }

def pool19 : Array CpInfo := pool [(1, .class_ 2), (0, u "java/lang/Integer"), (16, u "digits"), (0, u "[C"), (33, u "(I)I"), (19, u "stringSize"), (2, u "getChars"), (0, u "(II[B)I"), (4, .fieldref 1 84), (0, .nameAndType 85 86), (0, u "DigitOnes"), (0, u "[B"), (0, .fieldref 1 88), (0, .nameAndType 89 86), (0, u "DigitTens"), (99, .class_ 190), (0, u "java/lang/Integer$IntegerCache"), (3, u "I"), (8, .class_ 204), (0, u "java/lang/Number"), (2, u "value"), (94, u "TYPE"), (0, u "Ljava/lang/Class;"), (0, .class_ 305), (0, u "java/lang/Comparable"), (0, .class_ 307), (0, u "java/lang/constant/Constable"), (0, .class_ 309), (0, u "java/lang/constant/ConstantDesc"), (0, u "MIN_VALUE"), (1, u "MAX_VALUE"), (3, u "SIZE"), (1, u "BYTES"), (1, u "serialVersionUID"), (0, u "J")] 131

def k19c0 : Code := { maxStack := 4, maxLocals := 7, code := jdk_33_method_12_code, exceptionTable := #[], attributes := #[] }
def k19m0 : Method := { name := "getChars", desc := "(II[B)I", sig := { parameters := [.int, .int, (.array .byte)], returnType := some .int }, accessFlags := 8, code := some k19c0 }
def k19c1 : Code := { maxStack := 2, maxLocals := 4, code := jdk_33_method_13_code, exceptionTable := #[], attributes := #[] }
def k19m1 : Method := { name := "stringSize", desc := "(I)I", sig := { parameters := [.int], returnType := some .int }, accessFlags := 8, code := some k19c1 }
/-- java/lang/Integer -/
def k19 : Class := { plain "java/lang/Integer" (some 18) with
  accessFlags := 49
  interfaces := #[13, 15, 16]
  cf := some (fileOf pool19 1 #[.nestMembers #[189]] #[{ accessFlags := 8, nameIndex := 77, descriptorIndex := 78, attributes := #[] }, { accessFlags := 8, nameIndex := 74, descriptorIndex := 54, attributes := #[] }] 49 203 #[304, 306, 308] #[{ accessFlags := 25, nameIndex := 310, descriptorIndex := 194, attributes := #[] }, { accessFlags := 25, nameIndex := 312, descriptorIndex := 194, attributes := #[] }, { accessFlags := 25, nameIndex := 302, descriptorIndex := 303, attributes := #[] }, { accessFlags := 24, nameIndex := 19, descriptorIndex := 20, attributes := #[] }, { accessFlags := 24, nameIndex := 89, descriptorIndex := 86, attributes := #[] }, { accessFlags := 24, nameIndex := 85, descriptorIndex := 86, attributes := #[] }, { accessFlags := 18, nameIndex := 207, descriptorIndex := 194, attributes := #[] }, { accessFlags := 25, nameIndex := 316, descriptorIndex := 194, attributes := #[] }, { accessFlags := 25, nameIndex := 318, descriptorIndex := 194, attributes := #[] }, { accessFlags := 26, nameIndex := 320, descriptorIndex := 321, attributes := #[] }])
  fields := #[{ name := "MIN_VALUE", type := .int, accessFlags := 25, slot := 0, constantValue := 0 }, { name := "MAX_VALUE", type := .int, accessFlags := 25, slot := 1, constantValue := 0 }, { name := "TYPE", type := (.object "java/lang/Class"), accessFlags := 25, slot := 2, constantValue := 0 }, { name := "digits", type := (.array .char), accessFlags := 24, slot := 3, constantValue := 0 }, { name := "DigitTens", type := (.array .byte), accessFlags := 24, slot := 4, constantValue := 0 }, { name := "DigitOnes", type := (.array .byte), accessFlags := 24, slot := 5, constantValue := 0 }, { name := "value", type := .int, accessFlags := 18, slot := 0, constantValue := 0 }, { name := "SIZE", type := .int, accessFlags := 25, slot := 6, constantValue := 0 }, { name := "BYTES", type := .int, accessFlags := 25, slot := 7, constantValue := 0 }, { name := "serialVersionUID", type := .long, accessFlags := 26, slot := 8, constantValue := 0 }]
  methods := #[k19m0, k19m1]
  instanceTypes := #[.int]
  staticTypes := #[.int, .int, (.object "java/lang/Class"), (.array .char), (.array .byte), (.array .byte), .int, .int, .long]
  resolved := Array.replicate 453 none
  statics := some 2 }

def pool20 : Array CpInfo := pool [(1, .class_ 2), (0, u "java/lang/Double"), (10, u "isFinite"), (0, u "(D)Z"), (8, .class_ 25), (1, u "java/lang/Math"), (12, .methodref 23 39), (0, .nameAndType 40 41), (0, u "abs"), (0, u "(D)D"), (69, .double 9218868437227405311), (2, .class_ 116), (1, u "java/lang/Number"), (3, u "value"), (0, u "D"), (51, u "TYPE"), (0, u "Ljava/lang/Class;"), (0, .class_ 176), (0, u "java/lang/Comparable"), (0, .class_ 178), (0, u "java/lang/constant/Constable"), (0, .class_ 180), (0, u "java/lang/constant/ConstantDesc"), (0, u "POSITIVE_INFINITY"), (3, u "NEGATIVE_INFINITY"), (2, u "NaN"), (2, u "MAX_VALUE"), (0, u "MIN_NORMAL"), (0, u "MIN_VALUE"), (2, u "SIZE"), (0, u "I"), (1, u "PRECISION"), (1, u "MAX_EXPONENT"), (1, u "MIN_EXPONENT"), (1, u "BYTES"), (3, u "serialVersionUID"), (0, u "J")] 79

def k20c0 : Code := { maxStack := 4, maxLocals := 2, code := jdk_117_method_8_code, exceptionTable := #[], attributes := #[] }
def k20m0 : Method := { name := "isFinite", desc := "(D)Z", sig := { parameters := [.double], returnType := some .boolean }, accessFlags := 9, code := some k20c0 }
/-- java/lang/Double -/
def k20 : Class := { plain "java/lang/Double" (some 18) with
  accessFlags := 49
  interfaces := #[13, 15, 16]
  cf := some (fileOf pool20 1 #[] #[{ accessFlags := 9, nameIndex := 13, descriptorIndex := 14, attributes := #[] }] 49 114 #[175, 177, 179] #[{ accessFlags := 25, nameIndex := 181, descriptorIndex := 121, attributes := #[] }, { accessFlags := 25, nameIndex := 185, descriptorIndex := 121, attributes := #[] }, { accessFlags := 25, nameIndex := 188, descriptorIndex := 121, attributes := #[] }, { accessFlags := 25, nameIndex := 191, descriptorIndex := 121, attributes := #[] }, { accessFlags := 25, nameIndex := 192, descriptorIndex := 121, attributes := #[] }, { accessFlags := 25, nameIndex := 193, descriptorIndex := 121, attributes := #[] }, { accessFlags := 25, nameIndex := 196, descriptorIndex := 197, attributes := #[] }, { accessFlags := 25, nameIndex := 199, descriptorIndex := 197, attributes := #[] }, { accessFlags := 25, nameIndex := 201, descriptorIndex := 197, attributes := #[] }, { accessFlags := 25, nameIndex := 203, descriptorIndex := 197, attributes := #[] }, { accessFlags := 25, nameIndex := 205, descriptorIndex := 197, attributes := #[] }, { accessFlags := 25, nameIndex := 173, descriptorIndex := 174, attributes := #[] }, { accessFlags := 18, nameIndex := 120, descriptorIndex := 121, attributes := #[] }, { accessFlags := 26, nameIndex := 209, descriptorIndex := 210, attributes := #[] }])
  fields := #[{ name := "POSITIVE_INFINITY", type := .double, accessFlags := 25, slot := 0, constantValue := 0 }, { name := "NEGATIVE_INFINITY", type := .double, accessFlags := 25, slot := 1, constantValue := 0 }, { name := "NaN", type := .double, accessFlags := 25, slot := 2, constantValue := 0 }, { name := "MAX_VALUE", type := .double, accessFlags := 25, slot := 3, constantValue := 0 }, { name := "MIN_NORMAL", type := .double, accessFlags := 25, slot := 4, constantValue := 0 }, { name := "MIN_VALUE", type := .double, accessFlags := 25, slot := 5, constantValue := 0 }, { name := "SIZE", type := .int, accessFlags := 25, slot := 6, constantValue := 0 }, { name := "PRECISION", type := .int, accessFlags := 25, slot := 7, constantValue := 0 }, { name := "MAX_EXPONENT", type := .int, accessFlags := 25, slot := 8, constantValue := 0 }, { name := "MIN_EXPONENT", type := .int, accessFlags := 25, slot := 9, constantValue := 0 }, { name := "BYTES", type := .int, accessFlags := 25, slot := 10, constantValue := 0 }, { name := "TYPE", type := (.object "java/lang/Class"), accessFlags := 25, slot := 11, constantValue := 0 }, { name := "value", type := .double, accessFlags := 18, slot := 0, constantValue := 0 }, { name := "serialVersionUID", type := .long, accessFlags := 26, slot := 12, constantValue := 0 }]
  methods := #[k20m0]
  instanceTypes := #[.double]
  staticTypes := #[.double, .double, .double, .double, .double, .double, .int, .int, .int, .int, .int, (.object "java/lang/Class"), .long]
  resolved := Array.replicate 290 none
  statics := none }

def pool21 : Array CpInfo := pool [(1, .class_ 2), (0, u "java/lang/Cloneable"), (0, .class_ 4), (0, u "java/lang/Object")] 2

/-- java/lang/Cloneable -/
def k21 : Class := { plain "java/lang/Cloneable" (some 0) with
  accessFlags := 1537
  interfaces := #[]
  cf := some (fileOf pool21 1 #[] #[] 1537 3 #[] #[])
  fields := #[]
  methods := #[]
  instanceTypes := #[]
  staticTypes := #[]
  resolved := Array.replicate 7 none
  statics := none }

def pool22 : Array CpInfo := pool [(4, .class_ 6), (1, u "java/lang/Object"), (0, u "<init>"), (0, u "()V"), (5, .class_ 16), (1, u "java/lang/StringLatin1"), (104, u "$assertionsDisabled"), (0, u "Z"), (98, .class_ 223), (1, u "java/lang/StringLatin1$LinesSpliterator"), (166, .class_ 391), (0, u "java/lang/StringLatin1$CharsSpliterator")] 3

def k22m0 : Method := { name := "<init>", desc := "()V", sig := { parameters := [], returnType := none }, accessFlags := 0, code := none }
/-- java/lang/StringLatin1 -/
def k22 : Class := { plain "java/lang/StringLatin1" (some 0) with
  accessFlags := 48
  interfaces := #[]
  cf := some (fileOf pool22 14 #[.nestMembers #[390, 221]] #[{ accessFlags := 0, nameIndex := 7, descriptorIndex := 8, attributes := #[] }] 48 4 #[] #[{ accessFlags := 4120, nameIndex := 121, descriptorIndex := 122, attributes := #[] }])
  fields := #[{ name := "$assertionsDisabled", type := .boolean, accessFlags := 4120, slot := 0, constantValue := 0 }]
  methods := #[k22m0]
  instanceTypes := #[]
  staticTypes := #[.boolean]
  resolved := Array.replicate 395 none
  statics := none }

def pool23 : Array CpInfo := pool [(9, u "<init>"), (6, .class_ 18), (1, u "java/lang/Object"), (0, u "()V"), (1, .class_ 23), (1, u "jdk/internal/util/ArraysSupport"), (0, u "LOG2_ARRAY_LONG_INDEX_SCALE"), (0, u "I"), (2, u "U"), (0, u "Ljdk/internal/misc/Unsafe;"), (8, u "BIG_ENDIAN"), (0, u "Z"), (8, u "LOG2_BYTE_BIT_SIZE"), (4, u "LOG2_ARRAY_INT_INDEX_SCALE"), (54, u "JLA"), (0, u "Ljdk/internal/access/JavaLangAccess;"), (11, u "LOG2_ARRAY_BOOLEAN_INDEX_SCALE"), (9, u "LOG2_ARRAY_BYTE_INDEX_SCALE"), (5, u "LOG2_ARRAY_CHAR_INDEX_SCALE"), (5, u "LOG2_ARRAY_SHORT_INDEX_SCALE"), (18, u "LOG2_ARRAY_FLOAT_INDEX_SCALE"), (24, u "LOG2_ARRAY_DOUBLE_INDEX_SCALE"), (89, u "T_BOOLEAN"), (2, u "T_CHAR"), (1, u "T_FLOAT"), (1, u "T_DOUBLE"), (1, u "T_BYTE"), (1, u "T_SHORT"), (1, u "T_INT"), (1, u "T_LONG"), (1, u "SOFT_MAX_ARRAY_LENGTH")] 83

def k23m0 : Method := { name := "<init>", desc := "()V", sig := { parameters := [], returnType := none }, accessFlags := 2, code := none }
/-- jdk/internal/util/ArraysSupport -/
def k23 : Class := { plain "jdk/internal/util/ArraysSupport" (some 0) with
  accessFlags := 33
  interfaces := #[]
  cf := some (fileOf pool23 21 #[] #[{ accessFlags := 2, nameIndex := 9, descriptorIndex := 19, attributes := #[] }] 33 16 #[] #[{ accessFlags := 24, nameIndex := 28, descriptorIndex := 29, attributes := #[] }, { accessFlags := 26, nameIndex := 38, descriptorIndex := 39, attributes := #[] }, { accessFlags := 25, nameIndex := 121, descriptorIndex := 25, attributes := #[] }, { accessFlags := 25, nameIndex := 131, descriptorIndex := 25, attributes := #[] }, { accessFlags := 25, nameIndex := 137, descriptorIndex := 25, attributes := #[] }, { accessFlags := 25, nameIndex := 143, descriptorIndex := 25, attributes := #[] }, { accessFlags := 25, nameIndex := 53, descriptorIndex := 25, attributes := #[] }, { accessFlags := 25, nameIndex := 24, descriptorIndex := 25, attributes := #[] }, { accessFlags := 25, nameIndex := 162, descriptorIndex := 25, attributes := #[] }, { accessFlags := 25, nameIndex := 187, descriptorIndex := 25, attributes := #[] }, { accessFlags := 26, nameIndex := 48, descriptorIndex := 25, attributes := #[] }, { accessFlags := 25, nameIndex := 277, descriptorIndex := 25, attributes := #[] }, { accessFlags := 25, nameIndex := 280, descriptorIndex := 25, attributes := #[] }, { accessFlags := 25, nameIndex := 282, descriptorIndex := 25, attributes := #[] }, { accessFlags := 25, nameIndex := 284, descriptorIndex := 25, attributes := #[] }, { accessFlags := 25, nameIndex := 286, descriptorIndex := 25, attributes := #[] }, { accessFlags := 25, nameIndex := 288, descriptorIndex := 25, attributes := #[] }, { accessFlags := 25, nameIndex := 290, descriptorIndex := 25, attributes := #[] }, { accessFlags := 25, nameIndex := 292, descriptorIndex := 25, attributes := #[] }, { accessFlags := 26, nameIndex := 108, descriptorIndex := 109, attributes := #[] }, { accessFlags := 25, nameIndex := 294, descriptorIndex := 25, attributes := #[] }])
  fields := #[{ name := "U", type := (.object "jdk/internal/misc/Unsafe"), accessFlags := 24, slot := 0, constantValue := 0 }, { name := "BIG_ENDIAN", type := .boolean, accessFlags := 26, slot := 1, constantValue := 0 }, { name := "LOG2_ARRAY_BOOLEAN_INDEX_SCALE", type := .int, accessFlags := 25, slot := 2, constantValue := 0 }, { name := "LOG2_ARRAY_BYTE_INDEX_SCALE", type := .int, accessFlags := 25, slot := 3, constantValue := 0 }, { name := "LOG2_ARRAY_CHAR_INDEX_SCALE", type := .int, accessFlags := 25, slot := 4, constantValue := 0 }, { name := "LOG2_ARRAY_SHORT_INDEX_SCALE", type := .int, accessFlags := 25, slot := 5, constantValue := 0 }, { name := "LOG2_ARRAY_INT_INDEX_SCALE", type := .int, accessFlags := 25, slot := 6, constantValue := 0 }, { name := "LOG2_ARRAY_LONG_INDEX_SCALE", type := .int, accessFlags := 25, slot := 7, constantValue := 0 }, { name := "LOG2_ARRAY_FLOAT_INDEX_SCALE", type := .int, accessFlags := 25, slot := 8, constantValue := 0 }, { name := "LOG2_ARRAY_DOUBLE_INDEX_SCALE", type := .int, accessFlags := 25, slot := 9, constantValue := 0 }, { name := "LOG2_BYTE_BIT_SIZE", type := .int, accessFlags := 26, slot := 10, constantValue := 0 }, { name := "T_BOOLEAN", type := .int, accessFlags := 25, slot := 11, constantValue := 0 }, { name := "T_CHAR", type := .int, accessFlags := 25, slot := 12, constantValue := 0 }, { name := "T_FLOAT", type := .int, accessFlags := 25, slot := 13, constantValue := 0 }, { name := "T_DOUBLE", type := .int, accessFlags := 25, slot := 14, constantValue := 0 }, { name := "T_BYTE", type := .int, accessFlags := 25, slot := 15, constantValue := 0 }, { name := "T_SHORT", type := .int, accessFlags := 25, slot := 16, constantValue := 0 }, { name := "T_INT", type := .int, accessFlags := 25, slot := 17, constantValue := 0 }, { name := "T_LONG", type := .int, accessFlags := 25, slot := 18, constantValue := 0 }, { name := "JLA", type := (.object "jdk/internal/access/JavaLangAccess"), accessFlags := 26, slot := 19, constantValue := 0 }, { name := "SOFT_MAX_ARRAY_LENGTH", type := .int, accessFlags := 25, slot := 20, constantValue := 0 }]
  methods := #[k23m0]
  instanceTypes := #[]
  staticTypes := #[(.object "jdk/internal/misc/Unsafe"), .boolean, .int, .int, .int, .int, .int, .int, .int, .int, .int, .int, .int, .int, .int, .int, .int, .int, .int, (.object "jdk/internal/access/JavaLangAccess"), .int]
  resolved := Array.replicate 378 none
  statics := none }

/-- the primitive byte -/
def k24 : Class := { plain "byte" none with kind := .primitive 'B', accessFlags := 0x411 }
/-- [B -/
def k25 : Class := { plain "[B" (some 0) with kind := .array 24 .byte, interfaces := #[21, 12], accessFlags := 1041 }

/-- the primitive double -/
def k26 : Class := { plain "double" none with kind := .primitive 'D', accessFlags := 0x411 }
/-- [D -/
def k27 : Class := { plain "[D" (some 0) with kind := .array 26 .double, interfaces := #[21, 12], accessFlags := 1041 }

/-- the primitive int -/
def k28 : Class := { plain "int" none with kind := .primitive 'I', accessFlags := 0x411 }
/-- [I -/
def k29 : Class := { plain "[I" (some 0) with kind := .array 28 .int, interfaces := #[21, 12], accessFlags := 1041 }

def heap : Heap := #[{ cls := 5, slots := #[.null, .null, .null], vm := .statics 5 },
  { cls := 17, slots := #[.long 0, .int 1, .null, .int 0, .null, .int 0, .int 0], vm := .statics 17 },
  { cls := 19, slots := #[.int 0, .int 0, .null, .null, .ref 4, .ref 3, .int 0, .int 0, .long 0], vm := .statics 19 },
  { cls := 25, slots := #[.int 48, .int 49, .int 50, .int 51, .int 52, .int 53, .int 54, .int 55, .int 56, .int 57, .int 48, .int 49, .int 50, .int 51, .int 52, .int 53, .int 54, .int 55, .int 56, .int 57, .int 48, .int 49, .int 50, .int 51, .int 52, .int 53, .int 54, .int 55, .int 56, .int 57, .int 48, .int 49, .int 50, .int 51, .int 52, .int 53, .int 54, .int 55, .int 56, .int 57, .int 48, .int 49, .int 50, .int 51, .int 52, .int 53, .int 54, .int 55, .int 56, .int 57, .int 48, .int 49, .int 50, .int 51, .int 52, .int 53, .int 54, .int 55, .int 56, .int 57, .int 48, .int 49, .int 50, .int 51, .int 52, .int 53, .int 54, .int 55, .int 56, .int 57, .int 48, .int 49, .int 50, .int 51, .int 52, .int 53, .int 54, .int 55, .int 56, .int 57, .int 48, .int 49, .int 50, .int 51, .int 52, .int 53, .int 54, .int 55, .int 56, .int 57, .int 48, .int 49, .int 50, .int 51, .int 52, .int 53, .int 54, .int 55, .int 56, .int 57], vm := .none },
  { cls := 25, slots := #[.int 48, .int 48, .int 48, .int 48, .int 48, .int 48, .int 48, .int 48, .int 48, .int 48, .int 49, .int 49, .int 49, .int 49, .int 49, .int 49, .int 49, .int 49, .int 49, .int 49, .int 50, .int 50, .int 50, .int 50, .int 50, .int 50, .int 50, .int 50, .int 50, .int 50, .int 51, .int 51, .int 51, .int 51, .int 51, .int 51, .int 51, .int 51, .int 51, .int 51, .int 52, .int 52, .int 52, .int 52, .int 52, .int 52, .int 52, .int 52, .int 52, .int 52, .int 53, .int 53, .int 53, .int 53, .int 53, .int 53, .int 53, .int 53, .int 53, .int 53, .int 54, .int 54, .int 54, .int 54, .int 54, .int 54, .int 54, .int 54, .int 54, .int 54, .int 55, .int 55, .int 55, .int 55, .int 55, .int 55, .int 55, .int 55, .int 55, .int 55, .int 56, .int 56, .int 56, .int 56, .int 56, .int 56, .int 56, .int 56, .int 56, .int 56, .int 57, .int 57, .int 57, .int 57, .int 57, .int 57, .int 57, .int 57, .int 57, .int 57], vm := .none }]
def classes : Array Class := #[k0, k1, k2, k3, k4, k5, k6, k7, k8, k9, k10, k11, k12, k13, k14, k15, k16, k17, k18, k19, k20, k21, k22, k23, k24, k25, k26, k27, k28, k29]
def interned : List (Array UInt16 × Addr) := []
def slotsUsed : Nat := 219
def theMethod : MethodId := ⟨1, 1⟩
def args0 : Array Value := #[.int 200, .int 3, .int 7, .int 1, .int 5, .int 9]
def aboutOver (below : List Frame) : State where
  vm := { classes := classes, interned := interned.toArray }
  heap := heap
  slotsUsed := slotsUsed
  threads := #[{ frames := .invoking theMethod args0 :: below }]
def below0 : List Frame := [.native { method := ⟨0, 0⟩, args := #[] }]
def about1 : State := aboutOver below0
def p0 : Program := .bare "" "" ""
def e0 : Env := launch0.env 0 0 0
theorem w_frames : about1.frames = Frame.invoking theMethod args0 :: below0 := rfl
set_option maxRecDepth 65536 in
theorem w_args : argsFit about1.vm theMethod args0 = true := by decide +kernel
set_option maxRecDepth 65536 in
theorem w_heap : heapFits about1 = true := by decide +kernel
set_option maxRecDepth 65536 in
theorem w_runnable : about1.curStatus? = some .runnable := by decide +kernel
set_option maxRecDepth 65536 in
theorem w_alone : about1.alone = true := by decide +kernel
set_option maxRecDepth 65536 in
theorem w_named : about1.methodNamed? x = some theMethod := by decide +kernel
set_option maxRecDepth 65536 in
theorem w_hears : about1.hears theMethod below0 = true := by decide +kernel
set_option maxRecDepth 65536 in
theorem w_ripe : about1.ripe theMethod args0 below0 = true := by decide +kernel
theorem w_running : about1.status = .running := rfl
set_option maxRecDepth 65536 in
theorem w_room : about1.hasRoom e0.platform room_1 = true :=
  launch0.hasRoom_least _ room_1 (by decide +kernel) (by decide +kernel) (by decide +kernel) (by decide +kernel) (by decide +kernel) (by decide +kernel)
theorem allAtoms_all (ts : List Jvm.Cond) (a : Array Jvm.Value) (st : Jvm.State) : (allAtoms ts).before a st = ts.all (fun c => c.before a st) := by
  induction ts with
  | nil => rfl
  | cons c t ih =>
    show (Jvm.Cond.and c (allAtoms t)).before a st = _
    rw [Jvm.Cond.before_and, ih, List.all_cons]
def words1 : List Jvm.Cond := Jvm.Cond.code x code maxLocals ret :: tables_1
/-- a 'code' word, met by the world's own term for the bytes: nothing is compared byte by byte -/
theorem code_word {y : MethodName} {bytes : ByteArray} {mx : Nat} {rt : Option FieldType} {a : Array Value} {s : State} {m : MethodId} {meth : Method} {c : Code} (h1 : s.methodNamed? y = some m) (h2 : s.vm.method? m = some meth) (h3 : meth.code = some c) (h4 : c.code = bytes)
    (h5 : (c.maxLocals == mx && c.exceptionTable.isEmpty && decide (c.maxStack ≤ mostOperands) && decide (meth.sig.returnType = rt) && !meth.locks && decide (parseMethodDescriptor y.desc = some meth.sig)) = true) : (Jvm.Cond.code y bytes mx rt).before a s = true := by
  simp only [Bool.and_eq_true, beq_iff_eq, Bool.not_eq_true', decide_eq_true_eq] at h5
  obtain ⟨⟨⟨⟨⟨g1, g2⟩, g3⟩, g4⟩, g5⟩, g6⟩ := h5
  simp [Cond.before, Cond.holds, Cond.value, h1, h2, h3, h4, g1, g2, g3, g4, g5, g6]
def isCode : Jvm.Cond → Bool
  | .code _ _ _ _ => true
  | _ => false
theorem all_split {L : List Jvm.Cond} {P : Jvm.Cond → Bool} (h1 : L.all (fun c => isCode c || P c) = true) (h2 : ∀ c ∈ L.filter isCode, P c = true) : L.all P = true := by
  refine List.all_eq_true.mpr fun c hc => ?_
  have h := List.all_eq_true.mp h1 c hc
  rcases Bool.eq_false_or_eq_true (isCode c) with hi | hi
  · exact h2 c (List.mem_filter.mpr ⟨hc, hi⟩)
  · simpa [hi] using h
set_option maxRecDepth 65536 in
theorem w_c0 : (Jvm.Cond.code x code maxLocals ret).before args0 about1 = true := code_word (m := ⟨1, 1⟩) (meth := k1m1) (c := k1c1) (by decide +kernel) rfl rfl rfl (by decide +kernel)
set_option maxRecDepth 65536 in
theorem w_c1 : (Jvm.Cond.code ({ cls := "com/example/fleetloom/fleetloom/ChainedProgramme$Builder", name := "<init>", desc := "(I)V" } : Jvm.MethodName) prog_4_method_1_code (2 : Nat) (Option.none : Option Jvm.ClassFile.FieldType)).before args0 about1 = true := code_word (m := ⟨2, 0⟩) (meth := k2m0) (c := k2c0) (by decide +kernel) rfl rfl rfl (by decide +kernel)
set_option maxRecDepth 65536 in
theorem w_c2 : (Jvm.Cond.code ({ cls := "java/lang/Object", name := "<init>", desc := "()V" } : Jvm.MethodName) object_method_1_code (1 : Nat) (Option.none : Option Jvm.ClassFile.FieldType)).before args0 about1 = true := code_word (m := ⟨0, 0⟩) (meth := k0m0) (c := k0c0) (by decide +kernel) rfl rfl rfl (by decide +kernel)
set_option maxRecDepth 65536 in
theorem w_c3 : (Jvm.Cond.code ({ cls := "java/lang/Math", name := "max", desc := "(II)I" } : Jvm.MethodName) jdk_29_method_65_code (2 : Nat) (Option.some Jvm.ClassFile.FieldType.int)).before args0 about1 = true := code_word (m := ⟨3, 2⟩) (meth := k3m2) (c := k3c2) (by decide +kernel) rfl rfl rfl (by decide +kernel)
set_option maxRecDepth 65536 in
theorem w_c4 : (Jvm.Cond.code ({ cls := "com/example/fleetloom/fleetloom/ChainedProgramme$Builder", name := "chain", desc := "(I)I" } : Jvm.MethodName) prog_4_method_2_code (2 : Nat) (Option.some Jvm.ClassFile.FieldType.int)).before args0 about1 = true := code_word (m := ⟨2, 1⟩) (meth := k2m1) (c := k2c1) (by decide +kernel) rfl rfl rfl (by decide +kernel)
set_option maxRecDepth 65536 in
theorem w_c5 : (Jvm.Cond.code ({ cls := "com/example/fleetloom/fleetloom/ChainedProgramme$Builder", name := "grow", desc := "([II)[I" } : Jvm.MethodName) prog_4_method_7_code (2 : Nat) (Option.some (Jvm.ClassFile.FieldType.array Jvm.ClassFile.FieldType.int))).before args0 about1 = true := code_word (m := ⟨2, 4⟩) (meth := k2m4) (c := k2c4) (by decide +kernel) rfl rfl rfl (by decide +kernel)
set_option maxRecDepth 65536 in
theorem w_c6 : (Jvm.Cond.code ({ cls := "com/example/fleetloom/fleetloom/ChainedProgramme$Builder", name := "grow", desc := "([DI)[D" } : Jvm.MethodName) prog_4_method_8_code (2 : Nat) (Option.some (Jvm.ClassFile.FieldType.array Jvm.ClassFile.FieldType.double))).before args0 about1 = true := code_word (m := ⟨2, 5⟩) (meth := k2m5) (c := k2c5) (by decide +kernel) rfl rfl rfl (by decide +kernel)
set_option maxRecDepth 65536 in
theorem w_c7 : (Jvm.Cond.code ({ cls := "com/example/fleetloom/fleetloom/ChainedProgramme$Builder", name := "rhs", desc := "(ID)V" } : Jvm.MethodName) prog_4_method_3_code (4 : Nat) (Option.none : Option Jvm.ClassFile.FieldType)).before args0 about1 = true := code_word (m := ⟨2, 2⟩) (meth := k2m2) (c := k2c2) (by decide +kernel) rfl rfl rfl (by decide +kernel)
set_option maxRecDepth 65536 in
theorem w_c8 : (Jvm.Cond.code ({ cls := "java/util/Objects", name := "checkIndex", desc := "(II)I" } : Jvm.MethodName) jdk_31_method_17_code (2 : Nat) (Option.some Jvm.ClassFile.FieldType.int)).before args0 about1 = true := code_word (m := ⟨4, 1⟩) (meth := k4m1) (c := k4c1) (by decide +kernel) rfl rfl rfl (by decide +kernel)
set_option maxRecDepth 65536 in
theorem w_c9 : (Jvm.Cond.code ({ cls := "jdk/internal/util/Preconditions", name := "checkIndex", desc := "(IILjava/util/function/BiFunction;)I" } : Jvm.MethodName) jdk_41_method_11_code (3 : Nat) (Option.some Jvm.ClassFile.FieldType.int)).before args0 about1 = true := code_word (m := ⟨5, 1⟩) (meth := k5m1) (c := k5c1) (by decide +kernel) rfl rfl rfl (by decide +kernel)
set_option maxRecDepth 65536 in
theorem w_c10 : (Jvm.Cond.code ({ cls := "com/example/fleetloom/fleetloom/ChainedProgramme$Builder", name := "build", desc := "()Lcom/example/fleetloom/fleetloom/ChainedProgramme;" } : Jvm.MethodName) prog_4_method_6_code (3 : Nat) (Option.some (Jvm.ClassFile.FieldType.object "com/example/fleetloom/fleetloom/ChainedProgramme"))).before args0 about1 = true := code_word (m := ⟨2, 3⟩) (meth := k2m3) (c := k2c3) (by decide +kernel) rfl rfl rfl (by decide +kernel)
set_option maxRecDepth 65536 in
theorem w_c11 : (Jvm.Cond.code ({ cls := "com/example/fleetloom/fleetloom/ChainedProgramme", name := "<init>", desc := "(Lcom/example/fleetloom/fleetloom/ChainedProgramme$Builder;)V" } : Jvm.MethodName) prog_3_method_1_code (3 : Nat) (Option.none : Option Jvm.ClassFile.FieldType)).before args0 about1 = true := code_word (m := ⟨6, 0⟩) (meth := k6m0) (c := k6c0) (by decide +kernel) rfl rfl rfl (by decide +kernel)
set_option maxRecDepth 65536 in
theorem w_c12 : (Jvm.Cond.code ({ cls := "java/util/Arrays", name := "copyOf", desc := "([II)[I" } : Jvm.MethodName) jdk_65_method_123_code (3 : Nat) (Option.some (Jvm.ClassFile.FieldType.array Jvm.ClassFile.FieldType.int))).before args0 about1 = true := code_word (m := ⟨7, 3⟩) (meth := k7m3) (c := k7c3) (by decide +kernel) rfl rfl rfl (by decide +kernel)
set_option maxRecDepth 65536 in
theorem w_c13 : (Jvm.Cond.code ({ cls := "java/lang/Math", name := "min", desc := "(II)I" } : Jvm.MethodName) jdk_29_method_69_code (2 : Nat) (Option.some Jvm.ClassFile.FieldType.int)).before args0 about1 = true := code_word (m := ⟨3, 3⟩) (meth := k3m3) (c := k3c3) (by decide +kernel) rfl rfl rfl (by decide +kernel)
set_option maxRecDepth 65536 in
theorem w_c14 : (Jvm.Cond.code ({ cls := "java/util/Arrays", name := "fill", desc := "([IIII)V" } : Jvm.MethodName) jdk_65_method_104_code (5 : Nat) (Option.none : Option Jvm.ClassFile.FieldType)).before args0 about1 = true := code_word (m := ⟨7, 2⟩) (meth := k7m2) (c := k7c2) (by decide +kernel) rfl rfl rfl (by decide +kernel)
set_option maxRecDepth 65536 in
theorem w_c15 : (Jvm.Cond.code ({ cls := "java/util/Arrays", name := "rangeCheck", desc := "(III)V" } : Jvm.MethodName) jdk_65_method_30_code (3 : Nat) (Option.none : Option Jvm.ClassFile.FieldType)).before args0 about1 = true := code_word (m := ⟨7, 1⟩) (meth := k7m1) (c := k7c1) (by decide +kernel) rfl rfl rfl (by decide +kernel)
set_option maxRecDepth 65536 in
theorem w_c16 : (Jvm.Cond.code ({ cls := "java/util/Arrays", name := "copyOf", desc := "([DI)[D" } : Jvm.MethodName) jdk_65_method_127_code (3 : Nat) (Option.some (Jvm.ClassFile.FieldType.array Jvm.ClassFile.FieldType.double))).before args0 about1 = true := code_word (m := ⟨7, 4⟩) (meth := k7m4) (c := k7c4) (by decide +kernel) rfl rfl rfl (by decide +kernel)
set_option maxRecDepth 65536 in
theorem w_c17 : (Jvm.Cond.code ({ cls := "com/example/fleetloom/fleetloom/ChainedProgramme", name := "rows", desc := "()I" } : Jvm.MethodName) prog_3_method_2_code (1 : Nat) (Option.some Jvm.ClassFile.FieldType.int)).before args0 about1 = true := code_word (m := ⟨6, 1⟩) (meth := k6m1) (c := k6c1) (by decide +kernel) rfl rfl rfl (by decide +kernel)
set_option maxRecDepth 65536 in
theorem w_c18 : (Jvm.Cond.code ({ cls := "java/lang/StringBuilder", name := "<init>", desc := "()V" } : Jvm.MethodName) jdk_67_method_1_code (1 : Nat) (Option.none : Option Jvm.ClassFile.FieldType)).before args0 about1 = true := code_word (m := ⟨14, 0⟩) (meth := k14m0) (c := k14c0) (by decide +kernel) rfl rfl rfl (by decide +kernel)
set_option maxRecDepth 65536 in
theorem w_c19 : (Jvm.Cond.code ({ cls := "java/lang/AbstractStringBuilder", name := "<init>", desc := "(I)V" } : Jvm.MethodName) jdk_68_method_2_code (2 : Nat) (Option.none : Option Jvm.ClassFile.FieldType)).before args0 about1 = true := code_word (m := ⟨11, 1⟩) (meth := k11m1) (c := k11c1) (by decide +kernel) rfl rfl rfl (by decide +kernel)
set_option maxRecDepth 65536 in
theorem w_c20 : (Jvm.Cond.code ({ cls := "java/lang/StringBuilder", name := "append", desc := "(Ljava/lang/String;)Ljava/lang/StringBuilder;" } : Jvm.MethodName) jdk_67_method_7_code (2 : Nat) (Option.some (Jvm.ClassFile.FieldType.object "java/lang/StringBuilder"))).before args0 about1 = true := code_word (m := ⟨14, 1⟩) (meth := k14m1) (c := k14c1) (by decide +kernel) rfl rfl rfl (by decide +kernel)
set_option maxRecDepth 65536 in
theorem w_c21 : (Jvm.Cond.code ({ cls := "java/lang/AbstractStringBuilder", name := "append", desc := "(Ljava/lang/String;)Ljava/lang/AbstractStringBuilder;" } : Jvm.MethodName) jdk_68_method_22_code (3 : Nat) (Option.some (Jvm.ClassFile.FieldType.object "java/lang/AbstractStringBuilder"))).before args0 about1 = true := code_word (m := ⟨11, 4⟩) (meth := k11m4) (c := k11c4) (by decide +kernel) rfl rfl rfl (by decide +kernel)
set_option maxRecDepth 65536 in
theorem w_c22 : (Jvm.Cond.code ({ cls := "java/lang/String", name := "length", desc := "()I" } : Jvm.MethodName) jdk_42_method_54_code (1 : Nat) (Option.some Jvm.ClassFile.FieldType.int)).before args0 about1 = true := code_word (m := ⟨17, 2⟩) (meth := k17m2) (c := k17c2) (by decide +kernel) rfl rfl rfl (by decide +kernel)
set_option maxRecDepth 65536 in
theorem w_c23 : (Jvm.Cond.code ({ cls := "java/lang/String", name := "coder", desc := "()B" } : Jvm.MethodName) jdk_42_method_152_code (1 : Nat) (Option.some Jvm.ClassFile.FieldType.byte)).before args0 about1 = true := code_word (m := ⟨17, 5⟩) (meth := k17m5) (c := k17c5) (by decide +kernel) rfl rfl rfl (by decide +kernel)
set_option maxRecDepth 65536 in
theorem w_c24 : (Jvm.Cond.code ({ cls := "java/lang/AbstractStringBuilder", name := "ensureCapacityInternal", desc := "(I)V" } : Jvm.MethodName) jdk_68_method_9_code (3 : Nat) (Option.none : Option Jvm.ClassFile.FieldType)).before args0 about1 = true := code_word (m := ⟨11, 3⟩) (meth := k11m3) (c := k11c3) (by decide +kernel) rfl rfl rfl (by decide +kernel)
set_option maxRecDepth 65536 in
theorem w_c25 : (Jvm.Cond.code ({ cls := "java/lang/AbstractStringBuilder", name := "putStringAt", desc := "(ILjava/lang/String;)V" } : Jvm.MethodName) jdk_68_method_73_code (3 : Nat) (Option.none : Option Jvm.ClassFile.FieldType)).before args0 about1 = true := code_word (m := ⟨11, 9⟩) (meth := k11m9) (c := k11c9) (by decide +kernel) rfl rfl rfl (by decide +kernel)
set_option maxRecDepth 65536 in
theorem w_c26 : (Jvm.Cond.code ({ cls := "java/lang/AbstractStringBuilder", name := "inflateIfNeededFor", desc := "(Ljava/lang/String;)V" } : Jvm.MethodName) jdk_68_method_71_code (2 : Nat) (Option.none : Option Jvm.ClassFile.FieldType)).before args0 about1 = true := code_word (m := ⟨11, 8⟩) (meth := k11m8) (c := k11c8) (by decide +kernel) rfl rfl rfl (by decide +kernel)
set_option maxRecDepth 65536 in
theorem w_c27 : (Jvm.Cond.code ({ cls := "java/lang/String", name := "getBytes", desc := "([BIB)V" } : Jvm.MethodName) jdk_42_method_147_code (4 : Nat) (Option.none : Option Jvm.ClassFile.FieldType)).before args0 about1 = true := code_word (m := ⟨17, 3⟩) (meth := k17m3) (c := k17c3) (by decide +kernel) rfl rfl rfl (by decide +kernel)
set_option maxRecDepth 65536 in
theorem w_c28 : (Jvm.Cond.code ({ cls := "java/lang/StringBuilder", name := "append", desc := "(I)Ljava/lang/StringBuilder;" } : Jvm.MethodName) jdk_67_method_15_code (2 : Nat) (Option.some (Jvm.ClassFile.FieldType.object "java/lang/StringBuilder"))).before args0 about1 = true := code_word (m := ⟨14, 2⟩) (meth := k14m2) (c := k14c2) (by decide +kernel) rfl rfl rfl (by decide +kernel)
set_option maxRecDepth 65536 in
theorem w_c29 : (Jvm.Cond.code ({ cls := "java/lang/AbstractStringBuilder", name := "append", desc := "(I)Ljava/lang/AbstractStringBuilder;" } : Jvm.MethodName) jdk_68_method_32_code (4 : Nat) (Option.some (Jvm.ClassFile.FieldType.object "java/lang/AbstractStringBuilder"))).before args0 about1 = true := code_word (m := ⟨11, 5⟩) (meth := k11m5) (c := k11c5) (by decide +kernel) rfl rfl rfl (by decide +kernel)
set_option maxRecDepth 65536 in
theorem w_c30 : (Jvm.Cond.code ({ cls := "java/lang/Integer", name := "stringSize", desc := "(I)I" } : Jvm.MethodName) jdk_33_method_13_code (4 : Nat) (Option.some Jvm.ClassFile.FieldType.int)).before args0 about1 = true := code_word (m := ⟨19, 1⟩) (meth := k19m1) (c := k19c1) (by decide +kernel) rfl rfl rfl (by decide +kernel)
set_option maxRecDepth 65536 in
theorem w_c31 : (Jvm.Cond.code ({ cls := "java/lang/AbstractStringBuilder", name := "isLatin1", desc := "()Z" } : Jvm.MethodName) jdk_68_method_68_code (1 : Nat) (Option.some Jvm.ClassFile.FieldType.boolean)).before args0 about1 = true := code_word (m := ⟨11, 7⟩) (meth := k11m7) (c := k11c7) (by decide +kernel) rfl rfl rfl (by decide +kernel)
set_option maxRecDepth 65536 in
theorem w_c32 : (Jvm.Cond.code ({ cls := "java/lang/Integer", name := "getChars", desc := "(II[B)I" } : Jvm.MethodName) jdk_33_method_12_code (7 : Nat) (Option.some Jvm.ClassFile.FieldType.int)).before args0 about1 = true := code_word (m := ⟨19, 0⟩) (meth := k19m0) (c := k19c0) (by decide +kernel) rfl rfl rfl (by decide +kernel)
set_option maxRecDepth 65536 in
theorem w_c33 : (Jvm.Cond.code ({ cls := "java/lang/StringBuilder", name := "toString", desc := "()Ljava/lang/String;" } : Jvm.MethodName) jdk_67_method_42_code (1 : Nat) (Option.some (Jvm.ClassFile.FieldType.object "java/lang/String"))).before args0 about1 = true := code_word (m := ⟨14, 3⟩) (meth := k14m3) (c := k14c3) (by decide +kernel) rfl rfl rfl (by decide +kernel)
set_option maxRecDepth 65536 in
theorem w_c34 : (Jvm.Cond.code ({ cls := "java/lang/String", name := "<init>", desc := "(Ljava/lang/StringBuilder;)V" } : Jvm.MethodName) jdk_42_method_53_code (2 : Nat) (Option.none : Option Jvm.ClassFile.FieldType)).before args0 about1 = true := code_word (m := ⟨17, 1⟩) (meth := k17m1) (c := k17c1) (by decide +kernel) rfl rfl rfl (by decide +kernel)
set_option maxRecDepth 65536 in
theorem w_c35 : (Jvm.Cond.code ({ cls := "java/lang/String", name := "<init>", desc := "(Ljava/lang/AbstractStringBuilder;Ljava/lang/Void;)V" } : Jvm.MethodName) jdk_42_method_150_code (5 : Nat) (Option.none : Option Jvm.ClassFile.FieldType)).before args0 about1 = true := code_word (m := ⟨17, 4⟩) (meth := k17m4) (c := k17c4) (by decide +kernel) rfl rfl rfl (by decide +kernel)
set_option maxRecDepth 65536 in
theorem w_c36 : (Jvm.Cond.code ({ cls := "java/lang/AbstractStringBuilder", name := "getValue", desc := "()[B" } : Jvm.MethodName) jdk_68_method_64_code (1 : Nat) (Option.some (Jvm.ClassFile.FieldType.array Jvm.ClassFile.FieldType.byte))).before args0 about1 = true := code_word (m := ⟨11, 6⟩) (meth := k11m6) (c := k11c6) (by decide +kernel) rfl rfl rfl (by decide +kernel)
set_option maxRecDepth 65536 in
theorem w_c37 : (Jvm.Cond.code ({ cls := "java/lang/StringBuilder", name := "length", desc := "()I" } : Jvm.MethodName) jdk_67_method_93_code (1 : Nat) (Option.some Jvm.ClassFile.FieldType.int)).before args0 about1 = true := code_word (m := ⟨14, 4⟩) (meth := k14m4) (c := k14c4) (by decide +kernel) rfl rfl rfl (by decide +kernel)
set_option maxRecDepth 65536 in
theorem w_c38 : (Jvm.Cond.code ({ cls := "java/lang/AbstractStringBuilder", name := "length", desc := "()I" } : Jvm.MethodName) jdk_68_method_6_code (1 : Nat) (Option.some Jvm.ClassFile.FieldType.int)).before args0 about1 = true := code_word (m := ⟨11, 2⟩) (meth := k11m2) (c := k11c2) (by decide +kernel) rfl rfl rfl (by decide +kernel)
set_option maxRecDepth 65536 in
theorem w_c39 : (Jvm.Cond.code ({ cls := "java/util/Arrays", name := "copyOfRange", desc := "([BII)[B" } : Jvm.MethodName) jdk_65_method_132_code (3 : Nat) (Option.some (Jvm.ClassFile.FieldType.array Jvm.ClassFile.FieldType.byte))).before args0 about1 = true := code_word (m := ⟨7, 6⟩) (meth := k7m6) (c := k7c6) (by decide +kernel) rfl rfl rfl (by decide +kernel)
set_option maxRecDepth 65536 in
theorem w_c40 : (Jvm.Cond.code ({ cls := "java/util/Arrays", name := "copyOfRangeByte", desc := "([BII)[B" } : Jvm.MethodName) jdk_65_method_133_code (5 : Nat) (Option.some (Jvm.ClassFile.FieldType.array Jvm.ClassFile.FieldType.byte))).before args0 about1 = true := code_word (m := ⟨7, 7⟩) (meth := k7m7) (c := k7c7) (by decide +kernel) rfl rfl rfl (by decide +kernel)
set_option maxRecDepth 65536 in
theorem w_c41 : (Jvm.Cond.code ({ cls := "java/util/Arrays", name := "checkLength", desc := "(II)V" } : Jvm.MethodName) jdk_65_method_131_code (2 : Nat) (Option.none : Option Jvm.ClassFile.FieldType)).before args0 about1 = true := code_word (m := ⟨7, 5⟩) (meth := k7m5) (c := k7c5) (by decide +kernel) rfl rfl rfl (by decide +kernel)
set_option maxRecDepth 65536 in
theorem w_c42 : (Jvm.Cond.code ({ cls := "com/example/fleetloom/fleetloom/ChainedProgramme$Builder", name := "finite", desc := "(DLjava/lang/String;)V" } : Jvm.MethodName) prog_4_method_9_code (3 : Nat) (Option.none : Option Jvm.ClassFile.FieldType)).before args0 about1 = true := code_word (m := ⟨2, 6⟩) (meth := k2m6) (c := k2c6) (by decide +kernel) rfl rfl rfl (by decide +kernel)
set_option maxRecDepth 65536 in
theorem w_c43 : (Jvm.Cond.code ({ cls := "java/lang/Double", name := "isFinite", desc := "(D)Z" } : Jvm.MethodName) jdk_117_method_8_code (2 : Nat) (Option.some Jvm.ClassFile.FieldType.boolean)).before args0 about1 = true := code_word (m := ⟨20, 0⟩) (meth := k20m0) (c := k20c0) (by decide +kernel) rfl rfl rfl (by decide +kernel)
set_option maxRecDepth 65536 in
theorem w_c44 : (Jvm.Cond.code ({ cls := "java/lang/Math", name := "abs", desc := "(D)D" } : Jvm.MethodName) jdk_29_method_64_code (2 : Nat) (Option.some Jvm.ClassFile.FieldType.double)).before args0 about1 = true := code_word (m := ⟨3, 1⟩) (meth := k3m1) (c := k3c1) (by decide +kernel) rfl rfl rfl (by decide +kernel)
set_option maxRecDepth 65536 in
theorem w_c45 : (Jvm.Cond.code ({ cls := "com/example/fleetloom/fleetloom/ChainedProgramme", name := "rhs", desc := "()[D" } : Jvm.MethodName) prog_3_method_12_code (1 : Nat) (Option.some (Jvm.ClassFile.FieldType.array Jvm.ClassFile.FieldType.double))).before args0 about1 = true := code_word (m := ⟨6, 2⟩) (meth := k6m2) (c := k6c2) (by decide +kernel) rfl rfl rfl (by decide +kernel)
def codes1 : List Jvm.Cond := [Jvm.Cond.code x code maxLocals ret, Jvm.Cond.code ({ cls := "com/example/fleetloom/fleetloom/ChainedProgramme$Builder", name := "<init>", desc := "(I)V" } : Jvm.MethodName) prog_4_method_1_code (2 : Nat) (Option.none : Option Jvm.ClassFile.FieldType), Jvm.Cond.code ({ cls := "java/lang/Object", name := "<init>", desc := "()V" } : Jvm.MethodName) object_method_1_code (1 : Nat) (Option.none : Option Jvm.ClassFile.FieldType), Jvm.Cond.code ({ cls := "java/lang/Math", name := "max", desc := "(II)I" } : Jvm.MethodName) jdk_29_method_65_code (2 : Nat) (Option.some Jvm.ClassFile.FieldType.int), Jvm.Cond.code ({ cls := "com/example/fleetloom/fleetloom/ChainedProgramme$Builder", name := "chain", desc := "(I)I" } : Jvm.MethodName) prog_4_method_2_code (2 : Nat) (Option.some Jvm.ClassFile.FieldType.int), Jvm.Cond.code ({ cls := "com/example/fleetloom/fleetloom/ChainedProgramme$Builder", name := "grow", desc := "([II)[I" } : Jvm.MethodName) prog_4_method_7_code (2 : Nat) (Option.some (Jvm.ClassFile.FieldType.array Jvm.ClassFile.FieldType.int)), Jvm.Cond.code ({ cls := "com/example/fleetloom/fleetloom/ChainedProgramme$Builder", name := "grow", desc := "([DI)[D" } : Jvm.MethodName) prog_4_method_8_code (2 : Nat) (Option.some (Jvm.ClassFile.FieldType.array Jvm.ClassFile.FieldType.double)), Jvm.Cond.code ({ cls := "com/example/fleetloom/fleetloom/ChainedProgramme$Builder", name := "rhs", desc := "(ID)V" } : Jvm.MethodName) prog_4_method_3_code (4 : Nat) (Option.none : Option Jvm.ClassFile.FieldType), Jvm.Cond.code ({ cls := "java/util/Objects", name := "checkIndex", desc := "(II)I" } : Jvm.MethodName) jdk_31_method_17_code (2 : Nat) (Option.some Jvm.ClassFile.FieldType.int), Jvm.Cond.code ({ cls := "jdk/internal/util/Preconditions", name := "checkIndex", desc := "(IILjava/util/function/BiFunction;)I" } : Jvm.MethodName) jdk_41_method_11_code (3 : Nat) (Option.some Jvm.ClassFile.FieldType.int), Jvm.Cond.code ({ cls := "com/example/fleetloom/fleetloom/ChainedProgramme$Builder", name := "build", desc := "()Lcom/example/fleetloom/fleetloom/ChainedProgramme;" } : Jvm.MethodName) prog_4_method_6_code (3 : Nat) (Option.some (Jvm.ClassFile.FieldType.object "com/example/fleetloom/fleetloom/ChainedProgramme")), Jvm.Cond.code ({ cls := "com/example/fleetloom/fleetloom/ChainedProgramme", name := "<init>", desc := "(Lcom/example/fleetloom/fleetloom/ChainedProgramme$Builder;)V" } : Jvm.MethodName) prog_3_method_1_code (3 : Nat) (Option.none : Option Jvm.ClassFile.FieldType), Jvm.Cond.code ({ cls := "java/util/Arrays", name := "copyOf", desc := "([II)[I" } : Jvm.MethodName) jdk_65_method_123_code (3 : Nat) (Option.some (Jvm.ClassFile.FieldType.array Jvm.ClassFile.FieldType.int)), Jvm.Cond.code ({ cls := "java/lang/Math", name := "min", desc := "(II)I" } : Jvm.MethodName) jdk_29_method_69_code (2 : Nat) (Option.some Jvm.ClassFile.FieldType.int), Jvm.Cond.code ({ cls := "java/util/Arrays", name := "fill", desc := "([IIII)V" } : Jvm.MethodName) jdk_65_method_104_code (5 : Nat) (Option.none : Option Jvm.ClassFile.FieldType), Jvm.Cond.code ({ cls := "java/util/Arrays", name := "rangeCheck", desc := "(III)V" } : Jvm.MethodName) jdk_65_method_30_code (3 : Nat) (Option.none : Option Jvm.ClassFile.FieldType), Jvm.Cond.code ({ cls := "java/util/Arrays", name := "copyOf", desc := "([DI)[D" } : Jvm.MethodName) jdk_65_method_127_code (3 : Nat) (Option.some (Jvm.ClassFile.FieldType.array Jvm.ClassFile.FieldType.double)), Jvm.Cond.code ({ cls := "com/example/fleetloom/fleetloom/ChainedProgramme", name := "rows", desc := "()I" } : Jvm.MethodName) prog_3_method_2_code (1 : Nat) (Option.some Jvm.ClassFile.FieldType.int), Jvm.Cond.code ({ cls := "java/lang/StringBuilder", name := "<init>", desc := "()V" } : Jvm.MethodName) jdk_67_method_1_code (1 : Nat) (Option.none : Option Jvm.ClassFile.FieldType), Jvm.Cond.code ({ cls := "java/lang/AbstractStringBuilder", name := "<init>", desc := "(I)V" } : Jvm.MethodName) jdk_68_method_2_code (2 : Nat) (Option.none : Option Jvm.ClassFile.FieldType), Jvm.Cond.code ({ cls := "java/lang/StringBuilder", name := "append", desc := "(Ljava/lang/String;)Ljava/lang/StringBuilder;" } : Jvm.MethodName) jdk_67_method_7_code (2 : Nat) (Option.some (Jvm.ClassFile.FieldType.object "java/lang/StringBuilder")), Jvm.Cond.code ({ cls := "java/lang/AbstractStringBuilder", name := "append", desc := "(Ljava/lang/String;)Ljava/lang/AbstractStringBuilder;" } : Jvm.MethodName) jdk_68_method_22_code (3 : Nat) (Option.some (Jvm.ClassFile.FieldType.object "java/lang/AbstractStringBuilder")), Jvm.Cond.code ({ cls := "java/lang/String", name := "length", desc := "()I" } : Jvm.MethodName) jdk_42_method_54_code (1 : Nat) (Option.some Jvm.ClassFile.FieldType.int), Jvm.Cond.code ({ cls := "java/lang/String", name := "coder", desc := "()B" } : Jvm.MethodName) jdk_42_method_152_code (1 : Nat) (Option.some Jvm.ClassFile.FieldType.byte), Jvm.Cond.code ({ cls := "java/lang/AbstractStringBuilder", name := "ensureCapacityInternal", desc := "(I)V" } : Jvm.MethodName) jdk_68_method_9_code (3 : Nat) (Option.none : Option Jvm.ClassFile.FieldType), Jvm.Cond.code ({ cls := "java/lang/AbstractStringBuilder", name := "putStringAt", desc := "(ILjava/lang/String;)V" } : Jvm.MethodName) jdk_68_method_73_code (3 : Nat) (Option.none : Option Jvm.ClassFile.FieldType), Jvm.Cond.code ({ cls := "java/lang/AbstractStringBuilder", name := "inflateIfNeededFor", desc := "(Ljava/lang/String;)V" } : Jvm.MethodName) jdk_68_method_71_code (2 : Nat) (Option.none : Option Jvm.ClassFile.FieldType), Jvm.Cond.code ({ cls := "java/lang/String", name := "getBytes", desc := "([BIB)V" } : Jvm.MethodName) jdk_42_method_147_code (4 : Nat) (Option.none : Option Jvm.ClassFile.FieldType), Jvm.Cond.code ({ cls := "java/lang/StringBuilder", name := "append", desc := "(I)Ljava/lang/StringBuilder;" } : Jvm.MethodName) jdk_67_method_15_code (2 : Nat) (Option.some (Jvm.ClassFile.FieldType.object "java/lang/StringBuilder")), Jvm.Cond.code ({ cls := "java/lang/AbstractStringBuilder", name := "append", desc := "(I)Ljava/lang/AbstractStringBuilder;" } : Jvm.MethodName) jdk_68_method_32_code (4 : Nat) (Option.some (Jvm.ClassFile.FieldType.object "java/lang/AbstractStringBuilder")), Jvm.Cond.code ({ cls := "java/lang/Integer", name := "stringSize", desc := "(I)I" } : Jvm.MethodName) jdk_33_method_13_code (4 : Nat) (Option.some Jvm.ClassFile.FieldType.int), Jvm.Cond.code ({ cls := "java/lang/AbstractStringBuilder", name := "isLatin1", desc := "()Z" } : Jvm.MethodName) jdk_68_method_68_code (1 : Nat) (Option.some Jvm.ClassFile.FieldType.boolean), Jvm.Cond.code ({ cls := "java/lang/Integer", name := "getChars", desc := "(II[B)I" } : Jvm.MethodName) jdk_33_method_12_code (7 : Nat) (Option.some Jvm.ClassFile.FieldType.int), Jvm.Cond.code ({ cls := "java/lang/StringBuilder", name := "toString", desc := "()Ljava/lang/String;" } : Jvm.MethodName) jdk_67_method_42_code (1 : Nat) (Option.some (Jvm.ClassFile.FieldType.object "java/lang/String")), Jvm.Cond.code ({ cls := "java/lang/String", name := "<init>", desc := "(Ljava/lang/StringBuilder;)V" } : Jvm.MethodName) jdk_42_method_53_code (2 : Nat) (Option.none : Option Jvm.ClassFile.FieldType), Jvm.Cond.code ({ cls := "java/lang/String", name := "<init>", desc := "(Ljava/lang/AbstractStringBuilder;Ljava/lang/Void;)V" } : Jvm.MethodName) jdk_42_method_150_code (5 : Nat) (Option.none : Option Jvm.ClassFile.FieldType), Jvm.Cond.code ({ cls := "java/lang/AbstractStringBuilder", name := "getValue", desc := "()[B" } : Jvm.MethodName) jdk_68_method_64_code (1 : Nat) (Option.some (Jvm.ClassFile.FieldType.array Jvm.ClassFile.FieldType.byte)), Jvm.Cond.code ({ cls := "java/lang/StringBuilder", name := "length", desc := "()I" } : Jvm.MethodName) jdk_67_method_93_code (1 : Nat) (Option.some Jvm.ClassFile.FieldType.int), Jvm.Cond.code ({ cls := "java/lang/AbstractStringBuilder", name := "length", desc := "()I" } : Jvm.MethodName) jdk_68_method_6_code (1 : Nat) (Option.some Jvm.ClassFile.FieldType.int), Jvm.Cond.code ({ cls := "java/util/Arrays", name := "copyOfRange", desc := "([BII)[B" } : Jvm.MethodName) jdk_65_method_132_code (3 : Nat) (Option.some (Jvm.ClassFile.FieldType.array Jvm.ClassFile.FieldType.byte)), Jvm.Cond.code ({ cls := "java/util/Arrays", name := "copyOfRangeByte", desc := "([BII)[B" } : Jvm.MethodName) jdk_65_method_133_code (5 : Nat) (Option.some (Jvm.ClassFile.FieldType.array Jvm.ClassFile.FieldType.byte)), Jvm.Cond.code ({ cls := "java/util/Arrays", name := "checkLength", desc := "(II)V" } : Jvm.MethodName) jdk_65_method_131_code (2 : Nat) (Option.none : Option Jvm.ClassFile.FieldType), Jvm.Cond.code ({ cls := "com/example/fleetloom/fleetloom/ChainedProgramme$Builder", name := "finite", desc := "(DLjava/lang/String;)V" } : Jvm.MethodName) prog_4_method_9_code (3 : Nat) (Option.none : Option Jvm.ClassFile.FieldType), Jvm.Cond.code ({ cls := "java/lang/Double", name := "isFinite", desc := "(D)Z" } : Jvm.MethodName) jdk_117_method_8_code (2 : Nat) (Option.some Jvm.ClassFile.FieldType.boolean), Jvm.Cond.code ({ cls := "java/lang/Math", name := "abs", desc := "(D)D" } : Jvm.MethodName) jdk_29_method_64_code (2 : Nat) (Option.some Jvm.ClassFile.FieldType.double), Jvm.Cond.code ({ cls := "com/example/fleetloom/fleetloom/ChainedProgramme", name := "rhs", desc := "()[D" } : Jvm.MethodName) prog_3_method_12_code (1 : Nat) (Option.some (Jvm.ClassFile.FieldType.array Jvm.ClassFile.FieldType.double))]
set_option maxRecDepth 65536 in
theorem codes_eq : words1.filter isCode = codes1 := rfl
theorem w_codes : ∀ c ∈ words1.filter isCode, c.before args0 about1 = true := by
  rw [codes_eq]
  intro c hc
  simp only [codes1, List.mem_cons, List.not_mem_nil, or_false] at hc
  rcases hc with rfl | rfl | rfl | rfl | rfl | rfl | rfl | rfl | rfl | rfl | rfl | rfl | rfl | rfl | rfl | rfl | rfl | rfl | rfl | rfl | rfl | rfl | rfl | rfl | rfl | rfl | rfl | rfl | rfl | rfl | rfl | rfl | rfl | rfl | rfl | rfl | rfl | rfl | rfl | rfl | rfl | rfl | rfl | rfl | rfl | rfl
  · exact w_c0
  · exact w_c1
  · exact w_c2
  · exact w_c3
  · exact w_c4
  · exact w_c5
  · exact w_c6
  · exact w_c7
  · exact w_c8
  · exact w_c9
  · exact w_c10
  · exact w_c11
  · exact w_c12
  · exact w_c13
  · exact w_c14
  · exact w_c15
  · exact w_c16
  · exact w_c17
  · exact w_c18
  · exact w_c19
  · exact w_c20
  · exact w_c21
  · exact w_c22
  · exact w_c23
  · exact w_c24
  · exact w_c25
  · exact w_c26
  · exact w_c27
  · exact w_c28
  · exact w_c29
  · exact w_c30
  · exact w_c31
  · exact w_c32
  · exact w_c33
  · exact w_c34
  · exact w_c35
  · exact w_c36
  · exact w_c37
  · exact w_c38
  · exact w_c39
  · exact w_c40
  · exact w_c41
  · exact w_c42
  · exact w_c43
  · exact w_c44
  · exact w_c45
set_option maxRecDepth 65536 in
theorem w_t1 : (words1.take 24).all (fun c => isCode c || c.before args0 about1) = true := by decide +kernel
set_option maxRecDepth 65536 in
theorem w_t2 : ((words1.drop 24).take 24).all (fun c => isCode c || c.before args0 about1) = true := by decide +kernel
set_option maxRecDepth 65536 in
theorem w_t3 : (((words1.drop 24).drop 24).take 24).all (fun c => isCode c || c.before args0 about1) = true := by decide +kernel
set_option maxRecDepth 65536 in
theorem w_t4 : ((((words1.drop 24).drop 24).drop 24).take 24).all (fun c => isCode c || c.before args0 about1) = true := by decide +kernel
set_option maxRecDepth 65536 in
theorem w_t5 : (((((words1.drop 24).drop 24).drop 24).drop 24).take 24).all (fun c => isCode c || c.before args0 about1) = true := by decide +kernel
set_option maxRecDepth 65536 in
theorem w_t6 : ((((((words1.drop 24).drop 24).drop 24).drop 24).drop 24).take 24).all (fun c => isCode c || c.before args0 about1) = true := by decide +kernel
set_option maxRecDepth 65536 in
theorem w_t7 : (((((((words1.drop 24).drop 24).drop 24).drop 24).drop 24).drop 24).take 24).all (fun c => isCode c || c.before args0 about1) = true := by decide +kernel
set_option maxRecDepth 65536 in
theorem w_t8 : ((((((((words1.drop 24).drop 24).drop 24).drop 24).drop 24).drop 24).drop 24).take 24).all (fun c => isCode c || c.before args0 about1) = true := by decide +kernel
set_option maxRecDepth 65536 in
theorem w_t9 : (((((((((words1.drop 24).drop 24).drop 24).drop 24).drop 24).drop 24).drop 24).drop 24).take 24).all (fun c => isCode c || c.before args0 about1) = true := by decide +kernel
set_option maxRecDepth 65536 in
theorem w_t10 : ((((((((((words1.drop 24).drop 24).drop 24).drop 24).drop 24).drop 24).drop 24).drop 24).drop 24).take 24).all (fun c => isCode c || c.before args0 about1) = true := by decide +kernel
set_option maxRecDepth 65536 in
theorem w_t11 : (((((((((((words1.drop 24).drop 24).drop 24).drop 24).drop 24).drop 24).drop 24).drop 24).drop 24).drop 24).take 24).all (fun c => isCode c || c.before args0 about1) = true := by decide +kernel
set_option maxRecDepth 65536 in
theorem w_t12 : ((((((((((((words1.drop 24).drop 24).drop 24).drop 24).drop 24).drop 24).drop 24).drop 24).drop 24).drop 24).drop 24).take 24).all (fun c => isCode c || c.before args0 about1) = true := by decide +kernel
set_option maxRecDepth 65536 in
theorem w_t13 : ((((((((((((words1.drop 24).drop 24).drop 24).drop 24).drop 24).drop 24).drop 24).drop 24).drop 24).drop 24).drop 24).drop 24).all (fun c => isCode c || c.before args0 about1) = true := by decide +kernel
theorem w_tables : (allAtoms (Jvm.Cond.code x code maxLocals ret :: tables_1)).before args0 about1 = true := by
  rw [allAtoms_all]
  show words1.all (fun c => c.before args0 about1) = true
  refine all_split ?_ w_codes
  rw [← List.take_append_drop 24 words1, List.all_append, w_t1, ← List.take_append_drop 24 (words1.drop 24), List.all_append, w_t2, ← List.take_append_drop 24 ((words1.drop 24).drop 24), List.all_append, w_t3, ← List.take_append_drop 24 (((words1.drop 24).drop 24).drop 24), List.all_append, w_t4, ← List.take_append_drop 24 ((((words1.drop 24).drop 24).drop 24).drop 24), List.all_append, w_t5, ← List.take_append_drop 24 (((((words1.drop 24).drop 24).drop 24).drop 24).drop 24), List.all_append, w_t6, ← List.take_append_drop 24 ((((((words1.drop 24).drop 24).drop 24).drop 24).drop 24).drop 24), List.all_append, w_t7, ← List.take_append_drop 24 (((((((words1.drop 24).drop 24).drop 24).drop 24).drop 24).drop 24).drop 24), List.all_append, w_t8, ← List.take_append_drop 24 ((((((((words1.drop 24).drop 24).drop 24).drop 24).drop 24).drop 24).drop 24).drop 24), List.all_append, w_t9, ← List.take_append_drop 24 (((((((((words1.drop 24).drop 24).drop 24).drop 24).drop 24).drop 24).drop 24).drop 24).drop 24), List.all_append, w_t10, ← List.take_append_drop 24 ((((((((((words1.drop 24).drop 24).drop 24).drop 24).drop 24).drop 24).drop 24).drop 24).drop 24).drop 24), List.all_append, w_t11, ← List.take_append_drop 24 (((((((((((words1.drop 24).drop 24).drop 24).drop 24).drop 24).drop 24).drop 24).drop 24).drop 24).drop 24).drop 24), List.all_append, w_t12, w_t13]
  rfl
set_option maxRecDepth 65536 in
theorem w_rest : rest_1_c.before args0 about1 = true := by decide +kernel
set_option maxRecDepth 65536 in
theorem w_case : (Jvm.Cond.and given_1 narrow_1).before args0 about1 = true := by decide +kernel
set_option maxRecDepth 65536 in
theorem w_consts : constsHeld consts_1 about1 := Jvm.Lit.constsHeldB_iff.mp (by decide +kernel)
theorem w_applies : (headSpec (Jvm.Cond.code x code maxLocals ret :: tables_1) room_1).applies x e0.platform about1 = true :=
  (Spec.applies_iff w_frames).mpr ⟨w_running, w_runnable, w_alone, w_named, w_hears, w_ripe, w_room, w_tables⟩
theorem atStart : AtStart classFile x code maxLocals ret World_1 tables_1 room_1 Calls_1 rest_1 Pre_1 launch0 p0 e0 about1 theMethod args0 below0 :=
  ⟨lists_1, trivial, launch0.admits_env _ _ _, launch0.least_env, fairChoices_fair.cas, fairChoices_fair.clock, w_frames, w_args, w_heap, w_applies, ⟨w_consts, trivial⟩, w_rest, w_case⟩
end start1
theorem witness_1 : WitnessClaimed_1 := ⟨start1.p0, start1.e0, start1.about1, start1.theMethod, start1.args0, start1.below0, start1.atStart⟩
end Jvm.Pilot.@@N@@
