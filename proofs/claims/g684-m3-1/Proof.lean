import JvmDerived
import JvmDerived.Pilot.@@N@@Statement
import JvmDerived.Pilot.@@N@@Code
set_option linter.unusedVariables false
set_option linter.unusedSimpArgs false
namespace Jvm.OwnKit
open Sem ClassFile Op Lib Jvm.Stand Jvm.Free Jvm.LawKit Jvm.RoadKit
section Walk
variable {p : Program} {l : Launch} {e : Env} {R : Room} {s : State} {m : MethodId} {args : Array Value} {below : List Frame} {meth : Method} {c : Code} {T : State} {locs : List Loc} {cells slots : Nat} {Z : State} {a0 : Array Value} {h : Heap} {G : Outcome → State → Prop}
variable {x0 : MethodName} {code : ByteArray} {maxL : Nat} {ret : Option FieldType}
/-- what is still owed from the frame g on: the run ends, and G holds of the end -/
def Go (tb : Tables) (e : Env) (below : List Frame) (G : Outcome → State → Prop) (T : State) (g : JFrame) : Prop :=
  ∃ s₂ o, Steps tb e below (T.setTop g) s₂ ∧ s₂.status = .running ∧ Ended s₂ below o ∧ G o s₂
theorem Go.step {tb : Tables} {T T' : State} {g g' : JFrame} (q : ∀ t, Steps tb e below (T'.setTop g') t → Steps tb e below (T.setTop g) t) (k : Go tb e below G T' g') : Go tb e below G T g := by
  obtain ⟨s2, o, h1, h2⟩ := k
  exact ⟨s2, o, q _ h1, h2⟩
/-- what stands still while one body is walked -/
def Cx (p : Program) (l : Launch) (s : State) (m : MethodId) (meth : Method) (c : Code) (Z : State) (x0 : MethodName) (code : ByteArray) (maxL : Nat) (ret : Option FieldType) : Prop :=
  p.tables.exec = Jvm.exec ∧ Z.Warmed39 s.vm ∧ c.code = code ∧ c.maxLocals = maxL ∧ s.vm.findClass x0.cls = some m.cls ∧ meth.sig.returnType = ret ∧ meth.locks = false ∧ meth.name = x0.name
theorem Cx.exec (C : Cx p l s m meth c Z x0 code maxL ret) : p.tables.exec = Jvm.exec := C.1
theorem Cx.warm (C : Cx p l s m meth c Z x0 code maxL ret) : Z.Warmed39 s.vm := C.2.1
theorem Cx.bytes (C : Cx p l s m meth c Z x0 code maxL ret) : c.code = code := C.2.2.1
theorem Cx.maxl (C : Cx p l s m meth c Z x0 code maxL ret) : c.maxLocals = maxL := C.2.2.2.1
theorem Cx.own (C : Cx p l s m meth c Z x0 code maxL ret) : s.vm.findClass x0.cls = some m.cls := C.2.2.2.2.1
theorem Cx.rets (C : Cx p l s m meth c Z x0 code maxL ret) : meth.sig.returnType = ret := C.2.2.2.2.2.1
theorem Cx.unlocked (C : Cx p l s m meth c Z x0 code maxL ret) : meth.locks = false := C.2.2.2.2.2.2.1
theorem Cx.nm (C : Cx p l s m meth c Z x0 code maxL ret) : meth.name = x0.name := C.2.2.2.2.2.2.2
theorem Cx.at (C : Cx p l s m meth c Z x0 code maxL ret) {pc : Nat} {r : Except ClassFile.DecodeError (ClassFile.Instr × Nat)} (h2 : decode code pc = r) : decode c.code pc = r := hb C.bytes h2
/-- the end of a walk: what is returned, the heap and the places written answer Q -/
def End (s : State) (Q : Option Value → Heap → List Loc → Prop) (k n : Nat) (o : Outcome) (U : State) : Prop := ∃ v L, o = .returned v ∧ Q v U.heap L ∧ FrameEnd s o U L k n
/-- a body's contract at one call: the arguments as, the heap h -/
def Con (l : Launch) (Z : State) (y : MethodName) (bytes : ByteArray) (maxL : Nat) (ret : Option FieldType) (rm : Room) (as : Array Value) (h : Heap) (Q : Option Value → Heap → List Loc → Prop) : Prop :=
  ∀ ws, MetFree l y (head1 (Cond.code y bytes maxL ret :: ws) rm) (fun a U => a = as ∧ Z.Warmed39 U.vm ∧ U.heap = h) (fun _ _ _ _ _ => True) (fun _ U o U' => End U Q rm.cells rm.slots o U')
theorem con_of_goF {rm : Room} {as : Array Value} {Q : Option Value → Heap → List Loc → Prop} {Ls : Array Slot} (hn : plainFor x0 = true) (hef : ∀ m, entryFrame m as maxL = mkF m 0 Ls [])
    (H : ∀ (p : Program) (e : Env) (s : State) (m : MethodId) (below : List Frame) (meth : Method) (c : Code) (T : State), Cx p l s m meth c Z x0 code maxL ret → Stand p l e rm s m as below meth c T [] 0 0 → T.heap = h → Go p.tables e below (End s Q rm.cells rm.slots) T (mkF m 0 Ls [])) :
    Con l Z x0 code maxL ret rm as h Q := by
  intro ws
  refine MetFree.of_bodySF hn hisR ?_
  intro p e s m args below meth c s₁ Bd hml hP hK
  obtain ⟨rfl, hZ, hh⟩ := hP
  have X0 : Stand p l e rm s m args below meth c s₁ [] 0 0 := Stand.of_body Bd
  have e0 : s₁.heap = h := by rw [← hh, Bd.state]; rfl
  have q := H p e s m below meth c s₁ ⟨Bd.exec, hZ, Bd.bytes, hml, findClass_of_methodNamed Bd.named, Bd.returns, Bd.notSynchronized, (name_of_methodNamed Bd.named Bd.method).1⟩ X0 e0
  rw [hef]
  exact q
theorem con_of_go {rm : Room} {as : Array Value} {Q : Option Value → Heap → List Loc → Prop} {Ls : Array Slot} (hn : plainName x0.cls = true) (hef : ∀ m, entryFrame m as maxL = mkF m 0 Ls [])
    (H : ∀ (p : Program) (e : Env) (s : State) (m : MethodId) (below : List Frame) (meth : Method) (c : Code) (T : State), Cx p l s m meth c Z x0 code maxL ret → Stand p l e rm s m as below meth c T [] 0 0 → T.heap = h → Go p.tables e below (End s Q rm.cells rm.slots) T (mkF m 0 Ls [])) :
    Con l Z x0 code maxL ret rm as h Q := con_of_goF (plainFor_of_name hn) hef H
theorem g_aloadN (C : Cx p l s m meth c Z x0 code maxL ret) (X : Stand p l e R s m args below meth c T locs cells slots) {pc pc' : Nat} {Ls : Array Slot} {st : List Value} {k : Fin 4} {v : Value} (hd : decode code pc = .ok (.aload_n k, 1)) (hl : Ls[k.val]? = some (.val v)) (hv : v.isRef = true) (hp : pc + 1 = pc')
    (K : Go p.tables e below G T (mkF m pc' Ls (v :: st))) : Go p.tables e below G T (mkF m pc Ls (st)) := by
  subst hp; exact Go.step (fun _ k => XS.aloadN X.here C.exec rfl (C.at hd) hl hv k) K
theorem g_aload (C : Cx p l s m meth c Z x0 code maxL ret) (X : Stand p l e R s m args below meth c T locs cells slots) {pc pc' : Nat} {Ls : Array Slot} {st : List Value} {k : Nat} {v : Value} (hd : decode code pc = .ok (.aload k, 2)) (hl : Ls[k]? = some (.val v)) (hv : v.isRef = true) (hp : pc + 2 = pc')
    (K : Go p.tables e below G T (mkF m pc' Ls (v :: st))) : Go p.tables e below G T (mkF m pc Ls (st)) := by
  subst hp; exact Go.step (fun _ k => XS.aload X.here C.exec rfl (C.at hd) hl hv k) K
theorem g_iloadN (C : Cx p l s m meth c Z x0 code maxL ret) (X : Stand p l e R s m args below meth c T locs cells slots) {pc pc' : Nat} {Ls : Array Slot} {st : List Value} {k : Fin 4} {v : Int32} (hd : decode code pc = .ok (.iload_n k, 1)) (hl : Ls[k.val]? = some (.val (.int v))) (hp : pc + 1 = pc')
    (K : Go p.tables e below G T (mkF m pc' Ls (.int v :: st))) : Go p.tables e below G T (mkF m pc Ls (st)) := by
  subst hp; exact Go.step (fun _ k => XS.iloadN X.here C.exec rfl (C.at hd) hl k) K
theorem g_iload (C : Cx p l s m meth c Z x0 code maxL ret) (X : Stand p l e R s m args below meth c T locs cells slots) {pc pc' : Nat} {Ls : Array Slot} {st : List Value} {k : Nat} {v : Int32} (hd : decode code pc = .ok (.iload k, 2)) (hl : Ls[k]? = some (.val (.int v))) (hp : pc + 2 = pc')
    (K : Go p.tables e below G T (mkF m pc' Ls (.int v :: st))) : Go p.tables e below G T (mkF m pc Ls (st)) := by
  subst hp; exact Go.step (fun _ k => XS.iload X.here C.exec rfl (C.at hd) hl k) K
theorem g_istoreN (C : Cx p l s m meth c Z x0 code maxL ret) (X : Stand p l e R s m args below meth c T locs cells slots) {pc pc' : Nat} {Ls : Array Slot} {st : List Value} {k : Fin 4} {x y : Int32} {l' : Array Slot} (hd : decode code pc = .ok (.istore_n k, 1)) (hv : x = y) (hl : storeLocals Ls k.val (.int x) = some l') (hp : pc + 1 = pc')
    (K : Go p.tables e below G T (mkF m pc' l' (st))) : Go p.tables e below G T (mkF m pc Ls (.int y :: st)) := by
  subst hp; subst hv; exact Go.step (fun _ k => XS.istoreN X.here C.exec rfl (C.at hd) rfl hl k) K
theorem g_istore (C : Cx p l s m meth c Z x0 code maxL ret) (X : Stand p l e R s m args below meth c T locs cells slots) {pc pc' : Nat} {Ls : Array Slot} {st : List Value} {k : Nat} {x y : Int32} {l' : Array Slot} (hd : decode code pc = .ok (.istore k, 2)) (hv : x = y) (hl : storeLocals Ls k (.int x) = some l') (hp : pc + 2 = pc')
    (K : Go p.tables e below G T (mkF m pc' l' (st))) : Go p.tables e below G T (mkF m pc Ls (.int y :: st)) := by
  subst hp; subst hv; exact Go.step (fun _ k => XS.istore X.here C.exec rfl (C.at hd) rfl hl k) K
theorem g_lloadN (C : Cx p l s m meth c Z x0 code maxL ret) (X : Stand p l e R s m args below meth c T locs cells slots) {pc pc' : Nat} {Ls : Array Slot} {st : List Value} {k : Fin 4} {v : Int64} (hd : decode code pc = .ok (.lload_n k, 1)) (hl : Ls[k.val]? = some (.val (.long v))) (hp : pc + 1 = pc')
    (K : Go p.tables e below G T (mkF m pc' Ls (.long v :: st))) : Go p.tables e below G T (mkF m pc Ls (st)) := by
  subst hp; exact Go.step (fun _ k => XT.lloadN X.here C.exec rfl (C.at hd) hl k) K
theorem g_lload (C : Cx p l s m meth c Z x0 code maxL ret) (X : Stand p l e R s m args below meth c T locs cells slots) {pc pc' : Nat} {Ls : Array Slot} {st : List Value} {k : Nat} {v : Int64} (hd : decode code pc = .ok (.lload k, 2)) (hl : Ls[k]? = some (.val (.long v))) (hp : pc + 2 = pc')
    (K : Go p.tables e below G T (mkF m pc' Ls (.long v :: st))) : Go p.tables e below G T (mkF m pc Ls (st)) := by
  subst hp; exact Go.step (fun _ k => XT.lload X.here C.exec rfl (C.at hd) hl k) K
theorem g_lstoreN (C : Cx p l s m meth c Z x0 code maxL ret) (X : Stand p l e R s m args below meth c T locs cells slots) {pc pc' : Nat} {Ls : Array Slot} {st : List Value} {k : Fin 4} {x y : Int64} {l' : Array Slot} (hd : decode code pc = .ok (.lstore_n k, 1)) (hv : x = y) (hl : storeLocals Ls k.val (.long x) = some l') (hp : pc + 1 = pc')
    (K : Go p.tables e below G T (mkF m pc' l' (st))) : Go p.tables e below G T (mkF m pc Ls (.long y :: st)) := by
  subst hp; subst hv; exact Go.step (fun _ k => XT.lstoreN X.here C.exec rfl (C.at hd) rfl hl k) K
theorem g_lstore (C : Cx p l s m meth c Z x0 code maxL ret) (X : Stand p l e R s m args below meth c T locs cells slots) {pc pc' : Nat} {Ls : Array Slot} {st : List Value} {k : Nat} {x y : Int64} {l' : Array Slot} (hd : decode code pc = .ok (.lstore k, 2)) (hv : x = y) (hl : storeLocals Ls k (.long x) = some l') (hp : pc + 2 = pc')
    (K : Go p.tables e below G T (mkF m pc' l' (st))) : Go p.tables e below G T (mkF m pc Ls (.long y :: st)) := by
  subst hp; subst hv; exact Go.step (fun _ k => XT.lstore X.here C.exec rfl (C.at hd) rfl hl k) K
theorem g_dloadN (C : Cx p l s m meth c Z x0 code maxL ret) (X : Stand p l e R s m args below meth c T locs cells slots) {pc pc' : Nat} {Ls : Array Slot} {st : List Value} {k : Fin 4} {v : UInt64} (hd : decode code pc = .ok (.dload_n k, 1)) (hl : Ls[k.val]? = some (.val (.double v))) (hp : pc + 1 = pc')
    (K : Go p.tables e below G T (mkF m pc' Ls (.double v :: st))) : Go p.tables e below G T (mkF m pc Ls (st)) := by
  subst hp; exact Go.step (fun _ k => XS.dloadN X.here C.exec rfl (C.at hd) hl k) K
theorem g_dload (C : Cx p l s m meth c Z x0 code maxL ret) (X : Stand p l e R s m args below meth c T locs cells slots) {pc pc' : Nat} {Ls : Array Slot} {st : List Value} {k : Nat} {v : UInt64} (hd : decode code pc = .ok (.dload k, 2)) (hl : Ls[k]? = some (.val (.double v))) (hp : pc + 2 = pc')
    (K : Go p.tables e below G T (mkF m pc' Ls (.double v :: st))) : Go p.tables e below G T (mkF m pc Ls (st)) := by
  subst hp; exact Go.step (fun _ k => XS.dload X.here C.exec rfl (C.at hd) hl k) K
theorem g_dstoreN (C : Cx p l s m meth c Z x0 code maxL ret) (X : Stand p l e R s m args below meth c T locs cells slots) {pc pc' : Nat} {Ls : Array Slot} {st : List Value} {k : Fin 4} {x y : UInt64} {l' : Array Slot} (hd : decode code pc = .ok (.dstore_n k, 1)) (hv : x = y) (hl : storeLocals Ls k.val (.double x) = some l') (hp : pc + 1 = pc')
    (K : Go p.tables e below G T (mkF m pc' l' (st))) : Go p.tables e below G T (mkF m pc Ls (.double y :: st)) := by
  subst hp; subst hv; exact Go.step (fun _ k => XS.dstoreN X.here C.exec rfl (C.at hd) rfl hl k) K
theorem g_dstore (C : Cx p l s m meth c Z x0 code maxL ret) (X : Stand p l e R s m args below meth c T locs cells slots) {pc pc' : Nat} {Ls : Array Slot} {st : List Value} {k : Nat} {x y : UInt64} {l' : Array Slot} (hd : decode code pc = .ok (.dstore k, 2)) (hv : x = y) (hl : storeLocals Ls k (.double x) = some l') (hp : pc + 2 = pc')
    (K : Go p.tables e below G T (mkF m pc' l' (st))) : Go p.tables e below G T (mkF m pc Ls (.double y :: st)) := by
  subst hp; subst hv; exact Go.step (fun _ k => XS.dstore X.here C.exec rfl (C.at hd) rfl hl k) K
theorem g_astoreN (C : Cx p l s m meth c Z x0 code maxL ret) (X : Stand p l e R s m args below meth c T locs cells slots) {pc pc' : Nat} {Ls : Array Slot} {st : List Value} {k : Fin 4} {v : Value} {l' : Array Slot} (hd : decode code pc = .ok (.astore_n k, 1)) (hv : v.isRef = true) (hl : storeLocals Ls k.val v = some l') (hp : pc + 1 = pc')
    (K : Go p.tables e below G T (mkF m pc' l' (st))) : Go p.tables e below G T (mkF m pc Ls (v :: st)) := by
  subst hp; exact Go.step (fun _ k => XS.astoreN X.here C.exec rfl (C.at hd) rfl hv hl k) K
theorem g_astore (C : Cx p l s m meth c Z x0 code maxL ret) (X : Stand p l e R s m args below meth c T locs cells slots) {pc pc' : Nat} {Ls : Array Slot} {st : List Value} {k : Nat} {v : Value} {l' : Array Slot} (hd : decode code pc = .ok (.astore k, 2)) (hv : v.isRef = true) (hl : storeLocals Ls k v = some l') (hp : pc + 2 = pc')
    (K : Go p.tables e below G T (mkF m pc' l' (st))) : Go p.tables e below G T (mkF m pc Ls (v :: st)) := by
  subst hp; exact Go.step (fun _ k => XS.astore X.here C.exec rfl (C.at hd) rfl hv hl k) K
theorem g_iconst (C : Cx p l s m meth c Z x0 code maxL ret) (X : Stand p l e R s m args below meth c T locs cells slots) {pc pc' : Nat} {Ls : Array Slot} {st : List Value} {i : Int} {v : Int32} (hd : decode code pc = .ok (.iconst i, 1)) (hv : Int32.ofInt i = v) (hp : pc + 1 = pc')
    (K : Go p.tables e below G T (mkF m pc' Ls (.int v :: st))) : Go p.tables e below G T (mkF m pc Ls (st)) := by
  subst hp; subst hv; exact Go.step (fun _ k => XS.iconst X.here C.exec rfl (C.at hd)  k) K
theorem g_bipush (C : Cx p l s m meth c Z x0 code maxL ret) (X : Stand p l e R s m args below meth c T locs cells slots) {pc pc' : Nat} {Ls : Array Slot} {st : List Value} {i : Int} {v : Int32} (hd : decode code pc = .ok (.bipush i, 2)) (hv : (Int8.ofInt i).toInt32 = v) (hp : pc + 2 = pc')
    (K : Go p.tables e below G T (mkF m pc' Ls (.int v :: st))) : Go p.tables e below G T (mkF m pc Ls (st)) := by
  subst hp; subst hv; exact Go.step (fun _ k => XS.bipush X.here C.exec rfl (C.at hd)  k) K
theorem g_sipush (C : Cx p l s m meth c Z x0 code maxL ret) (X : Stand p l e R s m args below meth c T locs cells slots) {pc pc' : Nat} {Ls : Array Slot} {st : List Value} {i : Int} {v : Int32} (hd : decode code pc = .ok (.sipush i, 3)) (hv : (Int16.ofInt i).toInt32 = v) (hp : pc + 3 = pc')
    (K : Go p.tables e below G T (mkF m pc' Ls (.int v :: st))) : Go p.tables e below G T (mkF m pc Ls (st)) := by
  subst hp; subst hv; exact Go.step (fun _ k => XS.sipush X.here C.exec rfl (C.at hd)  k) K
theorem g_aconstNull (C : Cx p l s m meth c Z x0 code maxL ret) (X : Stand p l e R s m args below meth c T locs cells slots) {pc pc' : Nat} {Ls : Array Slot} {st : List Value}  (hd : decode code pc = .ok (.aconst_null, 1))  (hp : pc + 1 = pc')
    (K : Go p.tables e below G T (mkF m pc' Ls (.null :: st))) : Go p.tables e below G T (mkF m pc Ls (st)) := by
  subst hp; exact Go.step (fun _ k => XS.aconstNull X.here C.exec rfl (C.at hd)  k) K
theorem g_lconst (C : Cx p l s m meth c Z x0 code maxL ret) (X : Stand p l e R s m args below meth c T locs cells slots) {pc pc' : Nat} {Ls : Array Slot} {st : List Value} {k : Fin 2} {v : Int64} (hd : decode code pc = .ok (.lconst k, 1)) (hv : Int64.ofNat k = v) (hp : pc + 1 = pc')
    (K : Go p.tables e below G T (mkF m pc' Ls (.long v :: st))) : Go p.tables e below G T (mkF m pc Ls (st)) := by
  subst hp; subst hv; exact Go.step (fun _ k => XT.lconst X.here C.exec rfl (C.at hd)  k) K
theorem g_dconst0 (C : Cx p l s m meth c Z x0 code maxL ret) (X : Stand p l e R s m args below meth c T locs cells slots) {pc pc' : Nat} {Ls : Array Slot} {st : List Value} {v : UInt64} (hd : decode code pc = .ok (.dconst 0, 1)) (hv : FP.dconst0 = v) (hp : pc + 1 = pc')
    (K : Go p.tables e below G T (mkF m pc' Ls (.double v :: st))) : Go p.tables e below G T (mkF m pc Ls (st)) := by
  subst hp; exact Go.step (fun _ k => XS.dconst0 X.here C.exec rfl (C.at hd) hv k) K
theorem g_dconst1 (C : Cx p l s m meth c Z x0 code maxL ret) (X : Stand p l e R s m args below meth c T locs cells slots) {pc pc' : Nat} {Ls : Array Slot} {st : List Value} {v : UInt64} (hd : decode code pc = .ok (.dconst 1, 1)) (hv : FP.dconst1 = v) (hp : pc + 1 = pc')
    (K : Go p.tables e below G T (mkF m pc' Ls (.double v :: st))) : Go p.tables e below G T (mkF m pc Ls (st)) := by
  subst hp; exact Go.step (fun _ k => XS.dconst1 X.here C.exec rfl (C.at hd) hv k) K
theorem g_iadd (C : Cx p l s m meth c Z x0 code maxL ret) (X : Stand p l e R s m args below meth c T locs cells slots) {pc pc' : Nat} {Ls : Array Slot} {st : List Value} {x y : Int32} (hd : decode code pc = .ok (.iadd, 1))  (hp : pc + 1 = pc')
    (K : Go p.tables e below G T (mkF m pc' Ls (.int (x + y) :: st))) : Go p.tables e below G T (mkF m pc Ls (.int y :: .int x :: st)) := by
  subst hp; exact Go.step (fun _ k => XS.iadd X.here C.exec rfl (C.at hd) rfl k) K
theorem g_isub (C : Cx p l s m meth c Z x0 code maxL ret) (X : Stand p l e R s m args below meth c T locs cells slots) {pc pc' : Nat} {Ls : Array Slot} {st : List Value} {x y : Int32} (hd : decode code pc = .ok (.isub, 1))  (hp : pc + 1 = pc')
    (K : Go p.tables e below G T (mkF m pc' Ls (.int (x - y) :: st))) : Go p.tables e below G T (mkF m pc Ls (.int y :: .int x :: st)) := by
  subst hp; exact Go.step (fun _ k => XS.isub X.here C.exec rfl (C.at hd) rfl k) K
theorem g_iand (C : Cx p l s m meth c Z x0 code maxL ret) (X : Stand p l e R s m args below meth c T locs cells slots) {pc pc' : Nat} {Ls : Array Slot} {st : List Value} {x y : Int32} (hd : decode code pc = .ok (.iand, 1))  (hp : pc + 1 = pc')
    (K : Go p.tables e below G T (mkF m pc' Ls (.int (x &&& y) :: st))) : Go p.tables e below G T (mkF m pc Ls (.int y :: .int x :: st)) := by
  subst hp; exact Go.step (fun _ k => XS.iand X.here C.exec rfl (C.at hd) rfl k) K
theorem g_imul (C : Cx p l s m meth c Z x0 code maxL ret) (X : Stand p l e R s m args below meth c T locs cells slots) {pc pc' : Nat} {Ls : Array Slot} {st : List Value} {x y : Int32} (hd : decode code pc = .ok (.imul, 1))  (hp : pc + 1 = pc')
    (K : Go p.tables e below G T (mkF m pc' Ls (.int (x * y) :: st))) : Go p.tables e below G T (mkF m pc Ls (.int y :: .int x :: st)) := by
  subst hp; exact Go.step (fun _ k => XS.imul X.here C.exec rfl (C.at hd) rfl k) K
theorem g_idiv (C : Cx p l s m meth c Z x0 code maxL ret) (X : Stand p l e R s m args below meth c T locs cells slots) {pc pc' : Nat} {Ls : Array Slot} {st : List Value} {x y : Int32} (hd : decode code pc = .ok (.idiv, 1)) (hy : y ≠ 0) (hp : pc + 1 = pc')
    (K : Go p.tables e below G T (mkF m pc' Ls (.int (x / y) :: st))) : Go p.tables e below G T (mkF m pc Ls (.int y :: .int x :: st)) := by
  subst hp; exact Go.step (fun _ k => XS.idiv X.here C.exec rfl (C.at hd) rfl hy k) K
theorem g_ineg (C : Cx p l s m meth c Z x0 code maxL ret) (X : Stand p l e R s m args below meth c T locs cells slots) {pc pc' : Nat} {Ls : Array Slot} {st : List Value} {x : Int32} (hd : decode code pc = .ok (.ineg, 1))  (hp : pc + 1 = pc')
    (K : Go p.tables e below G T (mkF m pc' Ls (.int (-x) :: st))) : Go p.tables e below G T (mkF m pc Ls (.int x :: st)) := by
  subst hp; exact Go.step (fun _ k => XS.ineg X.here C.exec rfl (C.at hd) rfl k) K
theorem g_ixor (C : Cx p l s m meth c Z x0 code maxL ret) (X : Stand p l e R s m args below meth c T locs cells slots) {pc pc' : Nat} {Ls : Array Slot} {st : List Value} {x y : Int32} (hd : decode code pc = .ok (.ixor, 1))  (hp : pc + 1 = pc')
    (K : Go p.tables e below G T (mkF m pc' Ls (.int (x ^^^ y) :: st))) : Go p.tables e below G T (mkF m pc Ls (.int y :: .int x :: st)) := by
  subst hp; exact Go.step (fun _ k => XT.ixor X.here C.exec rfl (C.at hd) rfl k) K
theorem g_ior (C : Cx p l s m meth c Z x0 code maxL ret) (X : Stand p l e R s m args below meth c T locs cells slots) {pc pc' : Nat} {Ls : Array Slot} {st : List Value} {x y : Int32} (hd : decode code pc = .ok (.ior, 1))  (hp : pc + 1 = pc')
    (K : Go p.tables e below G T (mkF m pc' Ls (.int (x ||| y) :: st))) : Go p.tables e below G T (mkF m pc Ls (.int y :: .int x :: st)) := by
  subst hp; exact Go.step (fun _ k => XT.ior X.here C.exec rfl (C.at hd) rfl k) K
theorem g_ishl (C : Cx p l s m meth c Z x0 code maxL ret) (X : Stand p l e R s m args below meth c T locs cells slots) {pc pc' : Nat} {Ls : Array Slot} {st : List Value} {x y : Int32} (hd : decode code pc = .ok (.ishl, 1))  (hp : pc + 1 = pc')
    (K : Go p.tables e below G T (mkF m pc' Ls (.int (x <<< (y &&& 31)) :: st))) : Go p.tables e below G T (mkF m pc Ls (.int y :: .int x :: st)) := by
  subst hp; exact Go.step (fun _ k => XT.ishl X.here C.exec rfl (C.at hd) rfl k) K
theorem g_ishr (C : Cx p l s m meth c Z x0 code maxL ret) (X : Stand p l e R s m args below meth c T locs cells slots) {pc pc' : Nat} {Ls : Array Slot} {st : List Value} {x y : Int32} (hd : decode code pc = .ok (.ishr, 1))  (hp : pc + 1 = pc')
    (K : Go p.tables e below G T (mkF m pc' Ls (.int (x >>> (y &&& 31)) :: st))) : Go p.tables e below G T (mkF m pc Ls (.int y :: .int x :: st)) := by
  subst hp; exact Go.step (fun _ k => XT.ishr X.here C.exec rfl (C.at hd) rfl k) K
theorem g_iushr (C : Cx p l s m meth c Z x0 code maxL ret) (X : Stand p l e R s m args below meth c T locs cells slots) {pc pc' : Nat} {Ls : Array Slot} {st : List Value} {x y : Int32} (hd : decode code pc = .ok (.iushr, 1))  (hp : pc + 1 = pc')
    (K : Go p.tables e below G T (mkF m pc' Ls (.int (XT.ushr x y) :: st))) : Go p.tables e below G T (mkF m pc Ls (.int y :: .int x :: st)) := by
  subst hp; exact Go.step (fun _ k => XT.iushr X.here C.exec rfl (C.at hd) rfl k) K
theorem g_ladd (C : Cx p l s m meth c Z x0 code maxL ret) (X : Stand p l e R s m args below meth c T locs cells slots) {pc pc' : Nat} {Ls : Array Slot} {st : List Value} {x y : Int64} (hd : decode code pc = .ok (.ladd, 1))  (hp : pc + 1 = pc')
    (K : Go p.tables e below G T (mkF m pc' Ls (.long (x + y) :: st))) : Go p.tables e below G T (mkF m pc Ls (.long y :: .long x :: st)) := by
  subst hp; exact Go.step (fun _ k => XT.ladd X.here C.exec rfl (C.at hd) rfl k) K
theorem g_lsub (C : Cx p l s m meth c Z x0 code maxL ret) (X : Stand p l e R s m args below meth c T locs cells slots) {pc pc' : Nat} {Ls : Array Slot} {st : List Value} {x y : Int64} (hd : decode code pc = .ok (.lsub, 1))  (hp : pc + 1 = pc')
    (K : Go p.tables e below G T (mkF m pc' Ls (.long (x - y) :: st))) : Go p.tables e below G T (mkF m pc Ls (.long y :: .long x :: st)) := by
  subst hp; exact Go.step (fun _ k => XT.lsub X.here C.exec rfl (C.at hd) rfl k) K
theorem g_lmul (C : Cx p l s m meth c Z x0 code maxL ret) (X : Stand p l e R s m args below meth c T locs cells slots) {pc pc' : Nat} {Ls : Array Slot} {st : List Value} {x y : Int64} (hd : decode code pc = .ok (.lmul, 1))  (hp : pc + 1 = pc')
    (K : Go p.tables e below G T (mkF m pc' Ls (.long (x * y) :: st))) : Go p.tables e below G T (mkF m pc Ls (.long y :: .long x :: st)) := by
  subst hp; exact Go.step (fun _ k => XT.lmul X.here C.exec rfl (C.at hd) rfl k) K
theorem g_land (C : Cx p l s m meth c Z x0 code maxL ret) (X : Stand p l e R s m args below meth c T locs cells slots) {pc pc' : Nat} {Ls : Array Slot} {st : List Value} {x y : Int64} (hd : decode code pc = .ok (.land, 1))  (hp : pc + 1 = pc')
    (K : Go p.tables e below G T (mkF m pc' Ls (.long (x &&& y) :: st))) : Go p.tables e below G T (mkF m pc Ls (.long y :: .long x :: st)) := by
  subst hp; exact Go.step (fun _ k => XT.land X.here C.exec rfl (C.at hd) rfl k) K
theorem g_lor (C : Cx p l s m meth c Z x0 code maxL ret) (X : Stand p l e R s m args below meth c T locs cells slots) {pc pc' : Nat} {Ls : Array Slot} {st : List Value} {x y : Int64} (hd : decode code pc = .ok (.lor, 1))  (hp : pc + 1 = pc')
    (K : Go p.tables e below G T (mkF m pc' Ls (.long (x ||| y) :: st))) : Go p.tables e below G T (mkF m pc Ls (.long y :: .long x :: st)) := by
  subst hp; exact Go.step (fun _ k => XT.lor X.here C.exec rfl (C.at hd) rfl k) K
theorem g_lxor (C : Cx p l s m meth c Z x0 code maxL ret) (X : Stand p l e R s m args below meth c T locs cells slots) {pc pc' : Nat} {Ls : Array Slot} {st : List Value} {x y : Int64} (hd : decode code pc = .ok (.lxor, 1))  (hp : pc + 1 = pc')
    (K : Go p.tables e below G T (mkF m pc' Ls (.long (x ^^^ y) :: st))) : Go p.tables e below G T (mkF m pc Ls (.long y :: .long x :: st)) := by
  subst hp; exact Go.step (fun _ k => XT.lxor X.here C.exec rfl (C.at hd) rfl k) K
theorem g_lneg (C : Cx p l s m meth c Z x0 code maxL ret) (X : Stand p l e R s m args below meth c T locs cells slots) {pc pc' : Nat} {Ls : Array Slot} {st : List Value} {x : Int64} (hd : decode code pc = .ok (.lneg, 1))  (hp : pc + 1 = pc')
    (K : Go p.tables e below G T (mkF m pc' Ls (.long (-x) :: st))) : Go p.tables e below G T (mkF m pc Ls (.long x :: st)) := by
  subst hp; exact Go.step (fun _ k => XT.lneg X.here C.exec rfl (C.at hd) rfl k) K
theorem g_i2l (C : Cx p l s m meth c Z x0 code maxL ret) (X : Stand p l e R s m args below meth c T locs cells slots) {pc pc' : Nat} {Ls : Array Slot} {st : List Value} {x : Int32} (hd : decode code pc = .ok (.i2l, 1))  (hp : pc + 1 = pc')
    (K : Go p.tables e below G T (mkF m pc' Ls (.long x.toInt64 :: st))) : Go p.tables e below G T (mkF m pc Ls (.int x :: st)) := by
  subst hp; exact Go.step (fun _ k => XT.i2l X.here C.exec rfl (C.at hd) rfl k) K
theorem g_l2i (C : Cx p l s m meth c Z x0 code maxL ret) (X : Stand p l e R s m args below meth c T locs cells slots) {pc pc' : Nat} {Ls : Array Slot} {st : List Value} {x : Int64} (hd : decode code pc = .ok (.l2i, 1))  (hp : pc + 1 = pc')
    (K : Go p.tables e below G T (mkF m pc' Ls (.int x.toInt32 :: st))) : Go p.tables e below G T (mkF m pc Ls (.long x :: st)) := by
  subst hp; exact Go.step (fun _ k => XT.l2i X.here C.exec rfl (C.at hd) rfl k) K
theorem g_i2b (C : Cx p l s m meth c Z x0 code maxL ret) (X : Stand p l e R s m args below meth c T locs cells slots) {pc pc' : Nat} {Ls : Array Slot} {st : List Value} {x : Int32} (hd : decode code pc = .ok (.i2b, 1))  (hp : pc + 1 = pc')
    (K : Go p.tables e below G T (mkF m pc' Ls (.int x.toInt8.toInt32 :: st))) : Go p.tables e below G T (mkF m pc Ls (.int x :: st)) := by
  subst hp; exact Go.step (fun _ k => XT.i2b X.here C.exec rfl (C.at hd) rfl k) K
theorem g_i2s (C : Cx p l s m meth c Z x0 code maxL ret) (X : Stand p l e R s m args below meth c T locs cells slots) {pc pc' : Nat} {Ls : Array Slot} {st : List Value} {x : Int32} (hd : decode code pc = .ok (.i2s, 1))  (hp : pc + 1 = pc')
    (K : Go p.tables e below G T (mkF m pc' Ls (.int x.toInt16.toInt32 :: st))) : Go p.tables e below G T (mkF m pc Ls (.int x :: st)) := by
  subst hp; exact Go.step (fun _ k => XT.i2s X.here C.exec rfl (C.at hd) rfl k) K
theorem g_i2d (C : Cx p l s m meth c Z x0 code maxL ret) (X : Stand p l e R s m args below meth c T locs cells slots) {pc pc' : Nat} {Ls : Array Slot} {st : List Value} {x : Int32} (hd : decode code pc = .ok (.i2d, 1))  (hp : pc + 1 = pc')
    (K : Go p.tables e below G T (mkF m pc' Ls (.double (FP.i2d x) :: st))) : Go p.tables e below G T (mkF m pc Ls (.int x :: st)) := by
  subst hp; exact Go.step (fun _ k => XS.i2dS X.here C.exec rfl (C.at hd) rfl rfl k) K
theorem g_l2d (C : Cx p l s m meth c Z x0 code maxL ret) (X : Stand p l e R s m args below meth c T locs cells slots) {pc pc' : Nat} {Ls : Array Slot} {st : List Value} {x : Int64} (hd : decode code pc = .ok (.l2d, 1))  (hp : pc + 1 = pc')
    (K : Go p.tables e below G T (mkF m pc' Ls (.double (FP.l2d x) :: st))) : Go p.tables e below G T (mkF m pc Ls (.long x :: st)) := by
  subst hp; exact Go.step (fun _ k => XS.l2dS X.here C.exec rfl (C.at hd) rfl rfl k) K
theorem g_dneg (C : Cx p l s m meth c Z x0 code maxL ret) (X : Stand p l e R s m args below meth c T locs cells slots) {pc pc' : Nat} {Ls : Array Slot} {st : List Value} {x : UInt64} (hd : decode code pc = .ok (.dneg, 1))  (hp : pc + 1 = pc')
    (K : Go p.tables e below G T (mkF m pc' Ls (.double (FP.dneg x) :: st))) : Go p.tables e below G T (mkF m pc Ls (.double x :: st)) := by
  subst hp; exact Go.step (fun _ k => XS.dnegS X.here C.exec rfl (C.at hd) rfl rfl k) K
theorem g_dcmp (C : Cx p l s m meth c Z x0 code maxL ret) (X : Stand p l e R s m args below meth c T locs cells slots) {pc pc' : Nat} {Ls : Array Slot} {st : List Value} {o : CmpOp} {x y : UInt64} (hd : decode code pc = .ok (.dcmp o, 1))  (hp : pc + 1 = pc')
    (K : Go p.tables e below G T (mkF m pc' Ls (.int (cmpValue (FP.dcmp x y) o) :: st))) : Go p.tables e below G T (mkF m pc Ls (.double y :: .double x :: st)) := by
  subst hp; exact Go.step (fun _ k => XS.dcmpS X.here C.exec rfl (C.at hd) rfl rfl k) K
theorem g_dcmpV (C : Cx p l s m meth c Z x0 code maxL ret) (X : Stand p l e R s m args below meth c T locs cells slots) {pc pc' : Nat} {Ls : Array Slot} {st : List Value} {o : CmpOp} {x y : UInt64} {v : Int32} (hd : decode code pc = .ok (.dcmp o, 1)) (hv : cmpValue (FP.dcmp x y) o = v) (hp : pc + 1 = pc')
    (K : Go p.tables e below G T (mkF m pc' Ls (.int v :: st))) : Go p.tables e below G T (mkF m pc Ls (.double y :: .double x :: st)) := by
  subst hp; exact Go.step (fun _ k => XS.dcmpS X.here C.exec rfl (C.at hd) rfl hv k) K
theorem g_dadd (C : Cx p l s m meth c Z x0 code maxL ret) (X : Stand p l e R s m args below meth c T locs cells slots) {pc pc' : Nat} {Ls : Array Slot} {st : List Value} {x y : UInt64} (hd : decode code pc = .ok (.dadd, 1)) (hn : Jvm.Free.Fl.NoNaN64 (FP.dadd x y)) (hp : pc + 1 = pc')
    (K : Go p.tables e below G T (mkF m pc' Ls (.double (FP.dadd x y) :: st))) : Go p.tables e below G T (mkF m pc Ls (.double y :: .double x :: st)) := by
  subst hp; exact Go.step (fun _ k => XS.daddS X.here C.exec rfl (C.at hd) rfl hn rfl k) K
theorem g_dsub (C : Cx p l s m meth c Z x0 code maxL ret) (X : Stand p l e R s m args below meth c T locs cells slots) {pc pc' : Nat} {Ls : Array Slot} {st : List Value} {x y : UInt64} (hd : decode code pc = .ok (.dsub, 1)) (hn : Jvm.Free.Fl.NoNaN64 (FP.dsub x y)) (hp : pc + 1 = pc')
    (K : Go p.tables e below G T (mkF m pc' Ls (.double (FP.dsub x y) :: st))) : Go p.tables e below G T (mkF m pc Ls (.double y :: .double x :: st)) := by
  subst hp; exact Go.step (fun _ k => XS.dsubS X.here C.exec rfl (C.at hd) rfl hn rfl k) K
theorem g_dmul (C : Cx p l s m meth c Z x0 code maxL ret) (X : Stand p l e R s m args below meth c T locs cells slots) {pc pc' : Nat} {Ls : Array Slot} {st : List Value} {x y : UInt64} (hd : decode code pc = .ok (.dmul, 1)) (hn : Jvm.Free.Fl.NoNaN64 (FP.dmul x y)) (hp : pc + 1 = pc')
    (K : Go p.tables e below G T (mkF m pc' Ls (.double (FP.dmul x y) :: st))) : Go p.tables e below G T (mkF m pc Ls (.double y :: .double x :: st)) := by
  subst hp; exact Go.step (fun _ k => XS.dmulS X.here C.exec rfl (C.at hd) rfl hn rfl k) K
theorem g_ddiv (C : Cx p l s m meth c Z x0 code maxL ret) (X : Stand p l e R s m args below meth c T locs cells slots) {pc pc' : Nat} {Ls : Array Slot} {st : List Value} {x y : UInt64} (hd : decode code pc = .ok (.ddiv, 1)) (hn : Jvm.Free.Fl.NoNaN64 (FP.ddiv x y)) (hp : pc + 1 = pc')
    (K : Go p.tables e below G T (mkF m pc' Ls (.double (FP.ddiv x y) :: st))) : Go p.tables e below G T (mkF m pc Ls (.double y :: .double x :: st)) := by
  subst hp; exact Go.step (fun _ k => XS.ddivS X.here C.exec rfl (C.at hd) rfl hn rfl k) K
theorem g_lcmp (C : Cx p l s m meth c Z x0 code maxL ret) (X : Stand p l e R s m args below meth c T locs cells slots) {pc pc' : Nat} {Ls : Array Slot} {st : List Value} {x y : Int64} (hd : decode code pc = .ok (.lcmp, 1))  (hp : pc + 1 = pc')
    (K : Go p.tables e below G T (mkF m pc' Ls (.int (XT.cmpL x y) :: st))) : Go p.tables e below G T (mkF m pc Ls (.long y :: .long x :: st)) := by
  subst hp; exact Go.step (fun _ k => XT.lcmp X.here C.exec rfl (C.at hd) rfl k) K
theorem g_pop (C : Cx p l s m meth c Z x0 code maxL ret) (X : Stand p l e R s m args below meth c T locs cells slots) {pc pc' : Nat} {Ls : Array Slot} {st : List Value} {x : Value} (hd : decode code pc = .ok (.pop, 1)) (hc : x.category = 1) (hp : pc + 1 = pc')
    (K : Go p.tables e below G T (mkF m pc' Ls (st))) : Go p.tables e below G T (mkF m pc Ls (x :: st)) := by
  subst hp; exact Go.step (fun _ k => XT.pop X.here C.exec rfl (C.at hd) rfl hc k) K
theorem g_dup (C : Cx p l s m meth c Z x0 code maxL ret) (X : Stand p l e R s m args below meth c T locs cells slots) {pc pc' : Nat} {Ls : Array Slot} {st : List Value} {x : Value} (hd : decode code pc = .ok (.dup, 1)) (hc : x.category = 1) (hp : pc + 1 = pc')
    (K : Go p.tables e below G T (mkF m pc' Ls (x :: x :: st))) : Go p.tables e below G T (mkF m pc Ls (x :: st)) := by
  subst hp; exact Go.step (fun _ k => XS.dup X.here C.exec rfl (C.at hd) rfl hc k) K
theorem g_dupX1 (C : Cx p l s m meth c Z x0 code maxL ret) (X : Stand p l e R s m args below meth c T locs cells slots) {pc pc' : Nat} {Ls : Array Slot} {st : List Value} {x y : Value} (hd : decode code pc = .ok (.dup_x1, 1)) (hc : x.category = 1) (hc' : y.category = 1) (hp : pc + 1 = pc')
    (K : Go p.tables e below G T (mkF m pc' Ls (x :: y :: x :: st))) : Go p.tables e below G T (mkF m pc Ls (x :: y :: st)) := by
  subst hp; exact Go.step (fun _ k => XT.dupX1 X.here C.exec rfl (C.at hd) rfl hc hc' k) K
theorem g_dup2 (C : Cx p l s m meth c Z x0 code maxL ret) (X : Stand p l e R s m args below meth c T locs cells slots) {pc pc' : Nat} {Ls : Array Slot} {st : List Value} {x y : Value} (hd : decode code pc = .ok (.dup2, 1)) (hc : x.category = 1) (hc' : y.category = 1) (hp : pc + 1 = pc')
    (K : Go p.tables e below G T (mkF m pc' Ls (x :: y :: x :: y :: st))) : Go p.tables e below G T (mkF m pc Ls (x :: y :: st)) := by
  subst hp; exact Go.step (fun _ k => XT.dup2 X.here C.exec rfl (C.at hd) rfl hc hc' k) K
theorem g_iinc (C : Cx p l s m meth c Z x0 code maxL ret) (X : Stand p l e R s m args below meth c T locs cells slots) {pc pc' : Nat} {Ls : Array Slot} {st : List Value} {k : Nat} {cst : Int} {x z : Int32} {l' : Array Slot} (hd : decode code pc = .ok (.iinc k cst, 3)) (hl : Ls[k]? = some (.val (.int x))) (hz : z = x + Int32.ofInt cst) (hl' : storeLocals Ls k (.int z) = some l') (hp : pc + 3 = pc')
    (K : Go p.tables e below G T (mkF m pc' l' (st))) : Go p.tables e below G T (mkF m pc Ls (st)) := by
  subst hp; subst hz; exact Go.step (fun _ k => XS.iinc X.here C.exec rfl (C.at hd) hl hl' k) K
theorem g_irem (C : Cx p l s m meth c Z x0 code maxL ret) (X : Stand p l e R s m args below meth c T locs cells slots) {pc pc' : Nat} {Ls : Array Slot} {st : List Value} {x y : Int32} (hd : decode code pc = .ok (.irem, 1)) (hy : y ≠ 0) (hp : pc + 1 = pc')
    (K : Go p.tables e below G T (mkF m pc' Ls (.int (x % y) :: st))) : Go p.tables e below G T (mkF m pc Ls (.int y :: .int x :: st)) := by
  subst hp; exact Go.step (fun _ k => iremM X C.exec rfl (C.at hd) rfl hy k) K
theorem g_lushr (C : Cx p l s m meth c Z x0 code maxL ret) (X : Stand p l e R s m args below meth c T locs cells slots) {pc pc' : Nat} {Ls : Array Slot} {st : List Value} {x : Int64} {y : Int32} (hd : decode code pc = .ok (.lushr, 1)) (hp : pc + 1 = pc')
    (K : Go p.tables e below G T (mkF m pc' Ls (.long (XT.ushrL x y) :: st))) : Go p.tables e below G T (mkF m pc Ls (.int y :: .long x :: st)) := by
  subst hp; exact Go.step (fun _ k => XT.lushr X.here C.exec rfl (C.at hd) rfl k) K
/-- what a branch asks, of whole numbers -/
abbrev cpI : ClassFile.Cond → Int → Int → Prop
  | .eq, x, y => x = y
  | .ne, x, y => ¬ x = y
  | .lt, x, y => x < y
  | .ge, x, y => ¬ x < y
  | .gt, x, y => y < x
  | .le, x, y => ¬ y < x
theorem holds_icmp (cd : ClassFile.Cond) (x y : Int32) : if_icmp.holds cd x y = true ↔ cpI cd x.toInt y.toInt := by
  cases cd <;> simp only [if_icmp.holds, cpI, decide_eq_true_eq, beq_iff_eq, bne_iff_ne, ne_eq, Int32.lt_iff_toInt_lt, Int32.le_iff_toInt_le, Int32.toInt_inj, Int.not_lt, ge_iff_le, gt_iff_lt]
theorem holds_if (cd : ClassFile.Cond) (x : Int32) : ifCond.holds cd x = true ↔ cpI cd x.toInt 0 := by
  rw [if0]; exact holds_icmp cd x 0
theorem g_goto (C : Cx p l s m meth c Z x0 code maxL ret) (X : Stand p l e R s m args below meth c T locs cells slots) {pc pc' : Nat} {Ls : Array Slot} {st : List Value} {o : Int} (hd : decode code pc = .ok (.goto o, 3)) (ho : 0 ≤ (pc : Int) + o) (hp : ((pc : Int) + o).toNat = pc')
    (K : Go p.tables e below G T (mkF m pc' Ls st)) : Go p.tables e below G T (mkF m pc Ls st) :=
  Go.step (fun _ k => XS.goto X.here C.exec rfl rfl (C.at hd) ho hp k) K
theorem g_if (C : Cx p l s m meth c Z x0 code maxL ret) (X : Stand p l e R s m args below meth c T locs cells slots) {pc pc' pc'' : Nat} {Ls : Array Slot} {st : List Value} {cd : ClassFile.Cond} {x : Int32} {o : Int} (hd : decode code pc = .ok (.ifCond cd o, 3)) (ho : 0 ≤ (pc : Int) + o) (hp : ((pc : Int) + o).toNat = pc') (hp3 : pc + 3 = pc'')
    (K1 : cpI cd x.toInt 0 → Go p.tables e below G T (mkF m pc' Ls st)) (K2 : ¬ cpI cd x.toInt 0 → Go p.tables e below G T (mkF m pc'' Ls st)) : Go p.tables e below G T (mkF m pc Ls (.int x :: st)) := by
  subst hp3
  cases hc : ifCond.holds cd x with
  | true => exact Go.step (fun _ k => XS.ifYes X.here C.exec rfl rfl (C.at hd) rfl hc ho hp k) (K1 ((holds_if cd x).mp hc))
  | false => exact Go.step (fun _ k => XS.ifNo X.here C.exec rfl (C.at hd) rfl hc k) (K2 fun q => by rw [(holds_if cd x).mpr q] at hc; cases hc)
theorem g_icmp (C : Cx p l s m meth c Z x0 code maxL ret) (X : Stand p l e R s m args below meth c T locs cells slots) {pc pc' pc'' : Nat} {Ls : Array Slot} {st : List Value} {cd : ClassFile.Cond} {x y : Int32} {o : Int} (hd : decode code pc = .ok (.if_icmp cd o, 3)) (ho : 0 ≤ (pc : Int) + o) (hp : ((pc : Int) + o).toNat = pc') (hp3 : pc + 3 = pc'')
    (K1 : cpI cd x.toInt y.toInt → Go p.tables e below G T (mkF m pc' Ls st)) (K2 : ¬ cpI cd x.toInt y.toInt → Go p.tables e below G T (mkF m pc'' Ls st)) : Go p.tables e below G T (mkF m pc Ls (.int y :: .int x :: st)) := by
  subst hp3
  cases hc : if_icmp.holds cd x y with
  | true => exact Go.step (fun _ k => XS.icmpYes X.here C.exec rfl rfl (C.at hd) rfl hc ho hp k) (K1 ((holds_icmp cd x y).mp hc))
  | false => exact Go.step (fun _ k => XS.icmpNo X.here C.exec rfl (C.at hd) rfl hc k) (K2 fun q => by rw [(holds_icmp cd x y).mpr q] at hc; cases hc)
theorem g_ifY (C : Cx p l s m meth c Z x0 code maxL ret) (X : Stand p l e R s m args below meth c T locs cells slots) {pc pc' : Nat} {Ls : Array Slot} {st : List Value} {cd : ClassFile.Cond} {x : Int32} {o : Int} (hd : decode code pc = .ok (.ifCond cd o, 3)) (ho : 0 ≤ (pc : Int) + o) (hp : ((pc : Int) + o).toNat = pc') (hc : cpI cd x.toInt 0)
    (K1 : Go p.tables e below G T (mkF m pc' Ls st)) : Go p.tables e below G T (mkF m pc Ls (.int x :: st)) :=
  Go.step (fun _ k => XS.ifYes X.here C.exec rfl rfl (C.at hd) rfl ((holds_if cd x).mpr hc) ho hp k) K1
theorem g_ifN (C : Cx p l s m meth c Z x0 code maxL ret) (X : Stand p l e R s m args below meth c T locs cells slots) {pc pc' : Nat} {Ls : Array Slot} {st : List Value} {cd : ClassFile.Cond} {x : Int32} {o : Int} (hd : decode code pc = .ok (.ifCond cd o, 3)) (hc : ¬ cpI cd x.toInt 0) (hp : pc + 3 = pc')
    (K1 : Go p.tables e below G T (mkF m pc' Ls st)) : Go p.tables e below G T (mkF m pc Ls (.int x :: st)) := by
  subst hp
  exact Go.step (fun _ k => XS.ifNo X.here C.exec rfl (C.at hd) rfl (Bool.eq_false_iff.mpr fun q => hc ((holds_if cd x).mp q)) k) K1
theorem g_icmpY (C : Cx p l s m meth c Z x0 code maxL ret) (X : Stand p l e R s m args below meth c T locs cells slots) {pc pc' : Nat} {Ls : Array Slot} {st : List Value} {cd : ClassFile.Cond} {x y : Int32} {o : Int} (hd : decode code pc = .ok (.if_icmp cd o, 3)) (ho : 0 ≤ (pc : Int) + o) (hp : ((pc : Int) + o).toNat = pc') (hc : cpI cd x.toInt y.toInt)
    (K1 : Go p.tables e below G T (mkF m pc' Ls st)) : Go p.tables e below G T (mkF m pc Ls (.int y :: .int x :: st)) :=
  Go.step (fun _ k => XS.icmpYes X.here C.exec rfl rfl (C.at hd) rfl ((holds_icmp cd x y).mpr hc) ho hp k) K1
theorem g_icmpN (C : Cx p l s m meth c Z x0 code maxL ret) (X : Stand p l e R s m args below meth c T locs cells slots) {pc pc' : Nat} {Ls : Array Slot} {st : List Value} {cd : ClassFile.Cond} {x y : Int32} {o : Int} (hd : decode code pc = .ok (.if_icmp cd o, 3)) (hc : ¬ cpI cd x.toInt y.toInt) (hp : pc + 3 = pc')
    (K1 : Go p.tables e below G T (mkF m pc' Ls st)) : Go p.tables e below G T (mkF m pc Ls (.int y :: .int x :: st)) := by
  subst hp
  exact Go.step (fun _ k => XS.icmpNo X.here C.exec rfl (C.at hd) rfl (Bool.eq_false_iff.mpr fun q => hc ((holds_icmp cd x y).mp q)) k) K1
/-! leaving the body -/
theorem g_out {k n : Nat} {Q : Option Value → Heap → List Loc → Prop} (C : Cx p l s m meth c Z x0 code maxL ret) (X : Stand p l e R s m args below meth c T locs cells slots) {v : Option Value} {g : JFrame} (hv : ret = none → v = none)
    (st : ∀ fs, (∀ (f : JFrame) (acts : List Action), f.method = m → f.locked = none → f.entered = [] → (doReturn e (T.setTop f) acts v).1 = T.setFrames fs) → Steps p.tables e below (T.setTop g) (T.setFrames fs))
    (hQ : Q v T.heap locs) (hk : cells ≤ k) (hn : slots ≤ n) : Go p.tables e below (End s Q k n) T g := by
  obtain ⟨fs, hr, hrun, hended, hW, hsame⟩ := X.leave (v := v) (fun q => hv (C.rets ▸ q)) C.unlocked
  exact ⟨_, _, st fs hr, hrun, hended, v, locs, rfl, hQ, ⟨_, rfl⟩, hW, hsame.mono hk hn⟩
theorem g_ireturn {k n : Nat} {Q : Option Value → Heap → List Loc → Prop} (C : Cx p l s m meth c Z x0 code maxL (some .int)) (X : Stand p l e R s m args below meth c T locs cells slots) {pc : Nat} {Ls : Array Slot} {st : List Value} {z : Int32} (hd : decode code pc = .ok (.ireturn, 1))
    (hQ : Q (some (.int z)) T.heap locs) (hk : cells ≤ k) (hn : slots ≤ n) : Go p.tables e below (End s Q k n) T (mkF m pc Ls (.int z :: st)) :=
  g_out C X (v := some (.int z)) (fun q => by cases q) (fun fs hr => retOut X C.exec C.rets rfl (Or.inl ⟨rfl, Or.inl rfl, _, rfl⟩) (C.at hd) hr) hQ hk hn
theorem g_zreturn {k n : Nat} {Q : Option Value → Heap → List Loc → Prop} (C : Cx p l s m meth c Z x0 code maxL (some .boolean)) (X : Stand p l e R s m args below meth c T locs cells slots) {pc : Nat} {Ls : Array Slot} {st : List Value} {z w : Int32} (hd : decode code pc = .ok (.ireturn, 1)) (hw : nar .boolean z = w)
    (hQ : Q (some (.int w)) T.heap locs) (hk : cells ≤ k) (hn : slots ≤ n) : Go p.tables e below (End s Q k n) T (mkF m pc Ls (.int z :: st)) :=
  g_out C X (v := some (.int w)) (fun q => by cases q) (fun fs hr => retN X C.exec (t := .boolean) C.rets (by simp) (C.at hd) (hw ▸ hr)) hQ hk hn
theorem g_lreturn {k n : Nat} {Q : Option Value → Heap → List Loc → Prop} (C : Cx p l s m meth c Z x0 code maxL (some .long)) (X : Stand p l e R s m args below meth c T locs cells slots) {pc : Nat} {Ls : Array Slot} {st : List Value} {z : Int64} (hd : decode code pc = .ok (.lreturn, 1))
    (hQ : Q (some (.long z)) T.heap locs) (hk : cells ≤ k) (hn : slots ≤ n) : Go p.tables e below (End s Q k n) T (mkF m pc Ls (.long z :: st)) :=
  g_out C X (v := some (.long z)) (fun q => by cases q) (fun fs hr => retOut X C.exec C.rets rfl (Or.inr (Or.inl ⟨rfl, rfl, _, rfl⟩)) (C.at hd) hr) hQ hk hn
theorem g_dreturn {k n : Nat} {Q : Option Value → Heap → List Loc → Prop} (C : Cx p l s m meth c Z x0 code maxL (some .double)) (X : Stand p l e R s m args below meth c T locs cells slots) {pc : Nat} {Ls : Array Slot} {st : List Value} {z : UInt64} (hd : decode code pc = .ok (.dreturn, 1))
    (hQ : Q (some (.double z)) T.heap locs) (hk : cells ≤ k) (hn : slots ≤ n) : Go p.tables e below (End s Q k n) T (mkF m pc Ls (.double z :: st)) :=
  g_out C X (v := some (.double z)) (fun q => by cases q) (fun fs hr => retOut X C.exec C.rets rfl (Or.inr (Or.inr (Or.inl ⟨rfl, rfl, _, rfl⟩))) (C.at hd) hr) hQ hk hn
theorem g_areturn {k n : Nat} {Q : Option Value → Heap → List Loc → Prop} {t : FieldType} (C : Cx p l s m meth c Z x0 code maxL (some t)) (X : Stand p l e R s m args below meth c T locs cells slots) {pc : Nat} {Ls : Array Slot} {st : List Value} {w : Value} (hd : decode code pc = .ok (.areturn, 1)) (ht : t.isReference = true) (hw : w.isRef = true) (hna : narrow t w = w)
    (hQ : Q (some w) T.heap locs) (hk : cells ≤ k) (hn : slots ≤ n) : Go p.tables e below (End s Q k n) T (mkF m pc Ls (w :: st)) :=
  g_out C X (v := some w) (fun q => by cases q) (fun fs hr => retOut X C.exec C.rets hna (Or.inr (Or.inr (Or.inr (Or.inr ⟨rfl, ht, hw⟩)))) (C.at hd) hr) hQ hk hn
theorem g_return {k n : Nat} {Q : Option Value → Heap → List Loc → Prop} (C : Cx p l s m meth c Z x0 code maxL none) (X : Stand p l e R s m args below meth c T locs cells slots) {pc : Nat} {Ls : Array Slot} (hd : decode code pc = .ok (.return_, 1))
    (hQ : Q none T.heap locs) (hk : cells ≤ k) (hn : slots ≤ n) : Go p.tables e below (End s Q k n) T (mkF m pc Ls []) :=
  g_out C X (v := none) (fun _ => rfl) (fun fs hr => X.returnOut C.exec C.rets (C.at hd) hr) hQ hk hn
/-! calls -/
theorem g_callS (C : Cx p l s m meth c Z x0 code maxL ret) (X : Stand p l e R s m args below meth c T locs cells slots) {index : Nat} {y : MethodName} {bytes : ByteArray} {mL : Nat} {rt : Option FieldType} {rm : Room} {as : Array Value} {Q : Option Value → Heap → List Loc → Prop} (K0 : Con l Z y bytes mL rt rm as h Q)
    (w1 : (Cond.methodLink x0.cls index y).before a0 Z = true) (w2 : (Cond.static y).before a0 Z = true) (w3 : (Cond.initialized y.cls).before a0 Z = true) (w4 : (Cond.code y bytes mL rt).before a0 Z = true)
    (hy : y.cls ≠ "java/lang/invoke/MethodHandle" ∧ y.cls ≠ "java/lang/invoke/VarHandle") (eT : T.heap = h) {pc pc' : Nat} {Ls : Array Slot} {st : List Value} (hd : decode code pc = .ok (.invokestatic index, 3)) (hsz : Ls.size = maxL)
    {ps : List FieldType} {r : Option FieldType} (hpd : parseMethodDescriptor y.desc = some ⟨ps, r⟩) (argsL rest : List Value) (hlen : argsL.length = ps.length) (has : argsL.toArray = as) (hst : st = argsL.reverse ++ rest) (W : Nat) (hW : (rest.map fun v => v.category).sum = W)
    (hfr : rm.frames + 1 ≤ R.frames) (hlo : W + (mL + 11) + rm.locals ≤ R.locals) (hce : cells + rm.cells ≤ R.cells) (hsl : slots + rm.slots ≤ R.slots) (hp : pc + 3 = pc')
    (K : ∀ v T' L, Stand p l e R s m args below meth c T' (locs ++ L) (cells + rm.cells) (slots + rm.slots) → Q v T'.heap L → Go p.tables e below G T' (mkF m pc' Ls (v.toList ++ rest))) : Go p.tables e below G T (mkF m pc Ls st) := by
  subst hp has
  obtain ⟨v, _, ⟨T1, L1, k1, n1⟩, -, X1, ⟨Lc, hQ, q1, q2, q3⟩, st1⟩ := Jvm.LawKit.callS X C.exec (y := y) C.own (mvT C.warm w1) (mvT C.warm w2) (mvT C.warm w3) (mvT C.warm w4) hy (backOf (W := W) (K0 []) C.warm w4 w3 hfr hlo)
    (g := mkF m pc Ls st) rfl (by rw [C.maxl]; exact hsz) (argsL := argsL) (rest := rest) (lenOf hpd hlen) hst (by show 2 * 0 + _ ≤ _; rw [hW]; omega) (C.at hd) (fun _ _ => ⟨rfl, eT, hce, hsl⟩)
  dsimp only [Pt.U, Pt.locs, Pt.cells, Pt.slots] at X1 q1 q2 q3 st1 hQ
  subst q1 q2 q3
  exact Go.step st1 (K v T1 Lc X1 hQ)
theorem go_trans {tb : Tables} {T1 : State} {g g1 : JFrame} (st : Steps tb e below (T.setTop g) (T1.setTop g1)) (k : Go tb e below G T1 g1) : Go tb e below G T g := by
  obtain ⟨s2, o, h1, h2⟩ := k
  exact ⟨s2, o, st.trans h1, h2⟩
theorem g_callI (C : Cx p l s m meth c Z x0 code maxL ret) (X : Stand p l e R s m args below meth c T locs cells slots) {index : Nat} {y : MethodName} {bytes : ByteArray} {mL : Nat} {rm : Room} {as : Array Value} {Q : Option Value → Heap → List Loc → Prop} (K0 : Con l Z y bytes mL none rm as h Q) (hy1 : y.name = "<init>")
    (w1 : (Cond.methodLink x0.cls index y).before a0 Z = true) (w2 : (Cond.instanceMethod y).before a0 Z = true) (w3 : (Cond.initialized y.cls).before a0 Z = true) (w4 : (Cond.code y bytes mL none).before a0 Z = true)
    (hy : y.cls ≠ "java/lang/invoke/MethodHandle" ∧ y.cls ≠ "java/lang/invoke/VarHandle") (eT : T.heap = h) {pc pc' : Nat} {Ls : Array Slot} {st : List Value} (hd : decode code pc = .ok (.invokespecial index, 3)) (hsz : Ls.size = maxL)
    {ps : List FieldType} {r : Option FieldType} (hpd : parseMethodDescriptor y.desc = some ⟨ps, r⟩) (a : Addr) (argsL rest : List Value) (hlen : argsL.length = ps.length) (has : (.ref a :: argsL).toArray = as) (hst : st = argsL.reverse ++ .ref a :: rest) (W : Nat) (hW : (rest.map fun v => v.category).sum = W)
    (hfr : rm.frames + 1 ≤ R.frames) (hlo : W + (mL + 11) + rm.locals ≤ R.locals) (hce : cells + rm.cells ≤ R.cells) (hsl : slots + rm.slots ≤ R.slots) (hp : pc + 3 = pc')
    (K : ∀ v T' L, Stand p l e R s m args below meth c T' (locs ++ L) (cells + rm.cells) (slots + rm.slots) → Q v T'.heap L → Go p.tables e below G T' (mkF m pc' Ls (v.toList ++ rest))) : Go p.tables e below G T (mkF m pc Ls st) := by
  subst hp has
  obtain ⟨v, _, ⟨T1, L1, k1, n1⟩, -, X1, ⟨Lc, hQ, q1, q2, q3⟩, st1⟩ := X.specialBack C.exec (y := y) hy1 C.own (mvT C.warm w1) (mvT C.warm w2) (mvT C.warm w4) hy (backOf (W := W) (K0 []) C.warm w4 w3 hfr hlo)
    (g := mkF m pc Ls st) rfl (by rw [C.maxl]; exact hsz) (Steps.refl _) (a := a) (argsL := argsL) (rest := rest) (lenOf hpd hlen) hst (by show 2 * 0 + _ ≤ _; rw [hW]; omega) (C.at hd) (fun _ _ => ⟨rfl, eT, hce, hsl⟩)
  dsimp only [Pt.U, Pt.locs, Pt.cells, Pt.slots] at X1 q1 q2 q3 st1 hQ
  subst q1 q2 q3
  exact go_trans st1 (K v T1 Lc X1 hQ)
theorem g_callV (C : Cx p l s m meth c Z x0 code maxL ret) (X : Stand p l e R s m args below meth c T locs cells slots) {index : Nat} {y : MethodName} {cls : String} {bytes : ByteArray} {mL : Nat} {rt : Option FieldType} {rm : Room} {as : Array Value} {Q : Option Value → Heap → List Loc → Prop} (K0 : Con l Z y bytes mL rt rm as h Q)
    (w1 : (Cond.methodLink x0.cls index y).before a0 Z = true) (w2 : (Cond.declares y).before a0 Z = true) (w5 : (Cond.selects cls y y).before a0 Z = true) (w6 : (Cond.instanceMethod y).before a0 Z = true) (w3 : (Cond.initialized y.cls).before a0 Z = true) (w4 : (Cond.code y bytes mL rt).before a0 Z = true)
    (hy : y.cls ≠ "java/lang/invoke/MethodHandle" ∧ y.cls ≠ "java/lang/invoke/VarHandle") (eT : T.heap = h) {a : Addr} (E : Exa Z h a cls) {pc pc' : Nat} {Ls : Array Slot} {st : List Value} (hd : decode code pc = .ok (.invokevirtual index, 3)) (hsz : Ls.size = maxL)
    {ps : List FieldType} {r : Option FieldType} (hpd : parseMethodDescriptor y.desc = some ⟨ps, r⟩) (argsL rest : List Value) (hlen : argsL.length = ps.length) (has : (.ref a :: argsL).toArray = as) (hst : st = argsL.reverse ++ .ref a :: rest) (W : Nat) (hW : (rest.map fun v => v.category).sum = W)
    (hfr : rm.frames + 1 ≤ R.frames) (hlo : W + (mL + 11) + rm.locals ≤ R.locals) (hce : cells + rm.cells ≤ R.cells) (hsl : slots + rm.slots ≤ R.slots) (hp : pc + 3 = pc')
    (K : ∀ v T' L, Stand p l e R s m args below meth c T' (locs ++ L) (cells + rm.cells) (slots + rm.slots) → Q v T'.heap L → Go p.tables e below G T' (mkF m pc' Ls (v.toList ++ rest))) : Go p.tables e below G T (mkF m pc Ls st) := by
  subst hp has
  obtain ⟨cq, kq, qa, qb, qc⟩ := isOf C.warm eT E
  obtain ⟨v, _, ⟨T1, L1, k1, n1⟩, -, X1, ⟨Lc, hQ, q1, q2, q3⟩, st1⟩ := X.virtualBack C.exec (y := y) (z := y) C.own (mvT C.warm w1) (mvT C.warm w2) (notFace_of_selects (args := #[]) (mvT C.warm w5)) (mvT C.warm w5) (mvT C.warm w6) hy (backOf (W := W) (K0 []) C.warm w4 w3 hfr hlo) qa qc
    (g := mkF m pc Ls st) rfl (by rw [C.maxl]; exact hsz) (Steps.refl _) (argsL := argsL) (rest := rest) (lenOf hpd hlen) hst (by show 2 * 0 + _ ≤ _; rw [hW]; omega) (C.at hd) (fun _ _ => ⟨rfl, eT, hce, hsl⟩)
  dsimp only [Pt.U, Pt.locs, Pt.cells, Pt.slots] at X1 q1 q2 q3 st1 hQ
  subst q1 q2 q3
  exact go_trans st1 (K v T1 Lc X1 hQ)
theorem g_initO (C : Cx p l s m meth c Z x0 code maxL ret) (X : Stand p l e R s m args below meth c T locs cells slots) {index : Nat} (w1 : (Cond.methodLink x0.cls index Lib.objectInit).before a0 Z = true) (w2 : (Cond.instanceMethod Lib.objectInit).before a0 Z = true) (w3 : (Cond.code Lib.objectInit ⟨#[0xb1]⟩ 1 none).before a0 Z = true) (eT : T.heap = h)
    {pc pc' : Nat} {Ls : Array Slot} {a : Addr} {rest : List Value} (hd : decode code pc = .ok (.invokespecial index, 3)) (hsz : Ls.size = maxL) (W : Nat) (hW : (rest.map fun v => v.category).sum = W) (hfr : 1 ≤ R.frames) (hlo : W + 12 ≤ R.locals) (hp : pc + 3 = pc')
    (K : ∀ T', Stand p l e R s m args below meth c T' locs cells slots → T'.heap = h → Go p.tables e below G T' (mkF m pc' Ls rest)) : Go p.tables e below G T (mkF m pc Ls (.ref a :: rest)) := by
  subst hp
  obtain ⟨T1, X1, e1, st1⟩ := initO X C.exec C.warm C.own w1 w2 w3 eT (g := mkF m pc Ls (.ref a :: rest)) rfl (by rw [C.maxl]; exact hsz) rfl (C.at hd) hfr (W := W) (by show 2 * 0 + _ ≤ _; rw [hW]; omega) hlo
  exact Go.step st1 (K T1 X1 e1)
/-! the heap -/
theorem g_new (C : Cx p l s m meth c Z x0 code maxL ret) (X : Stand p l e R s m args below meth c T locs cells slots) {cls : String} {index n : Nat} (w : (Cond.classLink x0.cls index cls).before a0 Z = true) (wi : (Cond.instantiable cls n).before a0 Z = true) (wz : (Cond.initialized cls).before a0 Z = true) (eT : T.heap = h)
    {pc pc' : Nat} {Ls : Array Slot} {st : List Value} (hd : decode code pc = .ok (.new index, 3)) (hc : cells + 1 ≤ R.cells) (hl : slots + n ≤ R.slots) (hp : pc + 3 = pc')
    (K : ∀ T' h' a, a = h.size → Stand p l e R s m args below meth c T' locs (cells + 1) (slots + n) → T'.heap = h' → Ext h h' → Exa Z h' a cls → (∀ {O nm d : String} {ty : FieldType}, Laid Z a0 cls O nm d → parseFieldDescriptor d = some ty → Fld Z h' a O nm d (defaultValue ty)) → Go p.tables e below G T' (mkF m pc' Ls (.ref a :: st))) :
    Go p.tables e below G T (mkF m pc Ls st) := by
  subst hp
  obtain ⟨T1, h1, X1, e1, E1, A1, D1, -, st1⟩ := newO X C.exec C.warm C.own w wi wz eT (g := mkF m pc Ls st) rfl (C.at hd) hc hl
  exact Go.step st1 (K T1 h1 h.size rfl X1 e1 E1 A1 D1)
theorem g_newP (C : Cx p l s m meth c Z x0 code maxL ret) (X : Stand p l e R s m args below meth c T locs cells slots) {aty : ArrayType} (w : (Cond.arrayClass (newarray.typeOf aty)).before a0 Z = true) (eT : T.heap = h)
    {pc pc' : Nat} {Ls : Array Slot} {st : List Value} {z : Int32} (hd : decode code pc = .ok (.newarray aty, 2)) (hz : ¬ z < 0) (cap : Nat) (hcap : z.toNatClampNeg ≤ cap) (hb : cap * 8 ≤ 536870912) (hc : cells + 1 ≤ R.cells) (hl : slots + cap ≤ R.slots) (hp : pc + 2 = pc')
    (K : ∀ T' h' a k, a = h.size → Stand p l e R s m args below meth c T' locs (cells + 1) (slots + cap) → T'.heap = h' → Ext h h' → Arv Z h' a k (newarray.typeOf aty) z [] (defaultValue (newarray.typeOf aty)) → Go p.tables e below G T' (mkF m pc' Ls (.ref a :: st))) :
    Go p.tables e below G T (mkF m pc Ls (.int z :: st)) := by
  subst hp
  obtain ⟨T1, h1, cA, X1, e1, E1, A1, st1⟩ := newP X C.exec C.warm w eT (g := mkF m pc Ls (.int z :: st)) rfl (C.at hd) rfl hz hcap hb hc hl
  exact Go.step st1 (K T1 h1 h.size cA rfl X1 e1 E1 (Arv.new A1 hz))
theorem g_getF (C : Cx p l s m meth c Z x0 code maxL ret) (X : Stand p l e R s m args below meth c T locs cells slots) {R0 O n d host : String} {index : Nat} (w : (Cond.fieldLink x0.cls index R0 n d).before a0 Z = true ∨ (Cond.fieldLinkNest x0.cls index R0 n d host).before a0 Z = true) (via : Via Z R0 O n d) (eT : T.heap = h) {a : Addr} {v : Value} (F : Fld Z h a O n d v)
    {pc pc' : Nat} {Ls : Array Slot} {st : List Value} (hd : decode code pc = .ok (.getfield index, 3)) (hp : pc + 3 = pc')
    (K : ∀ T', Stand p l e R s m args below meth c T' locs cells slots → T'.heap = h → Go p.tables e below G T' (mkF m pc' Ls (v :: st))) : Go p.tables e below G T (mkF m pc Ls (.ref a :: st)) := by
  subst hp
  obtain ⟨T1, X1, e1, st1⟩ := getF X C.exec C.warm C.own w via eT F (g := mkF m pc Ls (.ref a :: st)) rfl rfl (C.at hd)
  exact Go.step st1 (K T1 X1 e1)
theorem g_putF (C : Cx p l s m meth c Z x0 code maxL ret) (X : Stand p l e R s m args below meth c T locs cells slots) {R0 O n d host cls : String} {index kk : Nat} {ty : FieldType} (w : (Cond.fieldLink x0.cls index R0 n d).before a0 Z = true ∨ (Cond.fieldLinkNest x0.cls index R0 n d host).before a0 Z = true) (via : Via Z R0 O n d) (eT : T.heap = h) {a : Addr} {v old : Value} (F : Fld Z h a O n d old) (E : Exa Z h a cls)
    (L : (Cond.lays cls O n d).before a0 Z = true ∨ ((Cond.laysFinal cls O n d).before a0 Z = true ∧ x0.cls = O ∧ x0.name = "<init>")) (wi : (Cond.instantiable cls kk).before a0 Z = true) (hty : parseFieldDescriptor d = some ty) (hn : narrow ty v = v) (hf : fits ty v = true)
    {pc pc' : Nat} {Ls : Array Slot} {st : List Value} (hd : decode code pc = .ok (.putfield index, 3)) (hp : pc + 3 = pc')
    (K : ∀ T' h', Stand p l e R s m args below meth c T' (locs ++ [⟨a, RoadKit.slotOf Z O n d⟩]) cells slots → T'.heap = h' → Wr h h' a (RoadKit.slotOf Z O n d) v → Go p.tables e below G T' (mkF m pc' Ls st)) : Go p.tables e below G T (mkF m pc Ls (v :: .ref a :: st)) := by
  subst hp
  obtain ⟨T1, h1, X1, e1, W1, st1⟩ := putF X C.exec C.warm C.own w via eT F E (L.imp id fun q => ⟨q.1, q.2.1, C.nm.trans q.2.2⟩) wi hty hn hf (g := mkF m pc Ls (v :: .ref a :: st)) rfl rfl (C.at hd)
  exact Go.step st1 (K T1 h1 X1 e1 W1)
/-- an array whose values are a list: read, length, store -/
theorem Arv.cell {a : Addr} {k : ClassId} {ty : FieldType} {z : Int32} {vs : List Value} {d : Value} (A : Arv Z h a k ty z vs d) : ∃ cl : Cell, Arr Z h a cl ty ∧ cl.slots.size = z.toNatClampNeg ∧ ¬ z < 0 ∧ Has cl vs d := by
  obtain ⟨cl, A1, -, S, N, H, -⟩ := A
  exact ⟨cl, A1, S, N, H⟩
theorem g_len (C : Cx p l s m meth c Z x0 code maxL ret) (X : Stand p l e R s m args below meth c T locs cells slots) {a : Addr} {k : ClassId} {ty : FieldType} {z : Int32} {vs : List Value} {d : Value} (eT : T.heap = h) (A : Arv Z h a k ty z vs d) {pc pc' : Nat} {Ls : Array Slot} {st : List Value} (hd : decode code pc = .ok (.arraylength, 1)) (hp : pc + 1 = pc')
    (K : Go p.tables e below G T (mkF m pc' Ls (.int z :: st))) : Go p.tables e below G T (mkF m pc Ls (.ref a :: st)) := by
  subst hp
  obtain ⟨cl, A1, S, N, H⟩ := Arv.cell A
  refine Go.step (fun t q => X.arraylength C.exec (cell := cl) (by rw [eT]; exact A1.1) (State.isArrayOf_alike C.warm.alike A1.2.1) (g := mkF m pc Ls (.ref a :: st)) rfl rfl (C.at hd) t ?_) K
  rw [len_of S N]; exact q
theorem inb {cl : Cell} {z j : Int32} (S : cl.slots.size = z.toNatClampNeg) (h0 : 0 ≤ j.toInt) (h1 : j.toInt < z.toInt) : ¬ (j < 0 ∨ cl.slots.size ≤ j.toNatClampNeg) :=
  inb_of S ⟨fun q => by rw [Int32.lt_iff_toInt_lt] at q; exact absurd q (Int.not_lt.mpr h0), Int32.lt_iff_toInt_lt.mpr h1⟩
theorem g_iaload (C : Cx p l s m meth c Z x0 code maxL ret) (X : Stand p l e R s m args below meth c T locs cells slots) {a : Addr} {k : ClassId} {z j : Int32} {vs : List Value} {d : Value} {v : Int32} (eT : T.heap = h) (A : Arv Z h a k .int z vs d) (h0 : 0 ≤ j.toInt) (h1 : j.toInt < z.toInt) (i : Nat) (hj : j.toNatClampNeg = i) (hv : vs.getD i d = .int v) {pc pc' : Nat} {Ls : Array Slot} {st : List Value} (hd : decode code pc = .ok (.iaload, 1)) (hp : pc + 1 = pc')
    (K : Go p.tables e below G T (mkF m pc' Ls (.int v :: st))) : Go p.tables e below G T (mkF m pc Ls (.int j :: .ref a :: st)) := by
  subst hp
  obtain ⟨cl, A1, S, N, H⟩ := Arv.cell A
  exact Go.step (fun t q => X.iaload C.exec (j := j) (v := .int v) (by rw [eT]; exact A1.1) (State.isArrayOf_alike C.warm.alike A1.2.1) A1.2.2 (inb S h0 h1) (H.at (inb S h0 h1) (by rw [hj]; exact hv)) (g := mkF m pc Ls (.int j :: .ref a :: st)) rfl rfl (C.at hd) t q) K
theorem g_daload (C : Cx p l s m meth c Z x0 code maxL ret) (X : Stand p l e R s m args below meth c T locs cells slots) {a : Addr} {k : ClassId} {z j : Int32} {vs : List Value} {d : Value} {v : UInt64} (eT : T.heap = h) (A : Arv Z h a k .double z vs d) (h0 : 0 ≤ j.toInt) (h1 : j.toInt < z.toInt) (i : Nat) (hj : j.toNatClampNeg = i) (hv : vs.getD i d = .double v) {pc pc' : Nat} {Ls : Array Slot} {st : List Value} (hd : decode code pc = .ok (.daload, 1)) (hp : pc + 1 = pc')
    (K : Go p.tables e below G T (mkF m pc' Ls (.double v :: st))) : Go p.tables e below G T (mkF m pc Ls (.int j :: .ref a :: st)) := by
  subst hp
  obtain ⟨cl, A1, S, N, H⟩ := Arv.cell A
  exact Go.step (fun t q => X.daload C.exec (j := j) (v := .double v) (by rw [eT]; exact A1.1) (State.isArrayOf_alike C.warm.alike A1.2.1) A1.2.2 (inb S h0 h1) (H.at (inb S h0 h1) (by rw [hj]; exact hv)) (g := mkF m pc Ls (.int j :: .ref a :: st)) rfl rfl (C.at hd) t q) K
theorem g_aaload (C : Cx p l s m meth c Z x0 code maxL ret) (X : Stand p l e R s m args below meth c T locs cells slots) {a : Addr} {k : ClassId} {z j : Int32} {ty : FieldType} {vs : List Value} {d v : Value} (eT : T.heap = h) (A : Arv Z h a k ty z vs d) (hty : ty.isReference = true) (hr : v.isRef = true) (h0 : 0 ≤ j.toInt) (h1 : j.toInt < z.toInt) (i : Nat) (hj : j.toNatClampNeg = i) (hv : vs.getD i d = v) {pc pc' : Nat} {Ls : Array Slot} {st : List Value} (hd : decode code pc = .ok (.aaload, 1)) (hp : pc + 1 = pc')
    (K : Go p.tables e below G T (mkF m pc' Ls (v :: st))) : Go p.tables e below G T (mkF m pc Ls (.int j :: .ref a :: st)) := by
  subst hp
  obtain ⟨cl, A1, S, N, H⟩ := Arv.cell A
  exact Go.step (fun t q => X.aaload C.exec (j := j) (v := v) (by rw [eT]; exact A1.1) (State.isArrayOf_alike C.warm.alike A1.2.1) hty A1.2.2 (inb S h0 h1) (H.at (inb S h0 h1) (by rw [hj]; exact hv)) (g := mkF m pc Ls (.int j :: .ref a :: st)) rfl rfl (C.at hd) t q) K
theorem Arv.put {h' : Heap} {a : Addr} {k : ClassId} {ty : FieldType} {z j : Int32} {vs : List Value} {d v : Value} (A : Arv Z h a k ty z vs d) (W : Wr h h' a j.toNatClampNeg v) (hv : fits ty v = true) (i : Nat) (hj : j.toNatClampNeg = i) (n : Nat) (hi : i < vs.length + n) : Arv Z h' a k ty z ((vs ++ List.replicate n d).set i v) d := by
  obtain ⟨cl, A1, q1, S, N, H, Gf⟩ := Arv.pad A (pad_rep vs d n)
  exact Arv.set A1 q1 S N H Gf hv W i hj (by rw [List.length_append, List.length_replicate]; exact hi)
theorem g_iastore (C : Cx p l s m meth c Z x0 code maxL ret) (X : Stand p l e R s m args below meth c T locs cells slots) {a : Addr} {k : ClassId} {z j x : Int32} {vs : List Value} {d : Value} (eT : T.heap = h) (A : Arv Z h a k .int z vs d) (h0 : 0 ≤ j.toInt) (h1 : j.toInt < z.toInt) (i n : Nat) (hj : j.toNatClampNeg = i) (hi : i < vs.length + n) {pc pc' : Nat} {Ls : Array Slot} {st : List Value} (hd : decode code pc = .ok (.iastore, 1)) (hp : pc + 1 = pc')
    (K : ∀ T' h', Stand p l e R s m args below meth c T' (locs ++ [⟨a, j.toNatClampNeg⟩]) cells slots → T'.heap = h' → Wr h h' a j.toNatClampNeg (.int x) → Arv Z h' a k .int z ((vs ++ List.replicate n d).set i (.int x)) d → Go p.tables e below G T' (mkF m pc' Ls st)) : Go p.tables e below G T (mkF m pc Ls (.int x :: .int j :: .ref a :: st)) := by
  subst hp
  obtain ⟨cl, A1, S, N, H⟩ := Arv.cell A
  obtain ⟨T1, h2, X1, e1, W1, st1⟩ := stI X C.exec C.warm eT A1 (inb S h0 h1) (g := mkF m pc Ls (.int x :: .int j :: .ref a :: st)) rfl rfl (C.at hd)
  exact Go.step st1 (K T1 h2 X1 e1 W1 (Arv.put A W1 rfl i hj n hi))
theorem g_dastore (C : Cx p l s m meth c Z x0 code maxL ret) (X : Stand p l e R s m args below meth c T locs cells slots) {a : Addr} {k : ClassId} {z j : Int32} {x : UInt64} {vs : List Value} {d : Value} (eT : T.heap = h) (A : Arv Z h a k .double z vs d) (h0 : 0 ≤ j.toInt) (h1 : j.toInt < z.toInt) (i n : Nat) (hj : j.toNatClampNeg = i) (hi : i < vs.length + n) {pc pc' : Nat} {Ls : Array Slot} {st : List Value} (hd : decode code pc = .ok (.dastore, 1)) (hp : pc + 1 = pc')
    (K : ∀ T' h', Stand p l e R s m args below meth c T' (locs ++ [⟨a, j.toNatClampNeg⟩]) cells slots → T'.heap = h' → Wr h h' a j.toNatClampNeg (.double x) → Arv Z h' a k .double z ((vs ++ List.replicate n d).set i (.double x)) d → Go p.tables e below G T' (mkF m pc' Ls st)) : Go p.tables e below G T (mkF m pc Ls (.double x :: .int j :: .ref a :: st)) := by
  subst hp
  obtain ⟨cl, A1, S, N, H⟩ := Arv.cell A
  obtain ⟨T1, h2, X1, e1, W1, st1⟩ := stD X C.exec C.warm eT A1 (inb S h0 h1) (g := mkF m pc Ls (.double x :: .int j :: .ref a :: st)) rfl rfl (C.at hd)
  exact Go.step st1 (K T1 h2 X1 e1 W1 (Arv.put A W1 rfl i hj n hi))
theorem g_ldc2J (C : Cx p l s m meth c Z x0 code maxL ret) (X : Stand p l e R s m args below meth c T locs cells slots) {index : Nat} {v : Int64} (w : (Cond.constantLong x0.cls index v).before a0 Z = true) {pc pc' : Nat} {Ls : Array Slot} {st : List Value} (hd : decode code pc = .ok (.ldc2_w index, 3)) (hp : pc + 3 = pc')
    (K : Go p.tables e below G T (mkF m pc' Ls (.long v :: st))) : Go p.tables e below G T (mkF m pc Ls st) := by
  subst hp
  exact Go.step (fun t q => X.ldc2Long C.exec C.own (mvT C.warm w) (g := mkF m pc Ls st) rfl (C.at hd) t q) K
theorem g_ldcI (C : Cx p l s m meth c Z x0 code maxL ret) (X : Stand p l e R s m args below meth c T locs cells slots) {index : Nat} {v : Int32} (w : (Cond.constant x0.cls index v).before a0 Z = true) {pc pc' : Nat} {Ls : Array Slot} {st : List Value} (hd : decode code pc = .ok (.ldc index, 2)) (hp : pc + 2 = pc')
    (K : Go p.tables e below G T (mkF m pc' Ls (.int v :: st))) : Go p.tables e below G T (mkF m pc Ls st) := by
  subst hp
  exact Go.step (fun t q => X.ldcInt C.exec C.own (mvT C.warm w) (g := mkF m pc Ls st) rfl (C.at hd) t q) K
theorem FldE.wr {h' : Heap} {a b : Addr} {C n d : String} {sl : Nat} {v : Value} (W : Wr h h' b sl v) (F : ∃ w, Fld Z h a C n d w) : ∃ w, Fld Z h' a C n d w := by
  obtain ⟨w, F⟩ := F
  by_cases q : a ≠ b ∨ RoadKit.slotOf Z C n d ≠ sl
  · exact ⟨w, F.other W q⟩
  · have q1 : a = b := Decidable.not_not.mp fun z => q (Or.inl z)
    have q2 : RoadKit.slotOf Z C n d = sl := Decidable.not_not.mp fun z => q (Or.inr z)
    subst q1 q2
    exact ⟨v, F.same W⟩
theorem g_ldc2D (C : Cx p l s m meth c Z x0 code maxL ret) (X : Stand p l e R s m args below meth c T locs cells slots) {index : Nat} {b : UInt64} (w : (Cond.constantDouble x0.cls index b).before a0 Z = true) {pc pc' : Nat} {Ls : Array Slot} {st : List Value} (hd : decode code pc = .ok (.ldc2_w index, 3)) (hp : pc + 3 = pc')
    (K : Go p.tables e below G T (mkF m pc' Ls (.double b :: st))) : Go p.tables e below G T (mkF m pc Ls st) := by
  subst hp
  exact Go.step (fun t q => X.ldc2DoubleC C.exec C.own (mvT C.warm w) (g := mkF m pc Ls st) rfl (C.at hd) t q) K
end Walk
/-! doubles that are whole numbers -/
section Dbl
open Jvm.FP.Core Jvm.Free.Fl
theorem nn_of_int {i : Int} {a : UInt64} (q : DInt i a) : NoNaN64 a := val64_no.mpr (DInt_ne_nan q)
def cmpI (i j : Int) : Int32 := if j < i then 1 else if i = j then 0 else -1
theorem cmpI_lt (i j : Int) : (cmpI i j).toInt < 0 ↔ i < j := by
  unfold cmpI
  split
  · exact ⟨fun q => absurd q (by decide), fun q => by omega⟩
  · split
    · exact ⟨fun q => absurd q (by decide), fun q => by omega⟩
    · exact ⟨fun _ => by omega, fun _ => by decide⟩
theorem cmpI_gt (i j : Int) : 0 < (cmpI i j).toInt ↔ j < i := by
  unfold cmpI
  split
  · exact ⟨fun _ => by assumption, fun _ => by decide⟩
  · split
    · exact ⟨fun q => absurd q (by decide), fun q => by omega⟩
    · exact ⟨fun q => absurd q (by decide), fun q => by omega⟩
theorem cmpI_eq (i j : Int) : (cmpI i j).toInt = 0 ↔ i = j := by
  unfold cmpI
  split
  · exact ⟨fun q => absurd q (by decide), fun q => by omega⟩
  · split
    · exact ⟨fun _ => by assumption, fun _ => by decide⟩
    · exact ⟨fun q => absurd q (by decide), fun q => by omega⟩
theorem cmpI_self (i : Int) : cmpI i i = 0 := by
  unfold cmpI
  rw [if_neg (Int.lt_irrefl i), if_pos rfl]
theorem cmpL_lt (x y : Int64) : (XT.cmpL x y).toInt < 0 ↔ x.toInt < y.toInt := by
  unfold XT.cmpL
  rw [← Int64.lt_iff_toInt_lt]
  split
  · rename_i q; exact ⟨fun q => absurd q (by decide), fun q' => absurd q' (Int64.lt_asymm q)⟩
  · split
    · rename_i q; subst q; exact ⟨fun q => absurd q (by decide), fun q' => absurd q' Int64.lt_irrefl⟩
    · rename_i q1 q2; exact ⟨fun _ => by have q3 : ¬ x.toInt = y.toInt := fun q => q2 (Int64.toInt_inj.mp q); rw [Int64.lt_iff_toInt_lt] at q1 ⊢; omega, fun _ => by decide⟩
theorem cmpL_gt (x y : Int64) : 0 < (XT.cmpL x y).toInt ↔ y.toInt < x.toInt := by
  unfold XT.cmpL
  rw [← Int64.lt_iff_toInt_lt]
  split
  · rename_i q; exact ⟨fun _ => q, fun _ => by decide⟩
  · split
    · rename_i q0 q; exact ⟨fun q => absurd q (by decide), fun q' => absurd q' q0⟩
    · rename_i q0 q; exact ⟨fun q => absurd q (by decide), fun q' => absurd q' q0⟩
theorem cmpL_eq (x y : Int64) : (XT.cmpL x y).toInt = 0 ↔ x.toInt = y.toInt := by
  unfold XT.cmpL
  rw [Int64.toInt_inj]
  split
  · rename_i q; exact ⟨fun q => absurd q (by decide), fun q' => absurd q (by rw [q']; exact Int64.lt_irrefl)⟩
  · split
    · rename_i q; exact ⟨fun _ => q, fun _ => by decide⟩
    · rename_i q0 q; exact ⟨fun q => absurd q (by decide), fun q' => absurd q' q⟩
theorem cmpV_of {r : Option Ordering} {i j : Int} (q : r = some (compare i j)) (o : CmpOp) : cmpValue r o = cmpI i j := by
  subst q
  unfold cmpI
  split
  · rename_i q; rw [(compare_gt_iff i j).mpr q]; rfl
  · split
    · rename_i q; rw [(compare_eq_iff i j).mpr q]; rfl
    · rename_i q1 q2; rw [(compare_lt_iff i j).mpr (by omega)]; rfl
theorem dcmp_cmpI {i j : Int} {a b : UInt64} (ha : DInt i a) (hb : DInt j b) (o : CmpOp) : cmpValue (FP.dcmp a b) o = cmpI i j := cmpV_of (dcmp_int ha hb) o
theorem dint_zero : DInt 0 FP.dconst0 := by
  unfold DInt
  rw [show val64 FP.dconst0 = _ from val64_dconst0]
  show signed false (0 * _) = 0 * _
  rw [Nat.zero_mul, Int.zero_mul]; rfl
end Dbl
end Jvm.OwnKit
namespace Jvm.OwnKit
section Dbl
open Jvm.FP.Core Jvm.Free.Fl
theorem i2d_D (x : Int32) : DInt x.toInt (FP.i2d x) := i2d_int x
theorem l2d_D {x : Int64} (h : x.toInt.natAbs ≤ 2 ^ 53) : DInt x.toInt (FP.l2d x) := l2d_int h
theorem dadd_D {i j : Int} {a b : UInt64} (ha : DInt i a) (hb : DInt j b) (h : (i + j).natAbs ≤ 2 ^ 53) : DInt (i + j) (FP.dadd a b) := dadd_int ha hb h
theorem dsub_D {i j : Int} {a b : UInt64} (ha : DInt i a) (hb : DInt j b) (h : (i - j).natAbs ≤ 2 ^ 53) : DInt (i - j) (FP.dsub a b) := dsub_int ha hb h
theorem dmul_D {i j : Int} {a b : UInt64} (ha : DInt i a) (hb : DInt j b) (h : (i * j).natAbs ≤ 2 ^ 53) : DInt (i * j) (FP.dmul a b) := dmul_int ha hb h
theorem dint_one' : DInt 1 FP.dconst1 := dint_one
theorem dneg_int' {i : Int} {a : UInt64} (ha : DInt i a) : DInt (-i) (FP.dneg a) := by
  unfold DInt
  rw [FP.val64_dneg]
  exact whole_negate ha
theorem own_pow_cancel {c k d q1 q2 r1 r2 : Nat} {q r : Int} (hq : (q1 : Int) - q2 = q) (hr : (r1 : Int) - r2 = r) (h : c * 2 ^ (q1 + r2) = k * d * 2 ^ (q2 + r1)) : c * 2 ^ (q - r).toNat = k * d * 2 ^ (r - q).toNat := by
  obtain ⟨n, hn⟩ : ∃ n : Nat, n = min (q1 + r2) (q2 + r1) := ⟨_, rfl⟩
  have e1 : q1 + r2 = (q - r).toNat + n := by omega
  have e2 : q2 + r1 = (r - q).toNat + n := by omega
  rw [e1, e2, Nat.pow_add, Nat.pow_add, ← Nat.mul_assoc, ← Nat.mul_assoc] at h
  exact Nat.eq_of_mul_eq_mul_right (Nat.two_pow_pos n) h
theorem ddiv_int {i j k : Int} {a b : UInt64} (ha : DInt i a) (hb : DInt j b) (hj : j ≠ 0) (hk : i = k * j) (h : k.natAbs ≤ 2 ^ 53) : DInt k (FP.ddiv a b) := by
  unfold DInt at *
  show Whole k (val64 (ddiv a b))
  rw [val64_ddiv]
  cases hva : val64 a with
  | nan => rw [hva] at ha; exact ha.elim
  | inf => rw [hva] at ha; exact ha.elim
  | fin s c q =>
    cases hvb : val64 b with
    | nan => rw [hvb] at hb; exact hb.elim
    | inf => rw [hvb] at hb; exact hb.elim
    | fin t d r =>
      rw [hva] at ha
      rw [hvb] at hb
      have hd : d ≠ 0 := fun q => hj ((whole_zero hb).mp q)
      have h1 := whole_natAbs ha
      have h2 := whole_natAbs hb
      have e1 : quotient b64 (.fin s c q) (.fin t d r) = round b64 (.fin (s != t) k.natAbs 0) := by
        show (if d = 0 then _ else roundRatio b64 (s != t) c d (q - r)) = roundRatio b64 (s != t) k.natAbs 1 0
        rw [if_neg hd]
        refine roundRatio_congr (by omega) (by decide) ?_
        have e2 : c * 2 ^ (q.toNat + (-r).toNat) = k.natAbs * d * 2 ^ ((-q).toNat + r.toNat) := by
          rw [Nat.pow_add, Nat.pow_add, ← Nat.mul_assoc, h1, hk, Int.natAbs_mul]
          calc k.natAbs * j.natAbs * 2 ^ (-q).toNat * 2 ^ (-r).toNat = k.natAbs * 2 ^ (-q).toNat * (j.natAbs * 2 ^ (-r).toNat) := by ac_rfl
            _ = k.natAbs * 2 ^ (-q).toNat * (d * 2 ^ r.toNat) := by rw [h2]
            _ = k.natAbs * d * (2 ^ (-q).toNat * 2 ^ r.toNat) := by ac_rfl
        have e3 := own_pow_cancel (q := q) (r := r) (by omega) (by omega) e2
        rw [Nat.mul_one, show (q - r - 0).toNat = (q - r).toNat by omega, show (0 - (q - r)).toNat = (r - q).toNat by omega]
        exact e3
      rw [e1]
      refine whole_round good_b64 wide_b64 h ?_
      show signed (s != t) (k.natAbs * 2 ^ 0) = k * ((2 ^ 0 : Nat) : Int)
      rw [Nat.pow_zero, Nat.mul_one]
      by_cases hk0 : k = 0
      · subst hk0; exact signed_zero _
      · have hi : i ≠ 0 := by rw [hk]; exact Int.mul_ne_zero hk0 hj
        rw [whole_sign ha hi, whole_sign hb hj]
        unfold signed
        rcases Int.lt_or_gt_of_ne hj with q1 | q1 <;> rcases Int.lt_or_gt_of_ne hk0 with q2 | q2
        · have q3 := Int.mul_pos_of_neg_of_neg q2 q1
          rw [← hk] at q3
          simp [q1, show ¬ i < 0 by omega]; omega
        · have q3 := Int.mul_neg_of_pos_of_neg q2 q1
          rw [← hk] at q3
          simp [q1, q3]; omega
        · have q3 := Int.mul_neg_of_neg_of_pos q2 q1
          rw [← hk] at q3
          simp [show ¬ j < 0 by omega, q3]; omega
        · have q3 := Int.mul_pos q2 q1
          rw [← hk] at q3
          simp [show ¬ j < 0 by omega, show ¬ i < 0 by omega]; omega
end Dbl
end Jvm.OwnKit
namespace Jvm.OwnKit
section Dq
open Jvm.FP.Core Jvm.Free.Fl Op ClassFile
/-- the double a is i / 2^k -/
def DQ (k : Nat) (i : Int) (a : UInt64) : Prop := ∃ s c q, val64 a = .fin s c q ∧ Whole i (.fin s c (q + k))
theorem whole_up {s : Bool} {c : Nat} {q i : Int} (k : Nat) (h : Whole i (.fin s c q)) : Whole (i * ((2 ^ k : Nat) : Int)) (.fin s c (q + k)) := by
  show signed s (c * 2 ^ (q + k).toNat) = i * ((2 ^ k : Nat) : Int) * ((2 ^ (-(q + k)).toNat : Nat) : Int)
  have h : signed s (c * 2 ^ q.toNat) = i * ((2 ^ (-q).toNat : Nat) : Int) := h
  have p : ((2 ^ q.toNat : Nat) : Int) ≠ 0 := by have := Nat.two_pow_pos q.toNat; omega
  rw [signed_mul] at h ⊢
  refine Int.eq_of_mul_eq_mul_right p ?_
  calc signed s c * ((2 ^ (q + k).toNat : Nat) : Int) * ((2 ^ q.toNat : Nat) : Int) = signed s c * ((2 ^ q.toNat : Nat) : Int) * ((2 ^ (q + k).toNat : Nat) : Int) := by ac_rfl
    _ = i * (((2 ^ (-q).toNat : Nat) : Int) * ((2 ^ (q + k).toNat : Nat) : Int)) := by rw [h]; ac_rfl
    _ = i * (((2 ^ k : Nat) : Int) * ((2 ^ (-(q + k)).toNat : Nat) : Int) * ((2 ^ q.toNat : Nat) : Int)) := by
      congr 1
      rw [← Int.natCast_mul, ← Int.natCast_mul, ← Int.natCast_mul, ← Nat.pow_add, ← Nat.pow_add, ← Nat.pow_add]
      congr 2; omega
    _ = i * ((2 ^ k : Nat) : Int) * ((2 ^ (-(q + k)).toNat : Nat) : Int) * ((2 ^ q.toNat : Nat) : Int) := by ac_rfl
theorem whole_inj {s : Bool} {c : Nat} {q i j : Int} (h : Whole i (.fin s c q)) (h' : Whole j (.fin s c q)) : i = j := by
  have h : signed s (c * 2 ^ q.toNat) = i * ((2 ^ (-q).toNat : Nat) : Int) := h
  have h' : signed s (c * 2 ^ q.toNat) = j * ((2 ^ (-q).toNat : Nat) : Int) := h'
  have p : ((2 ^ (-q).toNat : Nat) : Int) ≠ 0 := by have := Nat.two_pow_pos (-q).toNat; omega
  exact Int.eq_of_mul_eq_mul_right p (h.symm.trans h')
theorem whole_down {s : Bool} {c : Nat} {q i : Int} (k : Nat) (h : Whole (i * ((2 ^ k : Nat) : Int)) (.fin s c (q + k))) : Whole i (.fin s c q) := by
  show signed s (c * 2 ^ q.toNat) = i * ((2 ^ (-q).toNat : Nat) : Int)
  have h : signed s (c * 2 ^ (q + k).toNat) = i * ((2 ^ k : Nat) : Int) * ((2 ^ (-(q + k)).toNat : Nat) : Int) := h
  have p : ((2 ^ (q + k).toNat : Nat) : Int) ≠ 0 := by have := Nat.two_pow_pos (q + k).toNat; omega
  rw [signed_mul] at h ⊢
  refine Int.eq_of_mul_eq_mul_right p ?_
  calc signed s c * ((2 ^ q.toNat : Nat) : Int) * ((2 ^ (q + k).toNat : Nat) : Int) = signed s c * ((2 ^ (q + k).toNat : Nat) : Int) * ((2 ^ q.toNat : Nat) : Int) := by ac_rfl
    _ = i * (((2 ^ k : Nat) : Int) * ((2 ^ (-(q + k)).toNat : Nat) : Int) * ((2 ^ q.toNat : Nat) : Int)) := by rw [h]; ac_rfl
    _ = i * (((2 ^ (-q).toNat : Nat) : Int) * ((2 ^ (q + k).toNat : Nat) : Int)) := by
      congr 1
      rw [← Int.natCast_mul, ← Int.natCast_mul, ← Int.natCast_mul, ← Nat.pow_add, ← Nat.pow_add, ← Nat.pow_add]
      congr 2; omega
    _ = i * ((2 ^ (-q).toNat : Nat) : Int) * ((2 ^ (q + k).toNat : Nat) : Int) := by ac_rfl
theorem DQ.of_int {i : Int} {a : UInt64} (k : Nat) (h : DInt i a) : DQ k (i * ((2 ^ k : Nat) : Int)) a := by
  unfold DInt at h
  cases hv : val64 a with
  | nan => rw [hv] at h; exact h.elim
  | inf => rw [hv] at h; exact h.elim
  | fin s c q => rw [hv] at h; exact ⟨s, c, q, hv, whole_up k h⟩
theorem DQ.int {i : Int} {a : UInt64} {k : Nat} (h : DQ k (i * ((2 ^ k : Nat) : Int)) a) : DInt i a := by
  obtain ⟨s, c, q, hv, hw⟩ := h
  unfold DInt
  rw [hv]
  exact whole_down k hw
theorem DQ.ne_nan {k : Nat} {i : Int} {a : UInt64} (h : DQ k i a) : val64 a ≠ .nan := by
  obtain ⟨s, c, q, hv, -⟩ := h
  rw [hv]; exact Datum.noConfusion
theorem nn_of_q {k : Nat} {i : Int} {a : UInt64} (h : DQ k i a) : NoNaN64 a := val64_no.mpr h.ne_nan
/-- a number of up to 53 digits over 2^k is a double -/
theorem q_round {k : Nat} (hk : k ≤ 1022) {s : Bool} {c : Nat} {q i : Int} (h : Whole i (.fin s c (q + k))) (hi : i.natAbs ≤ 2 ^ 53) : ∃ c' q', round b64 (.fin s c q) = .fin s c' q' ∧ Whole i (.fin s c' (q' + k)) := by
  by_cases h0 : i = 0
  · have hc : c = 0 := (whole_zero h).mpr h0
    subst hc h0
    refine ⟨0, b64.qmin, rfl, ?_⟩
    show signed s (0 * _) = 0 * _
    rw [Nat.zero_mul, Int.zero_mul]; exact signed_zero s
  · obtain ⟨c', q', hfit, hv⟩ := natFit good_b64 wide_b64 s (n := i.natAbs) hi
    have hpos : 0 < i.natAbs := Int.natAbs_pos.mpr h0
    have hv' : i.natAbs * 2 ^ (-q').toNat = c' * 2 ^ q'.toNat := by
      rw [show (0 - q').toNat = (-q').toNat by omega, show (q' - 0).toNat = q'.toNat by omega, Nat.mul_one] at hv
      exact hv
    obtain ⟨f1, f2, f3, f4⟩ := hfit
    have f1 : c' < 2 ^ 53 := f1
    have hq : -53 < q' := by
      refine Int.lt_of_not_ge fun hle => ?_
      have e1 : q'.toNat = 0 := by omega
      rw [e1, Nat.pow_zero, Nat.mul_one] at hv'
      have e2 : 2 ^ 53 ≤ 2 ^ (-q').toNat := Nat.pow_le_pow_right (by decide) (by omega)
      have e3 : 2 ^ (-q').toNat ≤ i.natAbs * 2 ^ (-q').toNat := Nat.le_mul_of_pos_left _ hpos
      omega
    have hqm : b64.qmin = -1074 := qmin_b64
    have f5 : b64.tails ≤ c' := by
      rcases f4 with f4 | f4
      · omega
      · exact f4
    have hfit' : FP.Core.fits b64 (.fin s c' (q' - k)) := ⟨f1, by omega, by omega, Or.inr f5⟩
    refine ⟨c', q' - k, ?_, ?_⟩
    · have hn := whole_natAbs h
      refine roundRatio_exact good_b64 (by decide) hfit' ?_
      rw [Nat.mul_one]
      -- c 2^(q+k)+ = |i| 2^(q+k)- and |i| 2^(-q')+ = c' 2^q'+
      have e1 : c * 2 ^ ((q + k).toNat + (-q').toNat) = c' * 1 * 2 ^ ((-(q + k)).toNat + q'.toNat) := by
        rw [Nat.pow_add, Nat.pow_add, ← Nat.mul_assoc, hn, Nat.mul_one]
        calc i.natAbs * 2 ^ (-(q + k)).toNat * 2 ^ (-q').toNat = i.natAbs * 2 ^ (-q').toNat * 2 ^ (-(q + k)).toNat := by ac_rfl
          _ = c' * (2 ^ (-(q + k)).toNat * 2 ^ q'.toNat) := by rw [hv']; ac_rfl
      have e2 := own_pow_cancel (q := q + k) (r := q') (by omega) (by omega) e1
      rw [Nat.mul_one] at e2
      rw [show (q - (q' - (k : Int))).toNat = (q + k - q').toNat by omega, show (q' - (k : Int) - q).toNat = (q' - (q + k)).toNat by omega]
      exact e2
    · rw [show q' - (k : Int) + k = q' by omega]
      show signed s (c' * 2 ^ q'.toNat) = i * ((2 ^ (-q').toNat : Nat) : Int)
      rw [← hv', signed_mul]
      congr 1
      rw [whole_sign h h0]
      unfold signed
      by_cases h : i < 0 <;> simp [h] <;> omega
theorem dadd_q {k : Nat} (hk : k ≤ 1022) {i j : Int} {a b : UInt64} (ha : DQ k i a) (hb : DQ k j b) (h : (i + j).natAbs ≤ 2 ^ 53) : DQ k (i + j) (FP.dadd a b) := by
  obtain ⟨s, c, q, hva, wa⟩ := ha
  obtain ⟨t, d, r, hvb, wb⟩ := hb
  have w := whole_sum wa wb
  have e : exactSum (.fin s c (q + k)) (.fin t d (r + k)) = .fin (sumSign s t (sumUnits s c q t d r (min q r))) (sumUnits s c q t d r (min q r)).natAbs (min q r + k) := by
    have e1 : min (q + k) (r + (k : Int)) = min q r + k := by omega
    have e2 : sumUnits s c (q + k) t d (r + k) (min q r + k) = sumUnits s c q t d r (min q r) := by
      unfold sumUnits inUnits
      rw [show (q + (k : Int) - (min q r + k)).toNat = (q - min q r).toNat by omega, show (r + (k : Int) - (min q r + k)).toNat = (r - min q r).toNat by omega]
    show Datum.fin _ _ _ = _
    rw [e1, e2]
  rw [e] at w
  obtain ⟨c', q', hr, hw⟩ := q_round hk w h
  refine ⟨_, c', q', ?_, hw⟩
  show val64 (dadd a b) = _
  rw [val64_dadd, hva, hvb]
  exact hr
theorem dneg_q {k : Nat} {i : Int} {a : UInt64} (ha : DQ k i a) : DQ k (-i) (FP.dneg a) := by
  obtain ⟨s, c, q, hva, wa⟩ := ha
  exact ⟨!s, c, q, by rw [FP.val64_dneg, hva]; rfl, whole_negate wa⟩
theorem dsub_q {k : Nat} (hk : k ≤ 1022) {i j : Int} {a b : UInt64} (ha : DQ k i a) (hb : DQ k j b) (h : (i - j).natAbs ≤ 2 ^ 53) : DQ k (i - j) (FP.dsub a b) := by
  obtain ⟨t, d, r, hvb, wb⟩ := hb
  have hb' : DQ k (-j) (FP.Core.dneg b) := ⟨!t, d, r, by rw [FP.Core.val64_dneg, hvb]; rfl, whole_negate wb⟩
  rw [show FP.dsub a b = FP.dadd a (FP.Core.dneg b) from dsub_eq a b]
  exact dadd_q hk ha hb' h
theorem dmul_q {k : Nat} (hk : k ≤ 1022) {i j n : Int} {a b : UInt64} (ha : DQ k i a) (hb : DQ k j b) (hn : i * j = n * ((2 ^ k : Nat) : Int)) (h : n.natAbs ≤ 2 ^ 53) : DQ k n (FP.dmul a b) := by
  obtain ⟨s, c, q, hva, wa⟩ := ha
  obtain ⟨t, d, r, hvb, wb⟩ := hb
  have w := whole_product wa wb
  rw [hn] at w
  have w' : Whole n (.fin (s != t) (c * d) (q + r + k)) := by
    refine whole_down k ?_
    rw [show q + r + (k : Int) + k = q + k + (r + k) by omega]
    exact w
  obtain ⟨c', q', hr, hw⟩ := q_round hk w' h
  refine ⟨_, c', q', ?_, hw⟩
  show val64 (dmul a b) = _
  rw [val64_dmul, hva, hvb]
  exact hr
theorem ddiv_q {k : Nat} (hk : k ≤ 1022) {i j n : Int} {a b : UInt64} (ha : DQ k i a) (hb : DQ k j b) (hj : j ≠ 0) (hn : i * ((2 ^ k : Nat) : Int) = n * j) (h : n.natAbs ≤ 2 ^ 53) : DQ k n (FP.ddiv a b) := by
  obtain ⟨s, c, q, hva, wa⟩ := ha
  obtain ⟨t, d, r, hvb, wb⟩ := hb
  have hd : d ≠ 0 := fun q => hj ((whole_zero wb).mp q)
  have h1 := whole_natAbs wa
  have h2 := whole_natAbs wb
  have h3 : i.natAbs * 2 ^ k = n.natAbs * j.natAbs := by
    have := congrArg Int.natAbs hn
    rw [Int.natAbs_mul, Int.natAbs_mul, Int.natAbs_natCast] at this
    exact this
  have w : Whole n (.fin (s != t) n.natAbs (-(k : Int) + k)) := by
    rw [show -(k : Int) + k = 0 by omega]
    show signed (s != t) (n.natAbs * 2 ^ 0) = n * ((2 ^ 0 : Nat) : Int)
    rw [Nat.pow_zero, Nat.mul_one]
    by_cases hn0 : n = 0
    · subst hn0; exact signed_zero _
    · have pk : (0 : Int) < ((2 ^ k : Nat) : Int) := by have := Nat.two_pow_pos k; omega
      have hi : i ≠ 0 := fun hi => by
        rw [hi, Int.zero_mul] at hn
        exact Int.mul_ne_zero hn0 hj hn.symm
      rw [whole_sign wa hi, whole_sign wb hj]
      have si : i < 0 ↔ n * j < 0 := by
        rw [← hn]
        constructor
        · intro q; exact Int.mul_neg_of_neg_of_pos q pk
        · intro q
          refine Int.lt_of_not_ge fun q2 => ?_
          have := Int.mul_nonneg q2 (Int.le_of_lt pk)
          omega
      unfold signed
      rcases Int.lt_or_gt_of_ne hj with q1 | q1 <;> rcases Int.lt_or_gt_of_ne hn0 with q2 | q2
      · have q3 := Int.mul_pos_of_neg_of_neg q2 q1
        simp [q1, show ¬ i < 0 by rw [si]; omega]; omega
      · have q3 := Int.mul_neg_of_pos_of_neg q2 q1
        simp [q1, si.mpr q3]; omega
      · have q3 := Int.mul_neg_of_neg_of_pos q2 q1
        simp [show ¬ j < 0 by omega, si.mpr q3]; omega
      · have q3 := Int.mul_pos q2 q1
        simp [show ¬ j < 0 by omega, show ¬ i < 0 by rw [si]; omega]; omega
  obtain ⟨c', q', hr, hw⟩ := q_round hk w h
  refine ⟨_, c', q', ?_, hw⟩
  show val64 (ddiv a b) = _
  rw [val64_ddiv, hva, hvb, ← hr]
  show (if d = 0 then _ else roundRatio b64 (s != t) c d (q - r)) = roundRatio b64 (s != t) n.natAbs 1 (-(k : Int))
  rw [if_neg hd]
  refine roundRatio_congr (by omega) (by decide) ?_
  rw [Nat.mul_one]
  have e2 : c * 2 ^ (((q + k).toNat + k) + (-(r + k)).toNat) = n.natAbs * d * 2 ^ ((-(q + k)).toNat + (r + k).toNat) := by
    calc c * 2 ^ (((q + k).toNat + k) + (-(r + k)).toNat) = c * 2 ^ (q + k).toNat * 2 ^ k * 2 ^ (-(r + k)).toNat := by rw [Nat.pow_add, Nat.pow_add]; ac_rfl
      _ = i.natAbs * 2 ^ k * 2 ^ (-(q + k)).toNat * 2 ^ (-(r + k)).toNat := by rw [h1]; ac_rfl
      _ = n.natAbs * 2 ^ (-(q + k)).toNat * (j.natAbs * 2 ^ (-(r + k)).toNat) := by rw [h3]; ac_rfl
      _ = n.natAbs * d * (2 ^ (-(q + k)).toNat * 2 ^ (r + k).toNat) := by rw [← h2]; ac_rfl
      _ = _ := by rw [Nat.pow_add]
  have e3 := own_pow_cancel (q := q + k + k) (r := r + k) (q1 := (q + k).toNat + k) (by omega) (by omega) e2
  rw [show (q - r - -(k : Int)).toNat = (q + k + k - (r + k)).toNat by omega, show (-(k : Int) - (q - r)).toNat = (r + k - (q + k + k)).toNat by omega]
  exact e3
theorem dcmp_q {k : Nat} {i j : Int} {a b : UInt64} (ha : DQ k i a) (hb : DQ k j b) : dcmp a b = some (compare i j) := by
  obtain ⟨s, c, q, hva, wa⟩ := ha
  obtain ⟨t, d, r, hvb, wb⟩ := hb
  have w := order_whole wa wb
  show order (val64 a) (val64 b) = _
  rw [hva, hvb, ← w]
  show some (compare _ _) = some (compare _ _)
  have e1 : min (q + k) (r + (k : Int)) = min q r + k := by omega
  rw [e1]
  unfold inUnits
  rw [show (q + (k : Int) - (min q r + k)).toNat = (q - min q r).toNat by omega, show (r + (k : Int) - (min q r + k)).toNat = (r - min q r).toNat by omega]
theorem dcmp_cmpQ {k : Nat} {i j : Int} {a b : UInt64} (ha : DQ k i a) (hb : DQ k j b) (o : CmpOp) : cmpValue (FP.dcmp a b) o = cmpI i j := cmpV_of (dcmp_q ha hb) o
end Dq
end Jvm.OwnKit
namespace Jvm.OwnKit
section Dz
open Jvm.FP.Core Jvm.Free.Fl Op ClassFile
/-- a double's value in units of 2^-1074 -/
def dz (a : UInt64) : Int := zval b64 (val64 a)
theorem dcmp_dz {a b : UInt64} (ha : NoNaN64 a) (hb : NoNaN64 b) (o : CmpOp) : cmpValue (FP.dcmp a b) o = cmpI (dz a) (dz b) := cmpV_of (dcmp_zval (val64_no.mp ha) (val64_no.mp hb)) o
theorem zmag_whole {k : Nat} (hk : k ≤ 1074) {s : Bool} {c : Nat} {q w : Int} (hq : -1074 ≤ q) (h : Whole w (.fin s c (q + k))) : zmag b64 (.fin s c q) = w.natAbs * 2 ^ (1074 - k) := by
  have h1 := whole_natAbs h
  show c * 2 ^ (q - b64.qmin).toNat = _
  rw [qmin_b64]
  have e1 : c * 2 ^ ((q + k).toNat + (1074 - k)) = w.natAbs * 2 ^ ((-(q + k)).toNat + (1074 - k)) := by
    rw [Nat.pow_add, Nat.pow_add, ← Nat.mul_assoc, ← Nat.mul_assoc, h1]
  by_cases hs : 0 ≤ q + k
  · rw [show (-(q + (k : Int))).toNat = 0 by omega, Nat.zero_add] at e1
    rw [show (q - -1074).toNat = (q + k).toNat + (1074 - k) by omega]; exact e1
  · have p := Nat.two_pow_pos (-(q + (k : Int))).toNat
    rw [show (q + (k : Int)).toNat = 0 by omega, Nat.zero_add, show 1074 - k = (q - -1074).toNat + (-(q + k)).toNat by omega, Nat.pow_add, ← Nat.mul_assoc] at e1
    have e2 := Nat.eq_of_mul_eq_mul_right p (e1.trans (by rw [Nat.pow_add, Nat.pow_add]; ac_rfl : _ = w.natAbs * (2 ^ (q - -1074).toNat * 2 ^ (-(q + (k : Int))).toNat) * 2 ^ (-(q + (k : Int))).toNat))
    rw [e2, ← Nat.pow_add]; congr 2; omega
theorem dz_q {k : Nat} (hk : k ≤ 1074) {w : Int} {V : UInt64} (h : DQ k w V) : dz V = w * ((2 ^ (1074 - k) : Nat) : Int) := by
  obtain ⟨s, c, q, hv, hw⟩ := h
  have hf := val64_fits V
  rw [hv] at hf
  have hq : -1074 ≤ q := by have := hf.2.1; rw [qmin_b64] at this; exact this
  unfold dz zval
  rw [hv, zmag_whole hk hq hw]
  show signed s _ = _
  rw [signed_mul]
  congr 1
  by_cases h0 : w = 0
  · rw [h0]; exact signed_zero s
  · rw [whole_sign hw h0]
    unfold signed
    by_cases h : w < 0 <;> simp [h] <;> omega
theorem dz_int {i : Int} {a : UInt64} (h : DInt i a) : dz a = i * (one64 : Int) := DInt_zval h
/-- a quotient of whole numbers, as a rounding -/
theorem ddiv_round {n d : Int} {a b : UInt64} (ha : DInt n a) (hb : DInt d b) (hd : d ≠ 0) : ∃ s, val64 (ddiv a b) = roundRatio b64 s n.natAbs d.natAbs 0 ∧ (n ≠ 0 → s = (decide (n < 0) != decide (d < 0))) := by
  unfold DInt at *
  rw [val64_ddiv]
  cases hva : val64 a with
  | nan => rw [hva] at ha; exact ha.elim
  | inf => rw [hva] at ha; exact ha.elim
  | fin s c q =>
    cases hvb : val64 b with
    | nan => rw [hvb] at hb; exact hb.elim
    | inf => rw [hvb] at hb; exact hb.elim
    | fin t e r =>
      rw [hva] at ha
      rw [hvb] at hb
      have he : e ≠ 0 := fun q => hd ((whole_zero hb).mp q)
      have h1 := whole_natAbs ha
      have h2 := whole_natAbs hb
      refine ⟨s != t, ?_, fun hn => by rw [whole_sign ha hn, whole_sign hb hd]⟩
      show (if e = 0 then _ else roundRatio b64 (s != t) c e (q - r)) = _
      rw [if_neg he]
      refine roundRatio_congr (by omega) (Int.natAbs_pos.mpr hd) ?_
      have e2 : c * d.natAbs * 2 ^ (q.toNat + (-r).toNat) = n.natAbs * e * 2 ^ ((-q).toNat + r.toNat) := by
        rw [Nat.pow_add, Nat.pow_add]
        calc c * d.natAbs * (2 ^ q.toNat * 2 ^ (-r).toNat) = c * 2 ^ q.toNat * (d.natAbs * 2 ^ (-r).toNat) := by ac_rfl
          _ = n.natAbs * 2 ^ (-q).toNat * (e * 2 ^ r.toNat) := by rw [h1, ← h2]
          _ = n.natAbs * e * (2 ^ (-q).toNat * 2 ^ r.toNat) := by ac_rfl
      have e3 := own_pow_cancel (q := q) (r := r) (by omega) (by omega) e2
      rw [show (q - r - 0).toNat = (q - r).toNat by omega, show (0 - (q - r)).toNat = (r - q).toNat by omega]
      exact e3
theorem ddiv_nn {n d : Int} {a b : UInt64} (ha : DInt n a) (hb : DInt d b) (hd : d ≠ 0) : NoNaN64 (FP.ddiv a b) := by
  obtain ⟨s, hs, -⟩ := ddiv_round ha hb hd
  exact val64_no.mpr (by show val64 (ddiv a b) ≠ _; rw [hs]; exact roundRatio_ne_nan _ _ _ _ _)
theorem ddiv_mag_le {n d w : Int} {k : Nat} (hk : k ≤ 1074) {V : UInt64} {s : Bool} (hd : d ≠ 0) (hV : DQ k w V) (h : n.natAbs * 2 ^ k ≤ w.natAbs * d.natAbs) : zmag b64 (roundRatio b64 s n.natAbs d.natAbs 0) ≤ w.natAbs * 2 ^ (1074 - k) := by
  obtain ⟨t, c, q, hv, hw⟩ := hV
  have hf := val64_fits V
  rw [hv] at hf
  have hq : -1074 ≤ q := by have := hf.2.1; rw [qmin_b64] at this; exact this
  rw [← zmag_whole hk hq hw]
  refine zmag_roundRatio_le good_b64 (e0 := -1074) (Int.natAbs_pos.mpr hd) hf (Datum.noConfusion) (by rw [qmin_b64]; exact Int.le_refl _) (by decide) ?_
  rw [zmag_whole hk hq hw, qmin_b64]
  show n.natAbs * 2 ^ (0 - -1074 : Int).toNat ≤ w.natAbs * 2 ^ (1074 - k) * 2 ^ 0 * d.natAbs
  calc n.natAbs * 2 ^ (0 - -1074 : Int).toNat = n.natAbs * 2 ^ k * 2 ^ (1074 - k) := by rw [Nat.mul_assoc, ← Nat.pow_add]; congr 2; omega
    _ ≤ w.natAbs * d.natAbs * 2 ^ (1074 - k) := Nat.mul_le_mul_right _ h
    _ = w.natAbs * 2 ^ (1074 - k) * 2 ^ 0 * d.natAbs := by rw [Nat.pow_zero, Nat.mul_one]; ac_rfl
theorem ddiv_mag_ge {n d w : Int} {k : Nat} (hk : k ≤ 1074) {V : UInt64} {s : Bool} (hd : d ≠ 0) (hV : DQ k w V) (h : w.natAbs * d.natAbs ≤ n.natAbs * 2 ^ k) : w.natAbs * 2 ^ (1074 - k) ≤ zmag b64 (roundRatio b64 s n.natAbs d.natAbs 0) := by
  obtain ⟨t, c, q, hv, hw⟩ := hV
  have hf := val64_fits V
  rw [hv] at hf
  have hq : -1074 ≤ q := by have := hf.2.1; rw [qmin_b64] at this; exact this
  rw [← zmag_whole hk hq hw]
  refine zmag_roundRatio_ge good_b64 (e0 := -1074) (Int.natAbs_pos.mpr hd) hf (by rw [qmin_b64]; exact Int.le_refl _) (by decide) ?_
  rw [zmag_whole hk hq hw, qmin_b64]
  show w.natAbs * 2 ^ (1074 - k) * 2 ^ 0 * d.natAbs ≤ n.natAbs * 2 ^ (0 - -1074 : Int).toNat
  calc w.natAbs * 2 ^ (1074 - k) * 2 ^ 0 * d.natAbs = w.natAbs * d.natAbs * 2 ^ (1074 - k) := by rw [Nat.pow_zero, Nat.mul_one]; ac_rfl
    _ ≤ n.natAbs * 2 ^ k * 2 ^ (1074 - k) := Nat.mul_le_mul_right _ h
    _ = n.natAbs * 2 ^ (0 - -1074 : Int).toNat := by rw [Nat.mul_assoc, ← Nat.pow_add]; congr 2; omega
/-- a quotient by a positive whole number lies at or below every double that the exact one lies at or below -/
theorem ddiv_le {n d w : Int} {k : Nat} (hk : k ≤ 1074) {a b V : UInt64} (ha : DInt n a) (hb : DInt d b) (hd : 0 < d) (hV : DQ k w V) (h : n * ((2 ^ k : Nat) : Int) ≤ w * d) : dz (FP.ddiv a b) ≤ dz V := by
  have hd0 : d ≠ 0 := by omega
  obtain ⟨s, hs, hsg⟩ := ddiv_round ha hb hd0
  have pk : (0 : Int) < ((2 ^ k : Nat) : Int) := by have := Nat.two_pow_pos k; omega
  rw [dz_q hk hV]
  show zval b64 (val64 (ddiv a b)) ≤ _
  unfold zval
  rw [hs, sgn_roundRatio]
  have e1 : ((w.natAbs * 2 ^ (1074 - k) : Nat) : Int) = (w.natAbs : Int) * ((2 ^ (1074 - k) : Nat) : Int) := by rw [Int.natCast_mul]
  have pU : (0 : Int) < ((2 ^ (1074 - k) : Nat) : Int) := by have := Nat.two_pow_pos (1074 - k); omega
  by_cases hn : n < 0
  · have : s = true := by rw [hsg (by omega)]; simp [hn, show ¬ d < 0 by omega]
    subst this
    show -((zmag b64 (roundRatio b64 true n.natAbs d.natAbs 0) : Nat) : Int) ≤ _
    by_cases hw : 0 ≤ w
    · have := Int.mul_nonneg hw (Int.le_of_lt pU)
      omega
    · have q := ddiv_mag_ge (s := true) hk hd0 hV (n := n) (by
        have q1 : ((w.natAbs * d.natAbs : Nat) : Int) ≤ ((n.natAbs * 2 ^ k : Nat) : Int) := by
          rw [Int.natCast_mul, Int.natCast_mul, show (w.natAbs : Int) = -w by omega, show (d.natAbs : Int) = d by omega, show (n.natAbs : Int) = -n by omega, Int.neg_mul, Int.neg_mul]
          omega
        omega)
      have q2 : w * ((2 ^ (1074 - k) : Nat) : Int) = -((w.natAbs : Int) * ((2 ^ (1074 - k) : Nat) : Int)) := by rw [show (w.natAbs : Int) = -w by omega, Int.neg_mul, Int.neg_neg]
      rw [q2]
      omega
  · have hw : 0 ≤ w := by
      refine Int.not_lt.mp fun hw => ?_
      have q1 := Int.mul_neg_of_neg_of_pos hw hd
      have q2 := Int.mul_nonneg (show 0 ≤ n by omega) (Int.le_of_lt pk)
      omega
    have q := ddiv_mag_le (s := s) hk hd0 hV (n := n) (by
      have q1 : ((n.natAbs * 2 ^ k : Nat) : Int) ≤ ((w.natAbs * d.natAbs : Nat) : Int) := by
        rw [Int.natCast_mul, Int.natCast_mul, show (w.natAbs : Int) = w by omega, show (d.natAbs : Int) = d by omega, show (n.natAbs : Int) = n by omega]
        exact h
      omega)
    have q2 : w * ((2 ^ (1074 - k) : Nat) : Int) = (w.natAbs : Int) * ((2 ^ (1074 - k) : Nat) : Int) := by rw [show (w.natAbs : Int) = w by omega]
    rw [q2]
    cases s
    · show ((zmag b64 (roundRatio b64 false n.natAbs d.natAbs 0) : Nat) : Int) ≤ _
      omega
    · show -((zmag b64 (roundRatio b64 true n.natAbs d.natAbs 0) : Nat) : Int) ≤ _
      have := Int.mul_nonneg (show 0 ≤ (w.natAbs : Int) by omega) (Int.le_of_lt pU)
      omega
theorem dz_dneg (a : UInt64) : dz (FP.dneg a) = -dz a := by unfold dz; rw [FP.val64_dneg]; exact zval_negate _ _
theorem nn_dneg {a : UInt64} (h : NoNaN64 a) : NoNaN64 (FP.dneg a) := val64_no.mpr (by rw [FP.val64_dneg]; exact negate_ne_nan (val64_no.mp h))
theorem ddiv_ge {n d w : Int} {k : Nat} (hk : k ≤ 1074) {a b V : UInt64} (ha : DInt n a) (hb : DInt d b) (hd : 0 < d) (hV : DQ k w V) (h : w * d ≤ n * ((2 ^ k : Nat) : Int)) : dz V ≤ dz (FP.ddiv a b) := by
  have q := ddiv_le hk (dneg_int ha) hb hd (dneg_q hV) (by rw [Int.neg_mul, Int.neg_mul]; omega)
  rw [show FP.ddiv (FP.Core.dneg a) b = FP.Core.dneg (ddiv a b) from ddiv_dneg a b, dz_dneg] at q
  show dz V ≤ dz (ddiv a b)
  have e : dz (FP.Core.dneg (ddiv a b)) = -dz (ddiv a b) := by unfold dz; rw [FP.Core.val64_dneg]; exact zval_negate _ _
  rw [e] at q
  omega
end Dz
end Jvm.OwnKit
namespace Jvm.OwnKit
section Ds
open Jvm.FP.Core Jvm.Free.Fl Op ClassFile
theorem fin_of_dz {a V : UInt64} (hn : NoNaN64 a) (hV : DFin V) (h : (dz a).natAbs ≤ (dz V).natAbs) : DFin a := by
  have h0 := hV.zval_lt
  have hn := val64_no.mp hn
  have e : ∀ b : UInt64, (dz b).natAbs = zmag b64 (val64 b) := fun b => by
    unfold dz zval signed
    split <;> omega
  rw [e, e] at h
  cases hv : val64 a with
  | nan => exact absurd hv hn
  | inf s =>
    rw [hv] at h
    have h : b64.tails * 2 ^ (b64.exps - 2) ≤ zmag b64 (val64 V) := h
    generalize b64.tails * 2 ^ (b64.exps - 2) = top at *
    omega
  | fin s c q => exact ⟨s, c, q, hv⟩
theorem fin_neg {d : Datum} (h : ∃ s c q, d = .fin s c q) : ∃ s c q, negate d = .fin s c q := by
  obtain ⟨s, c, q, rfl⟩ := h
  exact ⟨_, _, _, rfl⟩
theorem dsub_nn {a b : UInt64} (ha : DFin a) (hb : DFin b) : NoNaN64 (FP.dsub a b) := val64_no.mpr ((notNaN_iff _).mp (dsub_out ha.notNaN hb))
theorem fits_neg {b : UInt64} : FP.Core.fits b64 (negate (val64 b)) := by
  rw [← FP.val64_dneg]; exact val64_fits _
theorem dsub_le {a b V : UInt64} (ha : DFin a) (hb : DFin b) (hV : NoNaN64 V) (h : dz a - dz b ≤ dz V) : dz (FP.dsub a b) ≤ dz V := by
  show zval b64 (val64 (dsub a b)) ≤ _
  rw [val64_dsub]
  refine sum_le good_b64 ha (fin_neg hb) (val64_fits a) fits_neg (val64_fits V) (val64_no.mp hV) ?_
  rw [zval_negate]
  exact h
theorem dsub_ge {a b V : UInt64} (ha : DFin a) (hb : DFin b) (hV : NoNaN64 V) (h : dz V ≤ dz a - dz b) : dz V ≤ dz (FP.dsub a b) := by
  show _ ≤ zval b64 (val64 (dsub a b))
  rw [val64_dsub]
  refine sum_ge good_b64 ha (fin_neg hb) (val64_fits a) fits_neg (val64_fits V) (val64_no.mp hV) ?_
  rw [zval_negate]
  exact h
end Ds
end Jvm.OwnKit
namespace Jvm.Pilot.@@N@@
open Jvm Jvm.ClassFile Sem Op Lib Jvm.Free Jvm.Stand Jvm.LawKit Jvm.RoadKit Jvm.OwnKit Bundle Jvm.Pilot.@@N@@.Jvm.D
theorem d1_0 : decode prog_5_method_4_code 0 = .ok (.dload_n 0, 1) := by decide +kernel
theorem d1_1 : decode prog_5_method_4_code 1 = .ok (.dload_n 2, 1) := by decide +kernel
theorem d1_2 : decode prog_5_method_4_code 2 = .ok (.ldc2_w 22, 3) := by decide +kernel
theorem d1_5 : decode prog_5_method_4_code 5 = .ok (.dsub, 1) := by decide +kernel
theorem d1_6 : decode prog_5_method_4_code 6 = .ok (.dcmp .l, 1) := by decide +kernel
theorem d1_7 : decode prog_5_method_4_code 7 = .ok (.ifCond .lt 7, 3) := by decide +kernel
theorem d1_10 : decode prog_5_method_4_code 10 = .ok (.iconst 1, 1) := by decide +kernel
theorem d1_11 : decode prog_5_method_4_code 11 = .ok (.goto 4, 3) := by decide +kernel
theorem d1_14 : decode prog_5_method_4_code 14 = .ok (.iconst 0, 1) := by decide +kernel
theorem d1_15 : decode prog_5_method_4_code 15 = .ok (.ireturn, 1) := by decide +kernel
theorem pn1 : plainName "com/example/fennec/fennec/core/Degrees" = true := by first | (simp [plainName, overriddenIn]; done) | decide +kernel
theorem pn0 : plainName x.cls = true := by first | (simp [x, plainName, overriddenIn]; done) | decide +kernel
theorem pd1 : parseMethodDescriptor "(DD)Z" = some ⟨[.double, .double], some .boolean⟩ := by decide +kernel
section Own
open Jvm.FP.Core Jvm.Free.Fl
theorem own_q10000 : DQ 0 10000 (4666723172467343360 : UInt64) := ⟨false, 10000 * 2 ^ 39, -39, by decide +kernel, by show FP.Core.signed _ _ = _; decide +kernel⟩
theorem own_K : DInt 10000 (4666723172467343360 : UInt64) := own_q10000.int
theorem own_q32 : DQ 0 4294967296 (4751297606875873280 : UInt64) := ⟨false, 2 ^ 52, -20, by decide +kernel, by show FP.Core.signed _ _ = _; decide +kernel⟩
theorem own_Tf : DFin (4472406533629990549 : UInt64) := (fin_bits _).mpr (by decide)
theorem own_T2f : DFin (4476910133257361045 : UInt64) := (fin_bits _).mpr (by decide)
theorem own_1f : DFin (4607182418800017408 : UInt64) := (fin_bits _).mpr (by decide)
/-- a unit of 2^-32, in units of 2^-1074 -/
def own_U : Int := 2 ^ 1042
theorem own_Upos : 0 < own_U := by decide +kernel
theorem own_T : 4 * own_U ≤ dz (4472406533629990549 : UInt64) ∧ dz (4472406533629990549 : UInt64) ≤ 5 * own_U := by unfold own_U dz; decide +kernel
theorem own_T2 : 8 * own_U ≤ dz (4476910133257361045 : UInt64) ∧ dz (4476910133257361045 : UInt64) ≤ 9 * own_U := by unfold own_U dz; decide +kernel
theorem own_one : dz (4607182418800017408 : UInt64) = 4294967296 * own_U := by unfold own_U dz; decide +kernel
theorem own_grid (w : Int) (h1 : -9007199254740992 ≤ w) (h2 : w ≤ 9007199254740992) : ∃ V : UInt64, DQ 32 w V ∧ NoNaN64 V ∧ dz V = w * own_U := by
  have e : (Int64.ofInt w).toInt = w := Int64.toInt_ofInt_of_le (by show _ ≤ w; omega) (by show w < _; omega)
  have d : DInt w (FP.l2d (Int64.ofInt w)) := by
    have := l2d_D (x := Int64.ofInt w) (by rw [e]; omega)
    rwa [e] at this
  have d32 : DInt 4294967296 (4751297606875873280 : UInt64) := own_q32.int
  have q := ddiv_q (k := 32) (n := w) (by decide) (DQ.of_int 32 d) (DQ.of_int 32 d32) (by decide) (by show w * 4294967296 * 4294967296 = w * (4294967296 * 4294967296); omega) (by omega)
  refine ⟨_, q, nn_of_q q, ?_⟩
  rw [dz_q (by decide) q]
  show w * ((2 ^ 1042 : Nat) : Int) = _
  rfl
theorem own_mono {w v : Int} (h : w ≤ v) : w * own_U ≤ v * own_U := Int.mul_le_mul_of_nonneg_right h (Int.le_of_lt own_Upos)
theorem own_slt {w v : Int} (h : w < v) : w * own_U < v * own_U := Int.mul_lt_mul_of_pos_right h own_Upos
theorem own_br {n : Int} {a : UInt64} (ha : DInt n a) (h0 : 0 ≤ n) (h1 : n ≤ 10000) : NoNaN64 (FP.ddiv a (4666723172467343360 : UInt64)) ∧ DFin (FP.ddiv a (4666723172467343360 : UInt64)) ∧ ∃ w : Int, 0 ≤ w ∧ w ≤ 4294967296 ∧ w * 10000 ≤ n * 4294967296 ∧ n * 4294967296 < (w + 1) * 10000 ∧ w * own_U ≤ dz (FP.ddiv a (4666723172467343360 : UInt64)) ∧ dz (FP.ddiv a (4666723172467343360 : UInt64)) ≤ (w + 1) * own_U := by
  have nn := ddiv_nn ha own_K (by decide)
  obtain ⟨w, hw⟩ : ∃ w : Int, w = n * 4294967296 / 10000 := ⟨_, rfl⟩
  have b1 : w * 10000 ≤ n * 4294967296 := by omega
  have b2 : n * 4294967296 < (w + 1) * 10000 := by omega
  obtain ⟨V, q, -, ez⟩ := own_grid w (by omega) (by omega)
  obtain ⟨V', q', -, ez'⟩ := own_grid (w + 1) (by omega) (by omega)
  have l1 := ddiv_ge (by decide) ha own_K (by decide) q (by show w * 10000 ≤ n * 4294967296; exact b1)
  have l2 := ddiv_le (by decide) ha own_K (by decide) q' (by show n * 4294967296 ≤ (w + 1) * 10000; omega)
  have l3 := ddiv_ge (k := 0) (w := 0) (by decide) ha own_K (by decide) (V := FP.dconst0) ⟨false, 0, -1074, by decide +kernel, by show FP.Core.signed _ _ = _; decide +kernel⟩ (by show 0 * 10000 ≤ n * 1; omega)
  have l4 := ddiv_le (k := 0) (w := 1) (by decide) ha own_K (by decide) (V := (4607182418800017408 : UInt64)) ⟨false, 2 ^ 52, -52, by decide +kernel, by show FP.Core.signed _ _ = _; decide +kernel⟩ (by show n * 1 ≤ 1 * 10000; omega)
  have z0 : dz FP.dconst0 = 0 := by unfold dz; decide +kernel
  rw [ez] at l1
  rw [ez'] at l2
  rw [z0] at l3
  exact ⟨nn, fin_of_dz nn own_1f (by omega), w, by omega, by omega, b1, b2, l1, l2⟩
theorem own_pins {i j : Int32} (hi : 0 ≤ i.toInt ∧ i.toInt ≤ 10000) (hj : 0 ≤ j.toInt ∧ j.toInt ≤ 10000) {x y : UInt64} (ex : x = FP.ddiv (FP.i2d i) (4666723172467343360 : UInt64)) (ey : y = FP.ddiv (FP.i2d j) (4666723172467343360 : UInt64)) :
    NoNaN64 x ∧ NoNaN64 y ∧ NoNaN64 (FP.dsub y (4472406533629990549 : UInt64)) ∧ NoNaN64 (FP.dsub y (4476910133257361045 : UInt64)) ∧ (j.toInt ≤ i.toInt → dz (FP.dsub y (4472406533629990549 : UInt64)) ≤ dz x) ∧ (i.toInt < j.toInt → dz x < dz (FP.dsub y (4472406533629990549 : UInt64))) ∧ dz (FP.dsub y (4476910133257361045 : UInt64)) < dz (FP.dsub y (4472406533629990549 : UInt64)) := by
  obtain ⟨nx, fx, v, v0, v1, v2, v3, v4, v5⟩ := own_br (i2d_D i) hi.1 hi.2
  obtain ⟨ny, fy, w, w0, w1, w2, w3, w4, w5⟩ := own_br (i2d_D j) hj.1 hj.2
  rw [← ex] at nx fx v4 v5
  rw [← ey] at ny fy w4 w5
  have t1 := own_T
  have t2 := own_T2
  have u := own_Upos
  obtain ⟨V5, -, n5, e5⟩ := own_grid (w - 5) (by omega) (by omega)
  obtain ⟨V7, -, n7, e7⟩ := own_grid (w - 7) (by omega) (by omega)
  have m5 : (w - 5) * own_U = w * own_U - 5 * own_U := Int.sub_mul _ _ _
  have m7 : (w - 7) * own_U = w * own_U - 7 * own_U := Int.sub_mul _ _ _
  have m1 : (w + 1) * own_U = w * own_U + 1 * own_U := Int.add_mul _ _ _
  have g5 := dsub_ge fy own_Tf n5 (by omega)
  have g7 := dsub_le fy own_T2f n7 (by omega)
  refine ⟨nx, ny, dsub_nn fy own_Tf, dsub_nn fy own_T2f, fun h => ?_, fun h => ?_, ?_⟩
  · have l := dsub_le fy own_Tf ny (by omega)
    by_cases hh : i.toInt = j.toInt
    · have : i = j := Int32.toInt_inj.mp hh
      rw [ex, this, ← ey]; exact l
    · have := own_mono (show w + 1 ≤ v by omega)
      omega
  · have := own_slt (show v + 1 < w - 5 by omega)
    omega
  · omega
def own_fl (p q : Int32) : Bool :=
  let a := FP.ddiv (FP.i2d p) (4621819117588971520 : UInt64)
  let b := FP.ddiv (FP.i2d q) (4621819117588971520 : UInt64)
  let m := FP.dmul a b
  let e := FP.ddiv (FP.i2d (p * q)) (4636737291354636288 : UInt64)
  decide (a &&& 0x7fffffffffffffff ≤ 0x7ff0000000000000) && decide (b &&& 0x7fffffffffffffff ≤ 0x7ff0000000000000) && decide (m &&& 0x7fffffffffffffff ≤ 0x7ff0000000000000) && decide (e &&& 0x7fffffffffffffff ≤ 0x7ff0000000000000)
   && decide (FP.dsub m (4472406533629990549 : UInt64) &&& 0x7fffffffffffffff ≤ 0x7ff0000000000000) && decide (FP.dsub e (4472406533629990549 : UInt64) &&& 0x7fffffffffffffff ≤ 0x7ff0000000000000) && decide (dz (FP.dsub m (4472406533629990549 : UInt64)) ≤ dz e) && decide (dz (FP.dsub e (4472406533629990549 : UInt64)) ≤ dz m)
theorem own_all : ([0, 1, 2, 3, 4, 5, 6, 7, 8, 9, 10] : List Int32).all (fun p => ([0, 1, 2, 3, 4, 5, 6, 7, 8, 9, 10] : List Int32).all (fun q => own_fl p q)) = true := by decide +kernel
theorem own_mem {x : Int32} (h : 0 ≤ x.toInt ∧ x.toInt ≤ 10) : x ∈ ([0, 1, 2, 3, 4, 5, 6, 7, 8, 9, 10] : List Int32) := by
  have e0 : (0 : Int32).toInt = 0 := by decide
  have e1 : (1 : Int32).toInt = 1 := by decide
  have e2 : (2 : Int32).toInt = 2 := by decide
  have e3 : (3 : Int32).toInt = 3 := by decide
  have e4 : (4 : Int32).toInt = 4 := by decide
  have e5 : (5 : Int32).toInt = 5 := by decide
  have e6 : (6 : Int32).toInt = 6 := by decide
  have e7 : (7 : Int32).toInt = 7 := by decide
  have e8 : (8 : Int32).toInt = 8 := by decide
  have e9 : (9 : Int32).toInt = 9 := by decide
  have e10 : (10 : Int32).toInt = 10 := by decide
  simp only [List.mem_cons, ← Int32.toInt_inj, List.not_mem_nil]
  omega
theorem own_noise {p q : Int32} (hp : 0 ≤ p.toInt ∧ p.toInt ≤ 10) (hq : 0 ≤ q.toInt ∧ q.toInt ≤ 10) :
    NoNaN64 (FP.ddiv (FP.i2d p) (4621819117588971520 : UInt64)) ∧ NoNaN64 (FP.ddiv (FP.i2d q) (4621819117588971520 : UInt64)) ∧ NoNaN64 (FP.dmul (FP.ddiv (FP.i2d p) (4621819117588971520 : UInt64)) (FP.ddiv (FP.i2d q) (4621819117588971520 : UInt64))) ∧ NoNaN64 (FP.ddiv (FP.i2d (p * q)) (4636737291354636288 : UInt64)) ∧ NoNaN64 (FP.dsub (FP.dmul (FP.ddiv (FP.i2d p) (4621819117588971520 : UInt64)) (FP.ddiv (FP.i2d q) (4621819117588971520 : UInt64))) (4472406533629990549 : UInt64)) ∧ NoNaN64 (FP.dsub (FP.ddiv (FP.i2d (p * q)) (4636737291354636288 : UInt64)) (4472406533629990549 : UInt64)) ∧ dz (FP.dsub (FP.dmul (FP.ddiv (FP.i2d p) (4621819117588971520 : UInt64)) (FP.ddiv (FP.i2d q) (4621819117588971520 : UInt64))) (4472406533629990549 : UInt64)) ≤ dz (FP.ddiv (FP.i2d (p * q)) (4636737291354636288 : UInt64)) ∧ dz (FP.dsub (FP.ddiv (FP.i2d (p * q)) (4636737291354636288 : UInt64)) (4472406533629990549 : UInt64)) ≤ dz (FP.dmul (FP.ddiv (FP.i2d p) (4621819117588971520 : UInt64)) (FP.ddiv (FP.i2d q) (4621819117588971520 : UInt64))) := by
  have h := List.all_eq_true.mp (List.all_eq_true.mp own_all p (own_mem hp)) q (own_mem hq)
  unfold own_fl at h
  simp only [Bool.and_eq_true, decide_eq_true_eq] at h
  obtain ⟨⟨⟨⟨⟨⟨⟨h1, h2⟩, h3⟩, h4⟩, h5⟩, h6⟩, h7⟩, h8⟩ := h
  exact ⟨h1, h2, h3, h4, h5, h6, h7, h8⟩
end Own
theorem own_r (x m : Int32) (M : Nat) (h : M = m.toInt.natAbs) (hm : 0 < m.toInt) : 0 ≤ ((x &&& 2147483647) % m).toInt ∧ ((x &&& 2147483647) % m).toInt ≤ m.toInt - 1 := by
  have h1 := c_and x 2147483647 (by decide)
  have h2 := (c_irem (x &&& 2147483647) m m.toInt (by rfl)).1 h1.1
  have h3 := Int.emod_nonneg (x &&& 2147483647).toInt (show m.toInt ≠ 0 by omega)
  have h4 := Int.emod_lt_of_pos (x &&& 2147483647).toInt hm
  omega
theorem ef1 (m : MethodId) (x0 x1 : UInt64) : entryFrame m #[(.double x0), (.double x1)] 4 = mkF m 0 #[.val (.double x0), .second, .val (.double x1), .second] [] := by first | (simp [entryFrame, mkF, argsToLocals, Value.category, maxLocals]; done) | rfl
theorem ef0 (m : MethodId) (x0 x1 x2 x3 : Int32) : entryFrame m #[(.int x0), (.int x1), (.int x2), (.int x3)] maxLocals = mkF m 0 #[.val (.int x0), .val (.int x1), .val (.int x2), .val (.int x3), .unset, .unset, .unset, .unset, .unset, .unset, .unset, .unset, .unset, .unset, .unset, .unset, .unset, .unset, .unset, .unset, .unset, .unset, .unset] [] := by first | (simp [entryFrame, mkF, argsToLocals, Value.category, maxLocals]; done) | rfl
set_option maxRecDepth 65536 in
set_option maxHeartbeats 40000000 in
theorem c_al (l : Launch) (Z : State) (a0 : Array Value) (hw : ∀ d ∈ tables_1, d.before a0 Z = true) (h : Heap) (d0 d1 : UInt64) (ha : Jvm.Free.Fl.NoNaN64 d0) (hb : Jvm.Free.Fl.NoNaN64 (FP.dsub d1 (4472406533629990549 : UInt64))) :
    Con l Z (⟨"com/example/fennec/fennec/core/Degrees", "atLeast", "(DD)Z"⟩ : MethodName) prog_5_method_4_code 4 (some .boolean) ⟨0, 0, 0, 0⟩ #[.double d0, .double d1] h (fun v h' L => ∃ r : Int32, v = some (.int r) ∧ (r.toInt = 1 ∧ dz (FP.dsub d1 (4472406533629990549 : UInt64)) ≤ dz d0 ∨ r.toInt = 0 ∧ ¬ dz (FP.dsub d1 (4472406533629990549 : UInt64)) ≤ dz d0) ∧ L = [] ∧ h' = h) := by
  refine con_of_go pn1 (fun m => ef1 m d0 d1) ?_
  intro p e s m below meth c T0 C X0 e0
  refine g_dloadN C X0 (pc' := 1) d1_0 rfl rfl ?_
  refine g_dloadN C X0 (pc' := 2) d1_1 rfl rfl ?_
  refine g_ldc2D C X0 (pc' := 5) (hw _ (List.mem_of_getElem? (i := 6) rfl)) d1_2 rfl ?_
  refine g_dsub C X0 (pc' := 6) d1_5 hb rfl ?_
  refine g_dcmpV C X0 (pc' := 7) d1_6 (dcmp_dz ha hb _) rfl ?_
  refine g_if C X0 d1_7 (pc' := 14) (pc'' := 10) (by decide) (by decide) rfl (fun c7 => ?_) (fun c7 => ?_)
  · have c7 : (cmpI (dz d0) (dz (FP.dsub d1 (4472406533629990549 : UInt64)))).toInt < 0 := c7
    have c7 : dz d0 < dz (FP.dsub d1 (4472406533629990549 : UInt64)) := (cmpI_lt _ _).mp c7
    refine g_iconst C X0 (pc' := 15) d1_14 (v := (0 : Int32)) (by decide) rfl ?_
    exact g_zreturn C X0 d1_15 (w := (0 : Int32)) (by decide) ⟨_, rfl, Or.inr ⟨rfl, by omega⟩, rfl, e0⟩ (by decide) (by decide)
  · have c7 : ¬ ((cmpI (dz d0) (dz (FP.dsub d1 (4472406533629990549 : UInt64)))).toInt < 0) := c7
    have c7 : ¬ (dz d0 < dz (FP.dsub d1 (4472406533629990549 : UInt64))) := fun q => c7 ((cmpI_lt _ _).mpr q)
    refine g_iconst C X0 (pc' := 11) d1_10 (v := (1 : Int32)) (by decide) rfl ?_
    refine g_goto C X0 d1_11 (pc' := 15) (by decide) (by decide) ?_
    exact g_zreturn C X0 d1_15 (w := (1 : Int32)) (by decide) ⟨_, rfl, Or.inl ⟨rfl, by omega⟩, rfl, e0⟩ (by decide) (by decide)
set_option maxRecDepth 65536 in
set_option maxHeartbeats 40000000 in
theorem law (l : Launch) (Z : State) (a0 : Array Value) (hw : ∀ d ∈ tables_1, d.before a0 Z = true) (p0 p1 p2 p3 : Int32) (h : Heap) (n0 : Nat) (Z0 : n0 ≤ h.size) :
    Con l Z x code maxLocals ret room_1 #[.int p0, .int p1, .int p2, .int p3] h (fun v _ L => v = some (.int 1) ∧ Fr n0 L) := by
  refine con_of_go pn0 (fun m => ef0 m p0 p1 p2 p3) ?_
  intro p e s m below meth c T0 C X0 e0
  refine g_iloadN C X0 (pc' := 1) at_0 rfl rfl ?_
  refine g_ldcI C X0 (pc' := 3) (hw _ (List.mem_of_getElem? (i := 0) rfl)) at_1 rfl ?_
  refine g_iand C X0 (pc' := 4) at_3 rfl ?_
  refine g_sipush C X0 (pc' := 7) at_4 (v := (10001 : Int32)) (by decide) rfl ?_
  refine g_irem C X0 (pc' := 8) at_7 (by decide) rfl ?_
  obtain ⟨i1, e_i1⟩ : ∃ z : Int32, z = (p0 &&& (2147483647 : Int32)) % (10001 : Int32) := ⟨_, rfl⟩
  refine g_istore C X0 (pc' := 10) at_8 (x := i1) e_i1 (l' := #[.val (.int p0), .val (.int p1), .val (.int p2), .val (.int p3), .val (.int i1), .unset, .unset, .unset, .unset, .unset, .unset, .unset, .unset, .unset, .unset, .unset, .unset, .unset, .unset, .unset, .unset, .unset, .unset]) rfl rfl ?_
  have b_i1 : 0 ≤ i1.toInt ∧ i1.toInt ≤ 10000 := by rw [e_i1]; exact own_r p0 10001 _ rfl (by decide)
  refine g_iloadN C X0 (pc' := 11) at_10 rfl rfl ?_
  refine g_ldcI C X0 (pc' := 13) (hw _ (List.mem_of_getElem? (i := 0) rfl)) at_11 rfl ?_
  refine g_iand C X0 (pc' := 14) at_13 rfl ?_
  refine g_sipush C X0 (pc' := 17) at_14 (v := (10001 : Int32)) (by decide) rfl ?_
  refine g_irem C X0 (pc' := 18) at_17 (by decide) rfl ?_
  obtain ⟨i2, e_i2⟩ : ∃ z : Int32, z = (p1 &&& (2147483647 : Int32)) % (10001 : Int32) := ⟨_, rfl⟩
  refine g_istore C X0 (pc' := 20) at_18 (x := i2) e_i2 (l' := #[.val (.int p0), .val (.int p1), .val (.int p2), .val (.int p3), .val (.int i1), .val (.int i2), .unset, .unset, .unset, .unset, .unset, .unset, .unset, .unset, .unset, .unset, .unset, .unset, .unset, .unset, .unset, .unset, .unset]) rfl rfl ?_
  have b_i2 : 0 ≤ i2.toInt ∧ i2.toInt ≤ 10000 := by rw [e_i2]; exact own_r p1 10001 _ rfl (by decide)
  refine g_iload C X0 (pc' := 22) at_20 rfl rfl ?_
  refine g_i2d C X0 (pc' := 23) at_22 rfl ?_
  refine g_ldc2D C X0 (pc' := 26) (hw _ (List.mem_of_getElem? (i := 1) rfl)) at_23 rfl ?_
  refine g_ddiv C X0 (pc' := 27) at_26 (own_br (i2d_D _) b_i1.1 b_i1.2).1 rfl ?_
  obtain ⟨d3, e_d3⟩ : ∃ z : UInt64, z = FP.ddiv (FP.i2d i1) (4666723172467343360 : UInt64) := ⟨_, rfl⟩
  refine g_dstore C X0 (pc' := 29) at_27 (x := d3) e_d3 (l' := #[.val (.int p0), .val (.int p1), .val (.int p2), .val (.int p3), .val (.int i1), .val (.int i2), .val (.double d3), .second, .unset, .unset, .unset, .unset, .unset, .unset, .unset, .unset, .unset, .unset, .unset, .unset, .unset, .unset, .unset]) rfl rfl ?_
  refine g_iload C X0 (pc' := 31) at_29 rfl rfl ?_
  refine g_i2d C X0 (pc' := 32) at_31 rfl ?_
  refine g_ldc2D C X0 (pc' := 35) (hw _ (List.mem_of_getElem? (i := 1) rfl)) at_32 rfl ?_
  refine g_ddiv C X0 (pc' := 36) at_35 (own_br (i2d_D _) b_i2.1 b_i2.2).1 rfl ?_
  obtain ⟨d4, e_d4⟩ : ∃ z : UInt64, z = FP.ddiv (FP.i2d i2) (4666723172467343360 : UInt64) := ⟨_, rfl⟩
  refine g_dstore C X0 (pc' := 38) at_36 (x := d4) e_d4 (l' := #[.val (.int p0), .val (.int p1), .val (.int p2), .val (.int p3), .val (.int i1), .val (.int i2), .val (.double d3), .second, .val (.double d4), .second, .unset, .unset, .unset, .unset, .unset, .unset, .unset, .unset, .unset, .unset, .unset, .unset, .unset]) rfl rfl ?_
  obtain ⟨nx, ny, nT, nT2, A1, A2, A3⟩ := own_pins b_i1 b_i2 e_d3 e_d4
  refine g_dload C X0 (pc' := 40) at_38 rfl rfl ?_
  refine g_dload C X0 (pc' := 42) at_40 rfl rfl ?_
  refine g_callS C X0 (c_al l Z a0 hw h d3 d4 nx nT) (hw _ (List.mem_of_getElem? (i := 2) rfl)) (hw _ (List.mem_of_getElem? (i := 3) rfl)) (hw _ (List.mem_of_getElem? (i := 4) rfl)) (hw _ (List.mem_of_getElem? (i := 5) rfl)) (by decide) e0 at_42 rfl pd1 [(.double d3), (.double d4)] [] rfl rfl rfl 0 rfl (by decide) (by decide) (by decide) (by decide) rfl ?_
  rintro _ T1 _ X1 ⟨r1, rfl, b1, rfl, e1⟩
  rw [List.append_nil] at X1
  show Go p.tables e below _ T1 (mkF m 45 #[.val (.int p0), .val (.int p1), .val (.int p2), .val (.int p3), .val (.int i1), .val (.int i2), .val (.double d3), .second, .val (.double d4), .second, .unset, .unset, .unset, .unset, .unset, .unset, .unset, .unset, .unset, .unset, .unset, .unset, .unset] [(.int r1)])
  refine g_iload C X1 (pc' := 47) at_45 rfl rfl ?_
  refine g_iload C X1 (pc' := 49) at_47 rfl rfl ?_
  refine g_icmp C X1 at_49 (pc' := 56) (pc'' := 52) (by decide) (by decide) rfl (fun c49 => ?_) (fun c49 => ?_)
  · have c49 : i1.toInt < i2.toInt := c49
    refine g_iconst C X1 (pc' := 57) at_56 (v := (0 : Int32)) (by decide) rfl ?_
    refine g_icmp C X1 at_57 (pc' := 64) (pc'' := 60) (by decide) (by decide) rfl (fun c57 => ?_) (fun c57 => ?_)
    · have c57 : ¬ (r1.toInt = 0) := c57
      refine g_iconst C X1 (pc' := 65) at_64 (v := (0 : Int32)) (by decide) rfl ?_
      refine g_istore C X1 (pc' := 67) at_65 (x := (0 : Int32)) rfl (l' := #[.val (.int p0), .val (.int p1), .val (.int p2), .val (.int p3), .val (.int i1), .val (.int i2), .val (.double d3), .second, .val (.double d4), .second, .val (.int (0 : Int32)), .unset, .unset, .unset, .unset, .unset, .unset, .unset, .unset, .unset, .unset, .unset, .unset]) rfl rfl ?_
      refine g_iloadN C X1 (pc' := 68) at_67 rfl rfl ?_
      refine g_ldcI C X1 (pc' := 70) (hw _ (List.mem_of_getElem? (i := 0) rfl)) at_68 rfl ?_
      refine g_iand C X1 (pc' := 71) at_70 rfl ?_
      refine g_bipush C X1 (pc' := 73) at_71 (v := (11 : Int32)) (by decide) rfl ?_
      refine g_irem C X1 (pc' := 74) at_73 (by decide) rfl ?_
      obtain ⟨i5, e_i5⟩ : ∃ z : Int32, z = (p2 &&& (2147483647 : Int32)) % (11 : Int32) := ⟨_, rfl⟩
      refine g_istore C X1 (pc' := 76) at_74 (x := i5) e_i5 (l' := #[.val (.int p0), .val (.int p1), .val (.int p2), .val (.int p3), .val (.int i1), .val (.int i2), .val (.double d3), .second, .val (.double d4), .second, .val (.int (0 : Int32)), .val (.int i5), .unset, .unset, .unset, .unset, .unset, .unset, .unset, .unset, .unset, .unset, .unset]) rfl rfl ?_
      have b_i5 : 0 ≤ i5.toInt ∧ i5.toInt ≤ 10 := by rw [e_i5]; exact own_r p2 11 _ rfl (by decide)
      refine g_iloadN C X1 (pc' := 77) at_76 rfl rfl ?_
      refine g_ldcI C X1 (pc' := 79) (hw _ (List.mem_of_getElem? (i := 0) rfl)) at_77 rfl ?_
      refine g_iand C X1 (pc' := 80) at_79 rfl ?_
      refine g_bipush C X1 (pc' := 82) at_80 (v := (11 : Int32)) (by decide) rfl ?_
      refine g_irem C X1 (pc' := 83) at_82 (by decide) rfl ?_
      obtain ⟨i6, e_i6⟩ : ∃ z : Int32, z = (p3 &&& (2147483647 : Int32)) % (11 : Int32) := ⟨_, rfl⟩
      refine g_istore C X1 (pc' := 85) at_83 (x := i6) e_i6 (l' := #[.val (.int p0), .val (.int p1), .val (.int p2), .val (.int p3), .val (.int i1), .val (.int i2), .val (.double d3), .second, .val (.double d4), .second, .val (.int (0 : Int32)), .val (.int i5), .val (.int i6), .unset, .unset, .unset, .unset, .unset, .unset, .unset, .unset, .unset, .unset]) rfl rfl ?_
      have b_i6 : 0 ≤ i6.toInt ∧ i6.toInt ≤ 10 := by rw [e_i6]; exact own_r p3 11 _ rfl (by decide)
      obtain ⟨o1, o2, o3, o4, o5, o6, o7, o8⟩ := own_noise b_i5 b_i6
      refine g_iload C X1 (pc' := 87) at_85 rfl rfl ?_
      refine g_i2d C X1 (pc' := 88) at_87 rfl ?_
      refine g_ldc2D C X1 (pc' := 91) (hw _ (List.mem_of_getElem? (i := 7) rfl)) at_88 rfl ?_
      refine g_ddiv C X1 (pc' := 92) at_91 o1 rfl ?_
      refine g_iload C X1 (pc' := 94) at_92 rfl rfl ?_
      refine g_i2d C X1 (pc' := 95) at_94 rfl ?_
      refine g_ldc2D C X1 (pc' := 98) (hw _ (List.mem_of_getElem? (i := 7) rfl)) at_95 rfl ?_
      refine g_ddiv C X1 (pc' := 99) at_98 o2 rfl ?_
      refine g_dmul C X1 (pc' := 100) at_99 o3 rfl ?_
      obtain ⟨d7, e_d7⟩ : ∃ z : UInt64, z = FP.dmul (FP.ddiv (FP.i2d i5) (4621819117588971520 : UInt64)) (FP.ddiv (FP.i2d i6) (4621819117588971520 : UInt64)) := ⟨_, rfl⟩
      refine g_dstore C X1 (pc' := 102) at_100 (x := d7) e_d7 (l' := #[.val (.int p0), .val (.int p1), .val (.int p2), .val (.int p3), .val (.int i1), .val (.int i2), .val (.double d3), .second, .val (.double d4), .second, .val (.int (0 : Int32)), .val (.int i5), .val (.int i6), .val (.double d7), .second, .unset, .unset, .unset, .unset, .unset, .unset, .unset, .unset]) rfl rfl ?_
      rw [← e_d7] at o3 o5 o7 o8
      refine g_iload C X1 (pc' := 104) at_102 rfl rfl ?_
      refine g_iload C X1 (pc' := 106) at_104 rfl rfl ?_
      refine g_imul C X1 (pc' := 107) at_106 rfl ?_
      refine g_i2d C X1 (pc' := 108) at_107 rfl ?_
      refine g_ldc2D C X1 (pc' := 111) (hw _ (List.mem_of_getElem? (i := 8) rfl)) at_108 rfl ?_
      refine g_ddiv C X1 (pc' := 112) at_111 o4 rfl ?_
      obtain ⟨d8, e_d8⟩ : ∃ z : UInt64, z = FP.ddiv (FP.i2d (i5 * i6)) (4636737291354636288 : UInt64) := ⟨_, rfl⟩
      refine g_dstore C X1 (pc' := 114) at_112 (x := d8) e_d8 (l' := #[.val (.int p0), .val (.int p1), .val (.int p2), .val (.int p3), .val (.int i1), .val (.int i2), .val (.double d3), .second, .val (.double d4), .second, .val (.int (0 : Int32)), .val (.int i5), .val (.int i6), .val (.double d7), .second, .val (.double d8), .second, .unset, .unset, .unset, .unset, .unset, .unset]) rfl rfl ?_
      rw [← e_d8] at o4 o6 o7 o8
      refine g_dload C X1 (pc' := 116) at_114 rfl rfl ?_
      refine g_dload C X1 (pc' := 118) at_116 rfl rfl ?_
      refine g_callS C X1 (c_al l Z a0 hw h d7 d8 o3 o6) (hw _ (List.mem_of_getElem? (i := 2) rfl)) (hw _ (List.mem_of_getElem? (i := 3) rfl)) (hw _ (List.mem_of_getElem? (i := 4) rfl)) (hw _ (List.mem_of_getElem? (i := 5) rfl)) (by decide) e1 at_118 rfl pd1 [(.double d7), (.double d8)] [] rfl rfl rfl 0 rfl (by decide) (by decide) (by decide) (by decide) rfl ?_
      rintro _ T2 _ X2 ⟨r2, rfl, b2, rfl, e2⟩
      rw [List.append_nil] at X2
      show Go p.tables e below _ T2 (mkF m 121 #[.val (.int p0), .val (.int p1), .val (.int p2), .val (.int p3), .val (.int i1), .val (.int i2), .val (.double d3), .second, .val (.double d4), .second, .val (.int (0 : Int32)), .val (.int i5), .val (.int i6), .val (.double d7), .second, .val (.double d8), .second, .unset, .unset, .unset, .unset, .unset, .unset] [(.int r2)])
      refine g_if C X2 at_121 (pc' := 138) (pc'' := 124) (by decide) (by decide) rfl (fun c121 => ?_) (fun c121 => ?_)
      · have c121 : r2.toInt = 0 := c121
        refine g_iconst C X2 (pc' := 139) at_138 (v := (0 : Int32)) (by decide) rfl ?_
        refine g_istore C X2 (pc' := 141) at_139 (x := (0 : Int32)) rfl (l' := #[.val (.int p0), .val (.int p1), .val (.int p2), .val (.int p3), .val (.int i1), .val (.int i2), .val (.double d3), .second, .val (.double d4), .second, .val (.int (0 : Int32)), .val (.int i5), .val (.int i6), .val (.double d7), .second, .val (.double d8), .second, .val (.int (0 : Int32)), .unset, .unset, .unset, .unset, .unset]) rfl rfl ?_
        refine g_dload C X2 (pc' := 143) at_141 rfl rfl ?_
        refine g_ldc2D C X2 (pc' := 146) (hw _ (List.mem_of_getElem? (i := 9) rfl)) at_143 rfl ?_
        refine g_dsub C X2 (pc' := 147) at_146 nT rfl ?_
        obtain ⟨d9, e_d9⟩ : ∃ z : UInt64, z = FP.dsub d4 (4472406533629990549 : UInt64) := ⟨_, rfl⟩
        refine g_dstore C X2 (pc' := 149) at_147 (x := d9) e_d9 (l' := #[.val (.int p0), .val (.int p1), .val (.int p2), .val (.int p3), .val (.int i1), .val (.int i2), .val (.double d3), .second, .val (.double d4), .second, .val (.int (0 : Int32)), .val (.int i5), .val (.int i6), .val (.double d7), .second, .val (.double d8), .second, .val (.int (0 : Int32)), .val (.double d9), .second, .unset, .unset, .unset]) rfl rfl ?_
        refine g_dload C X2 (pc' := 151) at_149 rfl rfl ?_
        refine g_ldc2D C X2 (pc' := 154) (hw _ (List.mem_of_getElem? (i := 10) rfl)) at_151 rfl ?_
        refine g_dsub C X2 (pc' := 155) at_154 nT2 rfl ?_
        obtain ⟨d10, e_d10⟩ : ∃ z : UInt64, z = FP.dsub d4 (4476910133257361045 : UInt64) := ⟨_, rfl⟩
        refine g_dstore C X2 (pc' := 157) at_155 (x := d10) e_d10 (l' := #[.val (.int p0), .val (.int p1), .val (.int p2), .val (.int p3), .val (.int i1), .val (.int i2), .val (.double d3), .second, .val (.double d4), .second, .val (.int (0 : Int32)), .val (.int i5), .val (.int i6), .val (.double d7), .second, .val (.double d8), .second, .val (.int (0 : Int32)), .val (.double d9), .second, .val (.double d10), .second, .unset]) rfl rfl ?_
        have nji : Jvm.Free.Fl.NoNaN64 d9 := by rw [e_d9]; exact nT
        have njo : Jvm.Free.Fl.NoNaN64 d10 := by rw [e_d10]; exact nT2
        have zji : dz d9 = dz (FP.dsub d4 (4472406533629990549 : UInt64)) := by rw [e_d9]
        have zjo : dz d10 = dz (FP.dsub d4 (4476910133257361045 : UInt64)) := by rw [e_d10]
        refine g_dload C X2 (pc' := 159) at_157 rfl rfl ?_
        refine g_dload C X2 (pc' := 161) at_159 rfl rfl ?_
        refine g_callS C X2 (c_al l Z a0 hw h d9 d4 nji nT) (hw _ (List.mem_of_getElem? (i := 2) rfl)) (hw _ (List.mem_of_getElem? (i := 3) rfl)) (hw _ (List.mem_of_getElem? (i := 4) rfl)) (hw _ (List.mem_of_getElem? (i := 5) rfl)) (by decide) e2 at_161 rfl pd1 [(.double d9), (.double d4)] [] rfl rfl rfl 0 rfl (by decide) (by decide) (by decide) (by decide) rfl ?_
        rintro _ T3 _ X3 ⟨r3, rfl, b3, rfl, e3⟩
        rw [List.append_nil] at X3
        show Go p.tables e below _ T3 (mkF m 164 #[.val (.int p0), .val (.int p1), .val (.int p2), .val (.int p3), .val (.int i1), .val (.int i2), .val (.double d3), .second, .val (.double d4), .second, .val (.int (0 : Int32)), .val (.int i5), .val (.int i6), .val (.double d7), .second, .val (.double d8), .second, .val (.int (0 : Int32)), .val (.double d9), .second, .val (.double d10), .second, .unset] [(.int r3)])
        refine g_if C X3 at_164 (pc' := 181) (pc'' := 167) (by decide) (by decide) rfl (fun c164 => ?_) (fun c164 => ?_)
        · have c164 : r3.toInt = 0 := c164
          refine g_iconst C X3 (pc' := 182) at_181 (v := (0 : Int32)) (by decide) rfl ?_
          refine g_istore C X3 (pc' := 184) at_182 (x := (0 : Int32)) rfl (l' := #[.val (.int p0), .val (.int p1), .val (.int p2), .val (.int p3), .val (.int i1), .val (.int i2), .val (.double d3), .second, .val (.double d4), .second, .val (.int (0 : Int32)), .val (.int i5), .val (.int i6), .val (.double d7), .second, .val (.double d8), .second, .val (.int (0 : Int32)), .val (.double d9), .second, .val (.double d10), .second, .val (.int (0 : Int32))]) rfl rfl ?_
          refine g_iload C X3 (pc' := 186) at_184 rfl rfl ?_
          refine g_ifY C X3 at_186 (pc' := 203) (by decide) (by decide) (by decide) ?_
          refine g_iconst C X3 (pc' := 204) at_203 (v := (0 : Int32)) (by decide) rfl ?_
          exfalso; omega
        · have c164 : ¬ (r3.toInt = 0) := c164
          refine g_dload C X3 (pc' := 169) at_167 rfl rfl ?_
          refine g_dload C X3 (pc' := 171) at_169 rfl rfl ?_
          refine g_callS C X3 (c_al l Z a0 hw h d10 d4 njo nT) (hw _ (List.mem_of_getElem? (i := 2) rfl)) (hw _ (List.mem_of_getElem? (i := 3) rfl)) (hw _ (List.mem_of_getElem? (i := 4) rfl)) (hw _ (List.mem_of_getElem? (i := 5) rfl)) (by decide) e3 at_171 rfl pd1 [(.double d10), (.double d4)] [] rfl rfl rfl 0 rfl (by decide) (by decide) (by decide) (by decide) rfl ?_
          rintro _ T4 _ X4 ⟨r4, rfl, b4, rfl, e4⟩
          rw [List.append_nil] at X4
          show Go p.tables e below _ T4 (mkF m 174 #[.val (.int p0), .val (.int p1), .val (.int p2), .val (.int p3), .val (.int i1), .val (.int i2), .val (.double d3), .second, .val (.double d4), .second, .val (.int (0 : Int32)), .val (.int i5), .val (.int i6), .val (.double d7), .second, .val (.double d8), .second, .val (.int (0 : Int32)), .val (.double d9), .second, .val (.double d10), .second, .unset] [(.int r4)])
          refine g_if C X4 at_174 (pc' := 181) (pc'' := 177) (by decide) (by decide) rfl (fun c174 => ?_) (fun c174 => ?_)
          · have c174 : ¬ (r4.toInt = 0) := c174
            refine g_iconst C X4 (pc' := 182) at_181 (v := (0 : Int32)) (by decide) rfl ?_
            refine g_istore C X4 (pc' := 184) at_182 (x := (0 : Int32)) rfl (l' := #[.val (.int p0), .val (.int p1), .val (.int p2), .val (.int p3), .val (.int i1), .val (.int i2), .val (.double d3), .second, .val (.double d4), .second, .val (.int (0 : Int32)), .val (.int i5), .val (.int i6), .val (.double d7), .second, .val (.double d8), .second, .val (.int (0 : Int32)), .val (.double d9), .second, .val (.double d10), .second, .val (.int (0 : Int32))]) rfl rfl ?_
            refine g_iload C X4 (pc' := 186) at_184 rfl rfl ?_
            refine g_ifY C X4 at_186 (pc' := 203) (by decide) (by decide) (by decide) ?_
            refine g_iconst C X4 (pc' := 204) at_203 (v := (0 : Int32)) (by decide) rfl ?_
            exfalso; omega
          · have c174 : r4.toInt = 0 := Decidable.not_not.mp c174
            refine g_iconst C X4 (pc' := 178) at_177 (v := (1 : Int32)) (by decide) rfl ?_
            refine g_goto C X4 at_178 (pc' := 182) (by decide) (by decide) ?_
            refine g_istore C X4 (pc' := 184) at_182 (x := (1 : Int32)) rfl (l' := #[.val (.int p0), .val (.int p1), .val (.int p2), .val (.int p3), .val (.int i1), .val (.int i2), .val (.double d3), .second, .val (.double d4), .second, .val (.int (0 : Int32)), .val (.int i5), .val (.int i6), .val (.double d7), .second, .val (.double d8), .second, .val (.int (0 : Int32)), .val (.double d9), .second, .val (.double d10), .second, .val (.int (1 : Int32))]) rfl rfl ?_
            refine g_iload C X4 (pc' := 186) at_184 rfl rfl ?_
            refine g_ifY C X4 at_186 (pc' := 203) (by decide) (by decide) (by decide) ?_
            refine g_iconst C X4 (pc' := 204) at_203 (v := (0 : Int32)) (by decide) rfl ?_
            exfalso; omega
      · have c121 : ¬ (r2.toInt = 0) := c121
        refine g_dload C X2 (pc' := 126) at_124 rfl rfl ?_
        refine g_dload C X2 (pc' := 128) at_126 rfl rfl ?_
        refine g_callS C X2 (c_al l Z a0 hw h d8 d7 o4 o5) (hw _ (List.mem_of_getElem? (i := 2) rfl)) (hw _ (List.mem_of_getElem? (i := 3) rfl)) (hw _ (List.mem_of_getElem? (i := 4) rfl)) (hw _ (List.mem_of_getElem? (i := 5) rfl)) (by decide) e2 at_128 rfl pd1 [(.double d8), (.double d7)] [] rfl rfl rfl 0 rfl (by decide) (by decide) (by decide) (by decide) rfl ?_
        rintro _ T5 _ X5 ⟨r5, rfl, b5, rfl, e5⟩
        rw [List.append_nil] at X5
        show Go p.tables e below _ T5 (mkF m 131 #[.val (.int p0), .val (.int p1), .val (.int p2), .val (.int p3), .val (.int i1), .val (.int i2), .val (.double d3), .second, .val (.double d4), .second, .val (.int (0 : Int32)), .val (.int i5), .val (.int i6), .val (.double d7), .second, .val (.double d8), .second, .unset, .unset, .unset, .unset, .unset, .unset] [(.int r5)])
        refine g_if C X5 at_131 (pc' := 138) (pc'' := 134) (by decide) (by decide) rfl (fun c131 => ?_) (fun c131 => ?_)
        · have c131 : r5.toInt = 0 := c131
          refine g_iconst C X5 (pc' := 139) at_138 (v := (0 : Int32)) (by decide) rfl ?_
          refine g_istore C X5 (pc' := 141) at_139 (x := (0 : Int32)) rfl (l' := #[.val (.int p0), .val (.int p1), .val (.int p2), .val (.int p3), .val (.int i1), .val (.int i2), .val (.double d3), .second, .val (.double d4), .second, .val (.int (0 : Int32)), .val (.int i5), .val (.int i6), .val (.double d7), .second, .val (.double d8), .second, .val (.int (0 : Int32)), .unset, .unset, .unset, .unset, .unset]) rfl rfl ?_
          refine g_dload C X5 (pc' := 143) at_141 rfl rfl ?_
          refine g_ldc2D C X5 (pc' := 146) (hw _ (List.mem_of_getElem? (i := 9) rfl)) at_143 rfl ?_
          refine g_dsub C X5 (pc' := 147) at_146 nT rfl ?_
          obtain ⟨d11, e_d11⟩ : ∃ z : UInt64, z = FP.dsub d4 (4472406533629990549 : UInt64) := ⟨_, rfl⟩
          refine g_dstore C X5 (pc' := 149) at_147 (x := d11) e_d11 (l' := #[.val (.int p0), .val (.int p1), .val (.int p2), .val (.int p3), .val (.int i1), .val (.int i2), .val (.double d3), .second, .val (.double d4), .second, .val (.int (0 : Int32)), .val (.int i5), .val (.int i6), .val (.double d7), .second, .val (.double d8), .second, .val (.int (0 : Int32)), .val (.double d11), .second, .unset, .unset, .unset]) rfl rfl ?_
          refine g_dload C X5 (pc' := 151) at_149 rfl rfl ?_
          refine g_ldc2D C X5 (pc' := 154) (hw _ (List.mem_of_getElem? (i := 10) rfl)) at_151 rfl ?_
          refine g_dsub C X5 (pc' := 155) at_154 nT2 rfl ?_
          obtain ⟨d12, e_d12⟩ : ∃ z : UInt64, z = FP.dsub d4 (4476910133257361045 : UInt64) := ⟨_, rfl⟩
          refine g_dstore C X5 (pc' := 157) at_155 (x := d12) e_d12 (l' := #[.val (.int p0), .val (.int p1), .val (.int p2), .val (.int p3), .val (.int i1), .val (.int i2), .val (.double d3), .second, .val (.double d4), .second, .val (.int (0 : Int32)), .val (.int i5), .val (.int i6), .val (.double d7), .second, .val (.double d8), .second, .val (.int (0 : Int32)), .val (.double d11), .second, .val (.double d12), .second, .unset]) rfl rfl ?_
          have nji : Jvm.Free.Fl.NoNaN64 d11 := by rw [e_d11]; exact nT
          have njo : Jvm.Free.Fl.NoNaN64 d12 := by rw [e_d12]; exact nT2
          have zji : dz d11 = dz (FP.dsub d4 (4472406533629990549 : UInt64)) := by rw [e_d11]
          have zjo : dz d12 = dz (FP.dsub d4 (4476910133257361045 : UInt64)) := by rw [e_d12]
          refine g_dload C X5 (pc' := 159) at_157 rfl rfl ?_
          refine g_dload C X5 (pc' := 161) at_159 rfl rfl ?_
          refine g_callS C X5 (c_al l Z a0 hw h d11 d4 nji nT) (hw _ (List.mem_of_getElem? (i := 2) rfl)) (hw _ (List.mem_of_getElem? (i := 3) rfl)) (hw _ (List.mem_of_getElem? (i := 4) rfl)) (hw _ (List.mem_of_getElem? (i := 5) rfl)) (by decide) e5 at_161 rfl pd1 [(.double d11), (.double d4)] [] rfl rfl rfl 0 rfl (by decide) (by decide) (by decide) (by decide) rfl ?_
          rintro _ T6 _ X6 ⟨r6, rfl, b6, rfl, e6⟩
          rw [List.append_nil] at X6
          show Go p.tables e below _ T6 (mkF m 164 #[.val (.int p0), .val (.int p1), .val (.int p2), .val (.int p3), .val (.int i1), .val (.int i2), .val (.double d3), .second, .val (.double d4), .second, .val (.int (0 : Int32)), .val (.int i5), .val (.int i6), .val (.double d7), .second, .val (.double d8), .second, .val (.int (0 : Int32)), .val (.double d11), .second, .val (.double d12), .second, .unset] [(.int r6)])
          refine g_if C X6 at_164 (pc' := 181) (pc'' := 167) (by decide) (by decide) rfl (fun c164 => ?_) (fun c164 => ?_)
          · have c164 : r6.toInt = 0 := c164
            refine g_iconst C X6 (pc' := 182) at_181 (v := (0 : Int32)) (by decide) rfl ?_
            refine g_istore C X6 (pc' := 184) at_182 (x := (0 : Int32)) rfl (l' := #[.val (.int p0), .val (.int p1), .val (.int p2), .val (.int p3), .val (.int i1), .val (.int i2), .val (.double d3), .second, .val (.double d4), .second, .val (.int (0 : Int32)), .val (.int i5), .val (.int i6), .val (.double d7), .second, .val (.double d8), .second, .val (.int (0 : Int32)), .val (.double d11), .second, .val (.double d12), .second, .val (.int (0 : Int32))]) rfl rfl ?_
            refine g_iload C X6 (pc' := 186) at_184 rfl rfl ?_
            refine g_ifY C X6 at_186 (pc' := 203) (by decide) (by decide) (by decide) ?_
            refine g_iconst C X6 (pc' := 204) at_203 (v := (0 : Int32)) (by decide) rfl ?_
            exfalso; omega
          · have c164 : ¬ (r6.toInt = 0) := c164
            refine g_dload C X6 (pc' := 169) at_167 rfl rfl ?_
            refine g_dload C X6 (pc' := 171) at_169 rfl rfl ?_
            refine g_callS C X6 (c_al l Z a0 hw h d12 d4 njo nT) (hw _ (List.mem_of_getElem? (i := 2) rfl)) (hw _ (List.mem_of_getElem? (i := 3) rfl)) (hw _ (List.mem_of_getElem? (i := 4) rfl)) (hw _ (List.mem_of_getElem? (i := 5) rfl)) (by decide) e6 at_171 rfl pd1 [(.double d12), (.double d4)] [] rfl rfl rfl 0 rfl (by decide) (by decide) (by decide) (by decide) rfl ?_
            rintro _ T7 _ X7 ⟨r7, rfl, b7, rfl, e7⟩
            rw [List.append_nil] at X7
            show Go p.tables e below _ T7 (mkF m 174 #[.val (.int p0), .val (.int p1), .val (.int p2), .val (.int p3), .val (.int i1), .val (.int i2), .val (.double d3), .second, .val (.double d4), .second, .val (.int (0 : Int32)), .val (.int i5), .val (.int i6), .val (.double d7), .second, .val (.double d8), .second, .val (.int (0 : Int32)), .val (.double d11), .second, .val (.double d12), .second, .unset] [(.int r7)])
            refine g_if C X7 at_174 (pc' := 181) (pc'' := 177) (by decide) (by decide) rfl (fun c174 => ?_) (fun c174 => ?_)
            · have c174 : ¬ (r7.toInt = 0) := c174
              refine g_iconst C X7 (pc' := 182) at_181 (v := (0 : Int32)) (by decide) rfl ?_
              refine g_istore C X7 (pc' := 184) at_182 (x := (0 : Int32)) rfl (l' := #[.val (.int p0), .val (.int p1), .val (.int p2), .val (.int p3), .val (.int i1), .val (.int i2), .val (.double d3), .second, .val (.double d4), .second, .val (.int (0 : Int32)), .val (.int i5), .val (.int i6), .val (.double d7), .second, .val (.double d8), .second, .val (.int (0 : Int32)), .val (.double d11), .second, .val (.double d12), .second, .val (.int (0 : Int32))]) rfl rfl ?_
              refine g_iload C X7 (pc' := 186) at_184 rfl rfl ?_
              refine g_ifY C X7 at_186 (pc' := 203) (by decide) (by decide) (by decide) ?_
              refine g_iconst C X7 (pc' := 204) at_203 (v := (0 : Int32)) (by decide) rfl ?_
              exfalso; omega
            · have c174 : r7.toInt = 0 := Decidable.not_not.mp c174
              refine g_iconst C X7 (pc' := 178) at_177 (v := (1 : Int32)) (by decide) rfl ?_
              refine g_goto C X7 at_178 (pc' := 182) (by decide) (by decide) ?_
              refine g_istore C X7 (pc' := 184) at_182 (x := (1 : Int32)) rfl (l' := #[.val (.int p0), .val (.int p1), .val (.int p2), .val (.int p3), .val (.int i1), .val (.int i2), .val (.double d3), .second, .val (.double d4), .second, .val (.int (0 : Int32)), .val (.int i5), .val (.int i6), .val (.double d7), .second, .val (.double d8), .second, .val (.int (0 : Int32)), .val (.double d11), .second, .val (.double d12), .second, .val (.int (1 : Int32))]) rfl rfl ?_
              refine g_iload C X7 (pc' := 186) at_184 rfl rfl ?_
              refine g_ifY C X7 at_186 (pc' := 203) (by decide) (by decide) (by decide) ?_
              refine g_iconst C X7 (pc' := 204) at_203 (v := (0 : Int32)) (by decide) rfl ?_
              exfalso; omega
        · have c131 : ¬ (r5.toInt = 0) := c131
          refine g_iconst C X5 (pc' := 135) at_134 (v := (1 : Int32)) (by decide) rfl ?_
          refine g_goto C X5 at_135 (pc' := 139) (by decide) (by decide) ?_
          refine g_istore C X5 (pc' := 141) at_139 (x := (1 : Int32)) rfl (l' := #[.val (.int p0), .val (.int p1), .val (.int p2), .val (.int p3), .val (.int i1), .val (.int i2), .val (.double d3), .second, .val (.double d4), .second, .val (.int (0 : Int32)), .val (.int i5), .val (.int i6), .val (.double d7), .second, .val (.double d8), .second, .val (.int (1 : Int32)), .unset, .unset, .unset, .unset, .unset]) rfl rfl ?_
          refine g_dload C X5 (pc' := 143) at_141 rfl rfl ?_
          refine g_ldc2D C X5 (pc' := 146) (hw _ (List.mem_of_getElem? (i := 9) rfl)) at_143 rfl ?_
          refine g_dsub C X5 (pc' := 147) at_146 nT rfl ?_
          obtain ⟨d13, e_d13⟩ : ∃ z : UInt64, z = FP.dsub d4 (4472406533629990549 : UInt64) := ⟨_, rfl⟩
          refine g_dstore C X5 (pc' := 149) at_147 (x := d13) e_d13 (l' := #[.val (.int p0), .val (.int p1), .val (.int p2), .val (.int p3), .val (.int i1), .val (.int i2), .val (.double d3), .second, .val (.double d4), .second, .val (.int (0 : Int32)), .val (.int i5), .val (.int i6), .val (.double d7), .second, .val (.double d8), .second, .val (.int (1 : Int32)), .val (.double d13), .second, .unset, .unset, .unset]) rfl rfl ?_
          refine g_dload C X5 (pc' := 151) at_149 rfl rfl ?_
          refine g_ldc2D C X5 (pc' := 154) (hw _ (List.mem_of_getElem? (i := 10) rfl)) at_151 rfl ?_
          refine g_dsub C X5 (pc' := 155) at_154 nT2 rfl ?_
          obtain ⟨d14, e_d14⟩ : ∃ z : UInt64, z = FP.dsub d4 (4476910133257361045 : UInt64) := ⟨_, rfl⟩
          refine g_dstore C X5 (pc' := 157) at_155 (x := d14) e_d14 (l' := #[.val (.int p0), .val (.int p1), .val (.int p2), .val (.int p3), .val (.int i1), .val (.int i2), .val (.double d3), .second, .val (.double d4), .second, .val (.int (0 : Int32)), .val (.int i5), .val (.int i6), .val (.double d7), .second, .val (.double d8), .second, .val (.int (1 : Int32)), .val (.double d13), .second, .val (.double d14), .second, .unset]) rfl rfl ?_
          have nji : Jvm.Free.Fl.NoNaN64 d13 := by rw [e_d13]; exact nT
          have njo : Jvm.Free.Fl.NoNaN64 d14 := by rw [e_d14]; exact nT2
          have zji : dz d13 = dz (FP.dsub d4 (4472406533629990549 : UInt64)) := by rw [e_d13]
          have zjo : dz d14 = dz (FP.dsub d4 (4476910133257361045 : UInt64)) := by rw [e_d14]
          refine g_dload C X5 (pc' := 159) at_157 rfl rfl ?_
          refine g_dload C X5 (pc' := 161) at_159 rfl rfl ?_
          refine g_callS C X5 (c_al l Z a0 hw h d13 d4 nji nT) (hw _ (List.mem_of_getElem? (i := 2) rfl)) (hw _ (List.mem_of_getElem? (i := 3) rfl)) (hw _ (List.mem_of_getElem? (i := 4) rfl)) (hw _ (List.mem_of_getElem? (i := 5) rfl)) (by decide) e5 at_161 rfl pd1 [(.double d13), (.double d4)] [] rfl rfl rfl 0 rfl (by decide) (by decide) (by decide) (by decide) rfl ?_
          rintro _ T8 _ X8 ⟨r8, rfl, b8, rfl, e8⟩
          rw [List.append_nil] at X8
          show Go p.tables e below _ T8 (mkF m 164 #[.val (.int p0), .val (.int p1), .val (.int p2), .val (.int p3), .val (.int i1), .val (.int i2), .val (.double d3), .second, .val (.double d4), .second, .val (.int (0 : Int32)), .val (.int i5), .val (.int i6), .val (.double d7), .second, .val (.double d8), .second, .val (.int (1 : Int32)), .val (.double d13), .second, .val (.double d14), .second, .unset] [(.int r8)])
          refine g_if C X8 at_164 (pc' := 181) (pc'' := 167) (by decide) (by decide) rfl (fun c164 => ?_) (fun c164 => ?_)
          · have c164 : r8.toInt = 0 := c164
            refine g_iconst C X8 (pc' := 182) at_181 (v := (0 : Int32)) (by decide) rfl ?_
            refine g_istore C X8 (pc' := 184) at_182 (x := (0 : Int32)) rfl (l' := #[.val (.int p0), .val (.int p1), .val (.int p2), .val (.int p3), .val (.int i1), .val (.int i2), .val (.double d3), .second, .val (.double d4), .second, .val (.int (0 : Int32)), .val (.int i5), .val (.int i6), .val (.double d7), .second, .val (.double d8), .second, .val (.int (1 : Int32)), .val (.double d13), .second, .val (.double d14), .second, .val (.int (0 : Int32))]) rfl rfl ?_
            refine g_iload C X8 (pc' := 186) at_184 rfl rfl ?_
            refine g_ifY C X8 at_186 (pc' := 203) (by decide) (by decide) (by decide) ?_
            refine g_iconst C X8 (pc' := 204) at_203 (v := (0 : Int32)) (by decide) rfl ?_
            exfalso; omega
          · have c164 : ¬ (r8.toInt = 0) := c164
            refine g_dload C X8 (pc' := 169) at_167 rfl rfl ?_
            refine g_dload C X8 (pc' := 171) at_169 rfl rfl ?_
            refine g_callS C X8 (c_al l Z a0 hw h d14 d4 njo nT) (hw _ (List.mem_of_getElem? (i := 2) rfl)) (hw _ (List.mem_of_getElem? (i := 3) rfl)) (hw _ (List.mem_of_getElem? (i := 4) rfl)) (hw _ (List.mem_of_getElem? (i := 5) rfl)) (by decide) e8 at_171 rfl pd1 [(.double d14), (.double d4)] [] rfl rfl rfl 0 rfl (by decide) (by decide) (by decide) (by decide) rfl ?_
            rintro _ T9 _ X9 ⟨r9, rfl, b9, rfl, e9⟩
            rw [List.append_nil] at X9
            show Go p.tables e below _ T9 (mkF m 174 #[.val (.int p0), .val (.int p1), .val (.int p2), .val (.int p3), .val (.int i1), .val (.int i2), .val (.double d3), .second, .val (.double d4), .second, .val (.int (0 : Int32)), .val (.int i5), .val (.int i6), .val (.double d7), .second, .val (.double d8), .second, .val (.int (1 : Int32)), .val (.double d13), .second, .val (.double d14), .second, .unset] [(.int r9)])
            refine g_if C X9 at_174 (pc' := 181) (pc'' := 177) (by decide) (by decide) rfl (fun c174 => ?_) (fun c174 => ?_)
            · have c174 : ¬ (r9.toInt = 0) := c174
              refine g_iconst C X9 (pc' := 182) at_181 (v := (0 : Int32)) (by decide) rfl ?_
              refine g_istore C X9 (pc' := 184) at_182 (x := (0 : Int32)) rfl (l' := #[.val (.int p0), .val (.int p1), .val (.int p2), .val (.int p3), .val (.int i1), .val (.int i2), .val (.double d3), .second, .val (.double d4), .second, .val (.int (0 : Int32)), .val (.int i5), .val (.int i6), .val (.double d7), .second, .val (.double d8), .second, .val (.int (1 : Int32)), .val (.double d13), .second, .val (.double d14), .second, .val (.int (0 : Int32))]) rfl rfl ?_
              refine g_iload C X9 (pc' := 186) at_184 rfl rfl ?_
              refine g_ifY C X9 at_186 (pc' := 203) (by decide) (by decide) (by decide) ?_
              refine g_iconst C X9 (pc' := 204) at_203 (v := (0 : Int32)) (by decide) rfl ?_
              exfalso; omega
            · have c174 : r9.toInt = 0 := Decidable.not_not.mp c174
              refine g_iconst C X9 (pc' := 178) at_177 (v := (1 : Int32)) (by decide) rfl ?_
              refine g_goto C X9 at_178 (pc' := 182) (by decide) (by decide) ?_
              refine g_istore C X9 (pc' := 184) at_182 (x := (1 : Int32)) rfl (l' := #[.val (.int p0), .val (.int p1), .val (.int p2), .val (.int p3), .val (.int i1), .val (.int i2), .val (.double d3), .second, .val (.double d4), .second, .val (.int (0 : Int32)), .val (.int i5), .val (.int i6), .val (.double d7), .second, .val (.double d8), .second, .val (.int (1 : Int32)), .val (.double d13), .second, .val (.double d14), .second, .val (.int (1 : Int32))]) rfl rfl ?_
              refine g_iload C X9 (pc' := 186) at_184 rfl rfl ?_
              refine g_ifY C X9 at_186 (pc' := 203) (by decide) (by decide) (by decide) ?_
              refine g_iconst C X9 (pc' := 204) at_203 (v := (0 : Int32)) (by decide) rfl ?_
              exfalso; omega
    · have c57 : r1.toInt = 0 := Decidable.not_not.mp c57
      refine g_iconst C X1 (pc' := 61) at_60 (v := (1 : Int32)) (by decide) rfl ?_
      refine g_goto C X1 at_61 (pc' := 65) (by decide) (by decide) ?_
      refine g_istore C X1 (pc' := 67) at_65 (x := (1 : Int32)) rfl (l' := #[.val (.int p0), .val (.int p1), .val (.int p2), .val (.int p3), .val (.int i1), .val (.int i2), .val (.double d3), .second, .val (.double d4), .second, .val (.int (1 : Int32)), .unset, .unset, .unset, .unset, .unset, .unset, .unset, .unset, .unset, .unset, .unset, .unset]) rfl rfl ?_
      refine g_iloadN C X1 (pc' := 68) at_67 rfl rfl ?_
      refine g_ldcI C X1 (pc' := 70) (hw _ (List.mem_of_getElem? (i := 0) rfl)) at_68 rfl ?_
      refine g_iand C X1 (pc' := 71) at_70 rfl ?_
      refine g_bipush C X1 (pc' := 73) at_71 (v := (11 : Int32)) (by decide) rfl ?_
      refine g_irem C X1 (pc' := 74) at_73 (by decide) rfl ?_
      obtain ⟨i15, e_i15⟩ : ∃ z : Int32, z = (p2 &&& (2147483647 : Int32)) % (11 : Int32) := ⟨_, rfl⟩
      refine g_istore C X1 (pc' := 76) at_74 (x := i15) e_i15 (l' := #[.val (.int p0), .val (.int p1), .val (.int p2), .val (.int p3), .val (.int i1), .val (.int i2), .val (.double d3), .second, .val (.double d4), .second, .val (.int (1 : Int32)), .val (.int i15), .unset, .unset, .unset, .unset, .unset, .unset, .unset, .unset, .unset, .unset, .unset]) rfl rfl ?_
      have b_i15 : 0 ≤ i15.toInt ∧ i15.toInt ≤ 10 := by rw [e_i15]; exact own_r p2 11 _ rfl (by decide)
      refine g_iloadN C X1 (pc' := 77) at_76 rfl rfl ?_
      refine g_ldcI C X1 (pc' := 79) (hw _ (List.mem_of_getElem? (i := 0) rfl)) at_77 rfl ?_
      refine g_iand C X1 (pc' := 80) at_79 rfl ?_
      refine g_bipush C X1 (pc' := 82) at_80 (v := (11 : Int32)) (by decide) rfl ?_
      refine g_irem C X1 (pc' := 83) at_82 (by decide) rfl ?_
      obtain ⟨i16, e_i16⟩ : ∃ z : Int32, z = (p3 &&& (2147483647 : Int32)) % (11 : Int32) := ⟨_, rfl⟩
      refine g_istore C X1 (pc' := 85) at_83 (x := i16) e_i16 (l' := #[.val (.int p0), .val (.int p1), .val (.int p2), .val (.int p3), .val (.int i1), .val (.int i2), .val (.double d3), .second, .val (.double d4), .second, .val (.int (1 : Int32)), .val (.int i15), .val (.int i16), .unset, .unset, .unset, .unset, .unset, .unset, .unset, .unset, .unset, .unset]) rfl rfl ?_
      have b_i16 : 0 ≤ i16.toInt ∧ i16.toInt ≤ 10 := by rw [e_i16]; exact own_r p3 11 _ rfl (by decide)
      obtain ⟨o1, o2, o3, o4, o5, o6, o7, o8⟩ := own_noise b_i15 b_i16
      refine g_iload C X1 (pc' := 87) at_85 rfl rfl ?_
      refine g_i2d C X1 (pc' := 88) at_87 rfl ?_
      refine g_ldc2D C X1 (pc' := 91) (hw _ (List.mem_of_getElem? (i := 7) rfl)) at_88 rfl ?_
      refine g_ddiv C X1 (pc' := 92) at_91 o1 rfl ?_
      refine g_iload C X1 (pc' := 94) at_92 rfl rfl ?_
      refine g_i2d C X1 (pc' := 95) at_94 rfl ?_
      refine g_ldc2D C X1 (pc' := 98) (hw _ (List.mem_of_getElem? (i := 7) rfl)) at_95 rfl ?_
      refine g_ddiv C X1 (pc' := 99) at_98 o2 rfl ?_
      refine g_dmul C X1 (pc' := 100) at_99 o3 rfl ?_
      obtain ⟨d17, e_d17⟩ : ∃ z : UInt64, z = FP.dmul (FP.ddiv (FP.i2d i15) (4621819117588971520 : UInt64)) (FP.ddiv (FP.i2d i16) (4621819117588971520 : UInt64)) := ⟨_, rfl⟩
      refine g_dstore C X1 (pc' := 102) at_100 (x := d17) e_d17 (l' := #[.val (.int p0), .val (.int p1), .val (.int p2), .val (.int p3), .val (.int i1), .val (.int i2), .val (.double d3), .second, .val (.double d4), .second, .val (.int (1 : Int32)), .val (.int i15), .val (.int i16), .val (.double d17), .second, .unset, .unset, .unset, .unset, .unset, .unset, .unset, .unset]) rfl rfl ?_
      rw [← e_d17] at o3 o5 o7 o8
      refine g_iload C X1 (pc' := 104) at_102 rfl rfl ?_
      refine g_iload C X1 (pc' := 106) at_104 rfl rfl ?_
      refine g_imul C X1 (pc' := 107) at_106 rfl ?_
      refine g_i2d C X1 (pc' := 108) at_107 rfl ?_
      refine g_ldc2D C X1 (pc' := 111) (hw _ (List.mem_of_getElem? (i := 8) rfl)) at_108 rfl ?_
      refine g_ddiv C X1 (pc' := 112) at_111 o4 rfl ?_
      obtain ⟨d18, e_d18⟩ : ∃ z : UInt64, z = FP.ddiv (FP.i2d (i15 * i16)) (4636737291354636288 : UInt64) := ⟨_, rfl⟩
      refine g_dstore C X1 (pc' := 114) at_112 (x := d18) e_d18 (l' := #[.val (.int p0), .val (.int p1), .val (.int p2), .val (.int p3), .val (.int i1), .val (.int i2), .val (.double d3), .second, .val (.double d4), .second, .val (.int (1 : Int32)), .val (.int i15), .val (.int i16), .val (.double d17), .second, .val (.double d18), .second, .unset, .unset, .unset, .unset, .unset, .unset]) rfl rfl ?_
      rw [← e_d18] at o4 o6 o7 o8
      refine g_dload C X1 (pc' := 116) at_114 rfl rfl ?_
      refine g_dload C X1 (pc' := 118) at_116 rfl rfl ?_
      refine g_callS C X1 (c_al l Z a0 hw h d17 d18 o3 o6) (hw _ (List.mem_of_getElem? (i := 2) rfl)) (hw _ (List.mem_of_getElem? (i := 3) rfl)) (hw _ (List.mem_of_getElem? (i := 4) rfl)) (hw _ (List.mem_of_getElem? (i := 5) rfl)) (by decide) e1 at_118 rfl pd1 [(.double d17), (.double d18)] [] rfl rfl rfl 0 rfl (by decide) (by decide) (by decide) (by decide) rfl ?_
      rintro _ T10 _ X10 ⟨r10, rfl, b10, rfl, e10⟩
      rw [List.append_nil] at X10
      show Go p.tables e below _ T10 (mkF m 121 #[.val (.int p0), .val (.int p1), .val (.int p2), .val (.int p3), .val (.int i1), .val (.int i2), .val (.double d3), .second, .val (.double d4), .second, .val (.int (1 : Int32)), .val (.int i15), .val (.int i16), .val (.double d17), .second, .val (.double d18), .second, .unset, .unset, .unset, .unset, .unset, .unset] [(.int r10)])
      refine g_if C X10 at_121 (pc' := 138) (pc'' := 124) (by decide) (by decide) rfl (fun c121 => ?_) (fun c121 => ?_)
      · have c121 : r10.toInt = 0 := c121
        refine g_iconst C X10 (pc' := 139) at_138 (v := (0 : Int32)) (by decide) rfl ?_
        refine g_istore C X10 (pc' := 141) at_139 (x := (0 : Int32)) rfl (l' := #[.val (.int p0), .val (.int p1), .val (.int p2), .val (.int p3), .val (.int i1), .val (.int i2), .val (.double d3), .second, .val (.double d4), .second, .val (.int (1 : Int32)), .val (.int i15), .val (.int i16), .val (.double d17), .second, .val (.double d18), .second, .val (.int (0 : Int32)), .unset, .unset, .unset, .unset, .unset]) rfl rfl ?_
        refine g_dload C X10 (pc' := 143) at_141 rfl rfl ?_
        refine g_ldc2D C X10 (pc' := 146) (hw _ (List.mem_of_getElem? (i := 9) rfl)) at_143 rfl ?_
        refine g_dsub C X10 (pc' := 147) at_146 nT rfl ?_
        obtain ⟨d19, e_d19⟩ : ∃ z : UInt64, z = FP.dsub d4 (4472406533629990549 : UInt64) := ⟨_, rfl⟩
        refine g_dstore C X10 (pc' := 149) at_147 (x := d19) e_d19 (l' := #[.val (.int p0), .val (.int p1), .val (.int p2), .val (.int p3), .val (.int i1), .val (.int i2), .val (.double d3), .second, .val (.double d4), .second, .val (.int (1 : Int32)), .val (.int i15), .val (.int i16), .val (.double d17), .second, .val (.double d18), .second, .val (.int (0 : Int32)), .val (.double d19), .second, .unset, .unset, .unset]) rfl rfl ?_
        refine g_dload C X10 (pc' := 151) at_149 rfl rfl ?_
        refine g_ldc2D C X10 (pc' := 154) (hw _ (List.mem_of_getElem? (i := 10) rfl)) at_151 rfl ?_
        refine g_dsub C X10 (pc' := 155) at_154 nT2 rfl ?_
        obtain ⟨d20, e_d20⟩ : ∃ z : UInt64, z = FP.dsub d4 (4476910133257361045 : UInt64) := ⟨_, rfl⟩
        refine g_dstore C X10 (pc' := 157) at_155 (x := d20) e_d20 (l' := #[.val (.int p0), .val (.int p1), .val (.int p2), .val (.int p3), .val (.int i1), .val (.int i2), .val (.double d3), .second, .val (.double d4), .second, .val (.int (1 : Int32)), .val (.int i15), .val (.int i16), .val (.double d17), .second, .val (.double d18), .second, .val (.int (0 : Int32)), .val (.double d19), .second, .val (.double d20), .second, .unset]) rfl rfl ?_
        have nji : Jvm.Free.Fl.NoNaN64 d19 := by rw [e_d19]; exact nT
        have njo : Jvm.Free.Fl.NoNaN64 d20 := by rw [e_d20]; exact nT2
        have zji : dz d19 = dz (FP.dsub d4 (4472406533629990549 : UInt64)) := by rw [e_d19]
        have zjo : dz d20 = dz (FP.dsub d4 (4476910133257361045 : UInt64)) := by rw [e_d20]
        refine g_dload C X10 (pc' := 159) at_157 rfl rfl ?_
        refine g_dload C X10 (pc' := 161) at_159 rfl rfl ?_
        refine g_callS C X10 (c_al l Z a0 hw h d19 d4 nji nT) (hw _ (List.mem_of_getElem? (i := 2) rfl)) (hw _ (List.mem_of_getElem? (i := 3) rfl)) (hw _ (List.mem_of_getElem? (i := 4) rfl)) (hw _ (List.mem_of_getElem? (i := 5) rfl)) (by decide) e10 at_161 rfl pd1 [(.double d19), (.double d4)] [] rfl rfl rfl 0 rfl (by decide) (by decide) (by decide) (by decide) rfl ?_
        rintro _ T11 _ X11 ⟨r11, rfl, b11, rfl, e11⟩
        rw [List.append_nil] at X11
        show Go p.tables e below _ T11 (mkF m 164 #[.val (.int p0), .val (.int p1), .val (.int p2), .val (.int p3), .val (.int i1), .val (.int i2), .val (.double d3), .second, .val (.double d4), .second, .val (.int (1 : Int32)), .val (.int i15), .val (.int i16), .val (.double d17), .second, .val (.double d18), .second, .val (.int (0 : Int32)), .val (.double d19), .second, .val (.double d20), .second, .unset] [(.int r11)])
        refine g_if C X11 at_164 (pc' := 181) (pc'' := 167) (by decide) (by decide) rfl (fun c164 => ?_) (fun c164 => ?_)
        · have c164 : r11.toInt = 0 := c164
          refine g_iconst C X11 (pc' := 182) at_181 (v := (0 : Int32)) (by decide) rfl ?_
          refine g_istore C X11 (pc' := 184) at_182 (x := (0 : Int32)) rfl (l' := #[.val (.int p0), .val (.int p1), .val (.int p2), .val (.int p3), .val (.int i1), .val (.int i2), .val (.double d3), .second, .val (.double d4), .second, .val (.int (1 : Int32)), .val (.int i15), .val (.int i16), .val (.double d17), .second, .val (.double d18), .second, .val (.int (0 : Int32)), .val (.double d19), .second, .val (.double d20), .second, .val (.int (0 : Int32))]) rfl rfl ?_
          refine g_iload C X11 (pc' := 186) at_184 rfl rfl ?_
          refine g_ifN C X11 at_186 (by decide) rfl ?_
          refine g_iload C X11 (pc' := 191) at_189 rfl rfl ?_
          refine g_ifY C X11 at_191 (pc' := 203) (by decide) (by decide) (by decide) ?_
          refine g_iconst C X11 (pc' := 204) at_203 (v := (0 : Int32)) (by decide) rfl ?_
          exfalso; omega
        · have c164 : ¬ (r11.toInt = 0) := c164
          refine g_dload C X11 (pc' := 169) at_167 rfl rfl ?_
          refine g_dload C X11 (pc' := 171) at_169 rfl rfl ?_
          refine g_callS C X11 (c_al l Z a0 hw h d20 d4 njo nT) (hw _ (List.mem_of_getElem? (i := 2) rfl)) (hw _ (List.mem_of_getElem? (i := 3) rfl)) (hw _ (List.mem_of_getElem? (i := 4) rfl)) (hw _ (List.mem_of_getElem? (i := 5) rfl)) (by decide) e11 at_171 rfl pd1 [(.double d20), (.double d4)] [] rfl rfl rfl 0 rfl (by decide) (by decide) (by decide) (by decide) rfl ?_
          rintro _ T12 _ X12 ⟨r12, rfl, b12, rfl, e12⟩
          rw [List.append_nil] at X12
          show Go p.tables e below _ T12 (mkF m 174 #[.val (.int p0), .val (.int p1), .val (.int p2), .val (.int p3), .val (.int i1), .val (.int i2), .val (.double d3), .second, .val (.double d4), .second, .val (.int (1 : Int32)), .val (.int i15), .val (.int i16), .val (.double d17), .second, .val (.double d18), .second, .val (.int (0 : Int32)), .val (.double d19), .second, .val (.double d20), .second, .unset] [(.int r12)])
          refine g_if C X12 at_174 (pc' := 181) (pc'' := 177) (by decide) (by decide) rfl (fun c174 => ?_) (fun c174 => ?_)
          · have c174 : ¬ (r12.toInt = 0) := c174
            refine g_iconst C X12 (pc' := 182) at_181 (v := (0 : Int32)) (by decide) rfl ?_
            refine g_istore C X12 (pc' := 184) at_182 (x := (0 : Int32)) rfl (l' := #[.val (.int p0), .val (.int p1), .val (.int p2), .val (.int p3), .val (.int i1), .val (.int i2), .val (.double d3), .second, .val (.double d4), .second, .val (.int (1 : Int32)), .val (.int i15), .val (.int i16), .val (.double d17), .second, .val (.double d18), .second, .val (.int (0 : Int32)), .val (.double d19), .second, .val (.double d20), .second, .val (.int (0 : Int32))]) rfl rfl ?_
            refine g_iload C X12 (pc' := 186) at_184 rfl rfl ?_
            refine g_ifN C X12 at_186 (by decide) rfl ?_
            refine g_iload C X12 (pc' := 191) at_189 rfl rfl ?_
            refine g_ifY C X12 at_191 (pc' := 203) (by decide) (by decide) (by decide) ?_
            refine g_iconst C X12 (pc' := 204) at_203 (v := (0 : Int32)) (by decide) rfl ?_
            exfalso; omega
          · have c174 : r12.toInt = 0 := Decidable.not_not.mp c174
            refine g_iconst C X12 (pc' := 178) at_177 (v := (1 : Int32)) (by decide) rfl ?_
            refine g_goto C X12 at_178 (pc' := 182) (by decide) (by decide) ?_
            refine g_istore C X12 (pc' := 184) at_182 (x := (1 : Int32)) rfl (l' := #[.val (.int p0), .val (.int p1), .val (.int p2), .val (.int p3), .val (.int i1), .val (.int i2), .val (.double d3), .second, .val (.double d4), .second, .val (.int (1 : Int32)), .val (.int i15), .val (.int i16), .val (.double d17), .second, .val (.double d18), .second, .val (.int (0 : Int32)), .val (.double d19), .second, .val (.double d20), .second, .val (.int (1 : Int32))]) rfl rfl ?_
            refine g_iload C X12 (pc' := 186) at_184 rfl rfl ?_
            refine g_ifN C X12 at_186 (by decide) rfl ?_
            refine g_iload C X12 (pc' := 191) at_189 rfl rfl ?_
            refine g_ifY C X12 at_191 (pc' := 203) (by decide) (by decide) (by decide) ?_
            refine g_iconst C X12 (pc' := 204) at_203 (v := (0 : Int32)) (by decide) rfl ?_
            exfalso; omega
      · have c121 : ¬ (r10.toInt = 0) := c121
        refine g_dload C X10 (pc' := 126) at_124 rfl rfl ?_
        refine g_dload C X10 (pc' := 128) at_126 rfl rfl ?_
        refine g_callS C X10 (c_al l Z a0 hw h d18 d17 o4 o5) (hw _ (List.mem_of_getElem? (i := 2) rfl)) (hw _ (List.mem_of_getElem? (i := 3) rfl)) (hw _ (List.mem_of_getElem? (i := 4) rfl)) (hw _ (List.mem_of_getElem? (i := 5) rfl)) (by decide) e10 at_128 rfl pd1 [(.double d18), (.double d17)] [] rfl rfl rfl 0 rfl (by decide) (by decide) (by decide) (by decide) rfl ?_
        rintro _ T13 _ X13 ⟨r13, rfl, b13, rfl, e13⟩
        rw [List.append_nil] at X13
        show Go p.tables e below _ T13 (mkF m 131 #[.val (.int p0), .val (.int p1), .val (.int p2), .val (.int p3), .val (.int i1), .val (.int i2), .val (.double d3), .second, .val (.double d4), .second, .val (.int (1 : Int32)), .val (.int i15), .val (.int i16), .val (.double d17), .second, .val (.double d18), .second, .unset, .unset, .unset, .unset, .unset, .unset] [(.int r13)])
        refine g_if C X13 at_131 (pc' := 138) (pc'' := 134) (by decide) (by decide) rfl (fun c131 => ?_) (fun c131 => ?_)
        · have c131 : r13.toInt = 0 := c131
          refine g_iconst C X13 (pc' := 139) at_138 (v := (0 : Int32)) (by decide) rfl ?_
          refine g_istore C X13 (pc' := 141) at_139 (x := (0 : Int32)) rfl (l' := #[.val (.int p0), .val (.int p1), .val (.int p2), .val (.int p3), .val (.int i1), .val (.int i2), .val (.double d3), .second, .val (.double d4), .second, .val (.int (1 : Int32)), .val (.int i15), .val (.int i16), .val (.double d17), .second, .val (.double d18), .second, .val (.int (0 : Int32)), .unset, .unset, .unset, .unset, .unset]) rfl rfl ?_
          refine g_dload C X13 (pc' := 143) at_141 rfl rfl ?_
          refine g_ldc2D C X13 (pc' := 146) (hw _ (List.mem_of_getElem? (i := 9) rfl)) at_143 rfl ?_
          refine g_dsub C X13 (pc' := 147) at_146 nT rfl ?_
          obtain ⟨d21, e_d21⟩ : ∃ z : UInt64, z = FP.dsub d4 (4472406533629990549 : UInt64) := ⟨_, rfl⟩
          refine g_dstore C X13 (pc' := 149) at_147 (x := d21) e_d21 (l' := #[.val (.int p0), .val (.int p1), .val (.int p2), .val (.int p3), .val (.int i1), .val (.int i2), .val (.double d3), .second, .val (.double d4), .second, .val (.int (1 : Int32)), .val (.int i15), .val (.int i16), .val (.double d17), .second, .val (.double d18), .second, .val (.int (0 : Int32)), .val (.double d21), .second, .unset, .unset, .unset]) rfl rfl ?_
          refine g_dload C X13 (pc' := 151) at_149 rfl rfl ?_
          refine g_ldc2D C X13 (pc' := 154) (hw _ (List.mem_of_getElem? (i := 10) rfl)) at_151 rfl ?_
          refine g_dsub C X13 (pc' := 155) at_154 nT2 rfl ?_
          obtain ⟨d22, e_d22⟩ : ∃ z : UInt64, z = FP.dsub d4 (4476910133257361045 : UInt64) := ⟨_, rfl⟩
          refine g_dstore C X13 (pc' := 157) at_155 (x := d22) e_d22 (l' := #[.val (.int p0), .val (.int p1), .val (.int p2), .val (.int p3), .val (.int i1), .val (.int i2), .val (.double d3), .second, .val (.double d4), .second, .val (.int (1 : Int32)), .val (.int i15), .val (.int i16), .val (.double d17), .second, .val (.double d18), .second, .val (.int (0 : Int32)), .val (.double d21), .second, .val (.double d22), .second, .unset]) rfl rfl ?_
          have nji : Jvm.Free.Fl.NoNaN64 d21 := by rw [e_d21]; exact nT
          have njo : Jvm.Free.Fl.NoNaN64 d22 := by rw [e_d22]; exact nT2
          have zji : dz d21 = dz (FP.dsub d4 (4472406533629990549 : UInt64)) := by rw [e_d21]
          have zjo : dz d22 = dz (FP.dsub d4 (4476910133257361045 : UInt64)) := by rw [e_d22]
          refine g_dload C X13 (pc' := 159) at_157 rfl rfl ?_
          refine g_dload C X13 (pc' := 161) at_159 rfl rfl ?_
          refine g_callS C X13 (c_al l Z a0 hw h d21 d4 nji nT) (hw _ (List.mem_of_getElem? (i := 2) rfl)) (hw _ (List.mem_of_getElem? (i := 3) rfl)) (hw _ (List.mem_of_getElem? (i := 4) rfl)) (hw _ (List.mem_of_getElem? (i := 5) rfl)) (by decide) e13 at_161 rfl pd1 [(.double d21), (.double d4)] [] rfl rfl rfl 0 rfl (by decide) (by decide) (by decide) (by decide) rfl ?_
          rintro _ T14 _ X14 ⟨r14, rfl, b14, rfl, e14⟩
          rw [List.append_nil] at X14
          show Go p.tables e below _ T14 (mkF m 164 #[.val (.int p0), .val (.int p1), .val (.int p2), .val (.int p3), .val (.int i1), .val (.int i2), .val (.double d3), .second, .val (.double d4), .second, .val (.int (1 : Int32)), .val (.int i15), .val (.int i16), .val (.double d17), .second, .val (.double d18), .second, .val (.int (0 : Int32)), .val (.double d21), .second, .val (.double d22), .second, .unset] [(.int r14)])
          refine g_if C X14 at_164 (pc' := 181) (pc'' := 167) (by decide) (by decide) rfl (fun c164 => ?_) (fun c164 => ?_)
          · have c164 : r14.toInt = 0 := c164
            refine g_iconst C X14 (pc' := 182) at_181 (v := (0 : Int32)) (by decide) rfl ?_
            refine g_istore C X14 (pc' := 184) at_182 (x := (0 : Int32)) rfl (l' := #[.val (.int p0), .val (.int p1), .val (.int p2), .val (.int p3), .val (.int i1), .val (.int i2), .val (.double d3), .second, .val (.double d4), .second, .val (.int (1 : Int32)), .val (.int i15), .val (.int i16), .val (.double d17), .second, .val (.double d18), .second, .val (.int (0 : Int32)), .val (.double d21), .second, .val (.double d22), .second, .val (.int (0 : Int32))]) rfl rfl ?_
            refine g_iload C X14 (pc' := 186) at_184 rfl rfl ?_
            refine g_ifN C X14 at_186 (by decide) rfl ?_
            refine g_iload C X14 (pc' := 191) at_189 rfl rfl ?_
            refine g_ifY C X14 at_191 (pc' := 203) (by decide) (by decide) (by decide) ?_
            refine g_iconst C X14 (pc' := 204) at_203 (v := (0 : Int32)) (by decide) rfl ?_
            exfalso; omega
          · have c164 : ¬ (r14.toInt = 0) := c164
            refine g_dload C X14 (pc' := 169) at_167 rfl rfl ?_
            refine g_dload C X14 (pc' := 171) at_169 rfl rfl ?_
            refine g_callS C X14 (c_al l Z a0 hw h d22 d4 njo nT) (hw _ (List.mem_of_getElem? (i := 2) rfl)) (hw _ (List.mem_of_getElem? (i := 3) rfl)) (hw _ (List.mem_of_getElem? (i := 4) rfl)) (hw _ (List.mem_of_getElem? (i := 5) rfl)) (by decide) e14 at_171 rfl pd1 [(.double d22), (.double d4)] [] rfl rfl rfl 0 rfl (by decide) (by decide) (by decide) (by decide) rfl ?_
            rintro _ T15 _ X15 ⟨r15, rfl, b15, rfl, e15⟩
            rw [List.append_nil] at X15
            show Go p.tables e below _ T15 (mkF m 174 #[.val (.int p0), .val (.int p1), .val (.int p2), .val (.int p3), .val (.int i1), .val (.int i2), .val (.double d3), .second, .val (.double d4), .second, .val (.int (1 : Int32)), .val (.int i15), .val (.int i16), .val (.double d17), .second, .val (.double d18), .second, .val (.int (0 : Int32)), .val (.double d21), .second, .val (.double d22), .second, .unset] [(.int r15)])
            refine g_if C X15 at_174 (pc' := 181) (pc'' := 177) (by decide) (by decide) rfl (fun c174 => ?_) (fun c174 => ?_)
            · have c174 : ¬ (r15.toInt = 0) := c174
              refine g_iconst C X15 (pc' := 182) at_181 (v := (0 : Int32)) (by decide) rfl ?_
              refine g_istore C X15 (pc' := 184) at_182 (x := (0 : Int32)) rfl (l' := #[.val (.int p0), .val (.int p1), .val (.int p2), .val (.int p3), .val (.int i1), .val (.int i2), .val (.double d3), .second, .val (.double d4), .second, .val (.int (1 : Int32)), .val (.int i15), .val (.int i16), .val (.double d17), .second, .val (.double d18), .second, .val (.int (0 : Int32)), .val (.double d21), .second, .val (.double d22), .second, .val (.int (0 : Int32))]) rfl rfl ?_
              refine g_iload C X15 (pc' := 186) at_184 rfl rfl ?_
              refine g_ifN C X15 at_186 (by decide) rfl ?_
              refine g_iload C X15 (pc' := 191) at_189 rfl rfl ?_
              refine g_ifY C X15 at_191 (pc' := 203) (by decide) (by decide) (by decide) ?_
              refine g_iconst C X15 (pc' := 204) at_203 (v := (0 : Int32)) (by decide) rfl ?_
              exfalso; omega
            · have c174 : r15.toInt = 0 := Decidable.not_not.mp c174
              refine g_iconst C X15 (pc' := 178) at_177 (v := (1 : Int32)) (by decide) rfl ?_
              refine g_goto C X15 at_178 (pc' := 182) (by decide) (by decide) ?_
              refine g_istore C X15 (pc' := 184) at_182 (x := (1 : Int32)) rfl (l' := #[.val (.int p0), .val (.int p1), .val (.int p2), .val (.int p3), .val (.int i1), .val (.int i2), .val (.double d3), .second, .val (.double d4), .second, .val (.int (1 : Int32)), .val (.int i15), .val (.int i16), .val (.double d17), .second, .val (.double d18), .second, .val (.int (0 : Int32)), .val (.double d21), .second, .val (.double d22), .second, .val (.int (1 : Int32))]) rfl rfl ?_
              refine g_iload C X15 (pc' := 186) at_184 rfl rfl ?_
              refine g_ifN C X15 at_186 (by decide) rfl ?_
              refine g_iload C X15 (pc' := 191) at_189 rfl rfl ?_
              refine g_ifY C X15 at_191 (pc' := 203) (by decide) (by decide) (by decide) ?_
              refine g_iconst C X15 (pc' := 204) at_203 (v := (0 : Int32)) (by decide) rfl ?_
              exfalso; omega
        · have c131 : ¬ (r13.toInt = 0) := c131
          refine g_iconst C X13 (pc' := 135) at_134 (v := (1 : Int32)) (by decide) rfl ?_
          refine g_goto C X13 at_135 (pc' := 139) (by decide) (by decide) ?_
          refine g_istore C X13 (pc' := 141) at_139 (x := (1 : Int32)) rfl (l' := #[.val (.int p0), .val (.int p1), .val (.int p2), .val (.int p3), .val (.int i1), .val (.int i2), .val (.double d3), .second, .val (.double d4), .second, .val (.int (1 : Int32)), .val (.int i15), .val (.int i16), .val (.double d17), .second, .val (.double d18), .second, .val (.int (1 : Int32)), .unset, .unset, .unset, .unset, .unset]) rfl rfl ?_
          refine g_dload C X13 (pc' := 143) at_141 rfl rfl ?_
          refine g_ldc2D C X13 (pc' := 146) (hw _ (List.mem_of_getElem? (i := 9) rfl)) at_143 rfl ?_
          refine g_dsub C X13 (pc' := 147) at_146 nT rfl ?_
          obtain ⟨d23, e_d23⟩ : ∃ z : UInt64, z = FP.dsub d4 (4472406533629990549 : UInt64) := ⟨_, rfl⟩
          refine g_dstore C X13 (pc' := 149) at_147 (x := d23) e_d23 (l' := #[.val (.int p0), .val (.int p1), .val (.int p2), .val (.int p3), .val (.int i1), .val (.int i2), .val (.double d3), .second, .val (.double d4), .second, .val (.int (1 : Int32)), .val (.int i15), .val (.int i16), .val (.double d17), .second, .val (.double d18), .second, .val (.int (1 : Int32)), .val (.double d23), .second, .unset, .unset, .unset]) rfl rfl ?_
          refine g_dload C X13 (pc' := 151) at_149 rfl rfl ?_
          refine g_ldc2D C X13 (pc' := 154) (hw _ (List.mem_of_getElem? (i := 10) rfl)) at_151 rfl ?_
          refine g_dsub C X13 (pc' := 155) at_154 nT2 rfl ?_
          obtain ⟨d24, e_d24⟩ : ∃ z : UInt64, z = FP.dsub d4 (4476910133257361045 : UInt64) := ⟨_, rfl⟩
          refine g_dstore C X13 (pc' := 157) at_155 (x := d24) e_d24 (l' := #[.val (.int p0), .val (.int p1), .val (.int p2), .val (.int p3), .val (.int i1), .val (.int i2), .val (.double d3), .second, .val (.double d4), .second, .val (.int (1 : Int32)), .val (.int i15), .val (.int i16), .val (.double d17), .second, .val (.double d18), .second, .val (.int (1 : Int32)), .val (.double d23), .second, .val (.double d24), .second, .unset]) rfl rfl ?_
          have nji : Jvm.Free.Fl.NoNaN64 d23 := by rw [e_d23]; exact nT
          have njo : Jvm.Free.Fl.NoNaN64 d24 := by rw [e_d24]; exact nT2
          have zji : dz d23 = dz (FP.dsub d4 (4472406533629990549 : UInt64)) := by rw [e_d23]
          have zjo : dz d24 = dz (FP.dsub d4 (4476910133257361045 : UInt64)) := by rw [e_d24]
          refine g_dload C X13 (pc' := 159) at_157 rfl rfl ?_
          refine g_dload C X13 (pc' := 161) at_159 rfl rfl ?_
          refine g_callS C X13 (c_al l Z a0 hw h d23 d4 nji nT) (hw _ (List.mem_of_getElem? (i := 2) rfl)) (hw _ (List.mem_of_getElem? (i := 3) rfl)) (hw _ (List.mem_of_getElem? (i := 4) rfl)) (hw _ (List.mem_of_getElem? (i := 5) rfl)) (by decide) e13 at_161 rfl pd1 [(.double d23), (.double d4)] [] rfl rfl rfl 0 rfl (by decide) (by decide) (by decide) (by decide) rfl ?_
          rintro _ T16 _ X16 ⟨r16, rfl, b16, rfl, e16⟩
          rw [List.append_nil] at X16
          show Go p.tables e below _ T16 (mkF m 164 #[.val (.int p0), .val (.int p1), .val (.int p2), .val (.int p3), .val (.int i1), .val (.int i2), .val (.double d3), .second, .val (.double d4), .second, .val (.int (1 : Int32)), .val (.int i15), .val (.int i16), .val (.double d17), .second, .val (.double d18), .second, .val (.int (1 : Int32)), .val (.double d23), .second, .val (.double d24), .second, .unset] [(.int r16)])
          refine g_if C X16 at_164 (pc' := 181) (pc'' := 167) (by decide) (by decide) rfl (fun c164 => ?_) (fun c164 => ?_)
          · have c164 : r16.toInt = 0 := c164
            refine g_iconst C X16 (pc' := 182) at_181 (v := (0 : Int32)) (by decide) rfl ?_
            refine g_istore C X16 (pc' := 184) at_182 (x := (0 : Int32)) rfl (l' := #[.val (.int p0), .val (.int p1), .val (.int p2), .val (.int p3), .val (.int i1), .val (.int i2), .val (.double d3), .second, .val (.double d4), .second, .val (.int (1 : Int32)), .val (.int i15), .val (.int i16), .val (.double d17), .second, .val (.double d18), .second, .val (.int (1 : Int32)), .val (.double d23), .second, .val (.double d24), .second, .val (.int (0 : Int32))]) rfl rfl ?_
            refine g_iload C X16 (pc' := 186) at_184 rfl rfl ?_
            refine g_ifN C X16 at_186 (by decide) rfl ?_
            refine g_iload C X16 (pc' := 191) at_189 rfl rfl ?_
            refine g_ifN C X16 at_191 (by decide) rfl ?_
            refine g_iload C X16 (pc' := 196) at_194 rfl rfl ?_
            refine g_ifY C X16 at_196 (pc' := 203) (by decide) (by decide) (by decide) ?_
            refine g_iconst C X16 (pc' := 204) at_203 (v := (0 : Int32)) (by decide) rfl ?_
            exfalso; omega
          · have c164 : ¬ (r16.toInt = 0) := c164
            refine g_dload C X16 (pc' := 169) at_167 rfl rfl ?_
            refine g_dload C X16 (pc' := 171) at_169 rfl rfl ?_
            refine g_callS C X16 (c_al l Z a0 hw h d24 d4 njo nT) (hw _ (List.mem_of_getElem? (i := 2) rfl)) (hw _ (List.mem_of_getElem? (i := 3) rfl)) (hw _ (List.mem_of_getElem? (i := 4) rfl)) (hw _ (List.mem_of_getElem? (i := 5) rfl)) (by decide) e16 at_171 rfl pd1 [(.double d24), (.double d4)] [] rfl rfl rfl 0 rfl (by decide) (by decide) (by decide) (by decide) rfl ?_
            rintro _ T17 _ X17 ⟨r17, rfl, b17, rfl, e17⟩
            rw [List.append_nil] at X17
            show Go p.tables e below _ T17 (mkF m 174 #[.val (.int p0), .val (.int p1), .val (.int p2), .val (.int p3), .val (.int i1), .val (.int i2), .val (.double d3), .second, .val (.double d4), .second, .val (.int (1 : Int32)), .val (.int i15), .val (.int i16), .val (.double d17), .second, .val (.double d18), .second, .val (.int (1 : Int32)), .val (.double d23), .second, .val (.double d24), .second, .unset] [(.int r17)])
            refine g_if C X17 at_174 (pc' := 181) (pc'' := 177) (by decide) (by decide) rfl (fun c174 => ?_) (fun c174 => ?_)
            · have c174 : ¬ (r17.toInt = 0) := c174
              refine g_iconst C X17 (pc' := 182) at_181 (v := (0 : Int32)) (by decide) rfl ?_
              refine g_istore C X17 (pc' := 184) at_182 (x := (0 : Int32)) rfl (l' := #[.val (.int p0), .val (.int p1), .val (.int p2), .val (.int p3), .val (.int i1), .val (.int i2), .val (.double d3), .second, .val (.double d4), .second, .val (.int (1 : Int32)), .val (.int i15), .val (.int i16), .val (.double d17), .second, .val (.double d18), .second, .val (.int (1 : Int32)), .val (.double d23), .second, .val (.double d24), .second, .val (.int (0 : Int32))]) rfl rfl ?_
              refine g_iload C X17 (pc' := 186) at_184 rfl rfl ?_
              refine g_ifN C X17 at_186 (by decide) rfl ?_
              refine g_iload C X17 (pc' := 191) at_189 rfl rfl ?_
              refine g_ifN C X17 at_191 (by decide) rfl ?_
              refine g_iload C X17 (pc' := 196) at_194 rfl rfl ?_
              refine g_ifY C X17 at_196 (pc' := 203) (by decide) (by decide) (by decide) ?_
              refine g_iconst C X17 (pc' := 204) at_203 (v := (0 : Int32)) (by decide) rfl ?_
              exfalso; omega
            · have c174 : r17.toInt = 0 := Decidable.not_not.mp c174
              refine g_iconst C X17 (pc' := 178) at_177 (v := (1 : Int32)) (by decide) rfl ?_
              refine g_goto C X17 at_178 (pc' := 182) (by decide) (by decide) ?_
              refine g_istore C X17 (pc' := 184) at_182 (x := (1 : Int32)) rfl (l' := #[.val (.int p0), .val (.int p1), .val (.int p2), .val (.int p3), .val (.int i1), .val (.int i2), .val (.double d3), .second, .val (.double d4), .second, .val (.int (1 : Int32)), .val (.int i15), .val (.int i16), .val (.double d17), .second, .val (.double d18), .second, .val (.int (1 : Int32)), .val (.double d23), .second, .val (.double d24), .second, .val (.int (1 : Int32))]) rfl rfl ?_
              refine g_iload C X17 (pc' := 186) at_184 rfl rfl ?_
              refine g_ifN C X17 at_186 (by decide) rfl ?_
              refine g_iload C X17 (pc' := 191) at_189 rfl rfl ?_
              refine g_ifN C X17 at_191 (by decide) rfl ?_
              refine g_iload C X17 (pc' := 196) at_194 rfl rfl ?_
              refine g_ifN C X17 at_196 (by decide) rfl ?_
              refine g_iconst C X17 (pc' := 200) at_199 (v := (1 : Int32)) (by decide) rfl ?_
              refine g_goto C X17 at_200 (pc' := 204) (by decide) (by decide) ?_
              exact g_zreturn C X17 at_204 (w := 1) (by decide) ⟨rfl, Fr.nil n0⟩ (by decide) (by decide)
  · have c49 : ¬ (i1.toInt < i2.toInt) := c49
    refine g_iconst C X1 (pc' := 53) at_52 (v := (1 : Int32)) (by decide) rfl ?_
    refine g_goto C X1 at_53 (pc' := 57) (by decide) (by decide) ?_
    refine g_icmp C X1 at_57 (pc' := 64) (pc'' := 60) (by decide) (by decide) rfl (fun c57 => ?_) (fun c57 => ?_)
    · have c57 : ¬ (r1.toInt = 1) := c57
      refine g_iconst C X1 (pc' := 65) at_64 (v := (0 : Int32)) (by decide) rfl ?_
      refine g_istore C X1 (pc' := 67) at_65 (x := (0 : Int32)) rfl (l' := #[.val (.int p0), .val (.int p1), .val (.int p2), .val (.int p3), .val (.int i1), .val (.int i2), .val (.double d3), .second, .val (.double d4), .second, .val (.int (0 : Int32)), .unset, .unset, .unset, .unset, .unset, .unset, .unset, .unset, .unset, .unset, .unset, .unset]) rfl rfl ?_
      refine g_iloadN C X1 (pc' := 68) at_67 rfl rfl ?_
      refine g_ldcI C X1 (pc' := 70) (hw _ (List.mem_of_getElem? (i := 0) rfl)) at_68 rfl ?_
      refine g_iand C X1 (pc' := 71) at_70 rfl ?_
      refine g_bipush C X1 (pc' := 73) at_71 (v := (11 : Int32)) (by decide) rfl ?_
      refine g_irem C X1 (pc' := 74) at_73 (by decide) rfl ?_
      obtain ⟨i25, e_i25⟩ : ∃ z : Int32, z = (p2 &&& (2147483647 : Int32)) % (11 : Int32) := ⟨_, rfl⟩
      refine g_istore C X1 (pc' := 76) at_74 (x := i25) e_i25 (l' := #[.val (.int p0), .val (.int p1), .val (.int p2), .val (.int p3), .val (.int i1), .val (.int i2), .val (.double d3), .second, .val (.double d4), .second, .val (.int (0 : Int32)), .val (.int i25), .unset, .unset, .unset, .unset, .unset, .unset, .unset, .unset, .unset, .unset, .unset]) rfl rfl ?_
      have b_i25 : 0 ≤ i25.toInt ∧ i25.toInt ≤ 10 := by rw [e_i25]; exact own_r p2 11 _ rfl (by decide)
      refine g_iloadN C X1 (pc' := 77) at_76 rfl rfl ?_
      refine g_ldcI C X1 (pc' := 79) (hw _ (List.mem_of_getElem? (i := 0) rfl)) at_77 rfl ?_
      refine g_iand C X1 (pc' := 80) at_79 rfl ?_
      refine g_bipush C X1 (pc' := 82) at_80 (v := (11 : Int32)) (by decide) rfl ?_
      refine g_irem C X1 (pc' := 83) at_82 (by decide) rfl ?_
      obtain ⟨i26, e_i26⟩ : ∃ z : Int32, z = (p3 &&& (2147483647 : Int32)) % (11 : Int32) := ⟨_, rfl⟩
      refine g_istore C X1 (pc' := 85) at_83 (x := i26) e_i26 (l' := #[.val (.int p0), .val (.int p1), .val (.int p2), .val (.int p3), .val (.int i1), .val (.int i2), .val (.double d3), .second, .val (.double d4), .second, .val (.int (0 : Int32)), .val (.int i25), .val (.int i26), .unset, .unset, .unset, .unset, .unset, .unset, .unset, .unset, .unset, .unset]) rfl rfl ?_
      have b_i26 : 0 ≤ i26.toInt ∧ i26.toInt ≤ 10 := by rw [e_i26]; exact own_r p3 11 _ rfl (by decide)
      obtain ⟨o1, o2, o3, o4, o5, o6, o7, o8⟩ := own_noise b_i25 b_i26
      refine g_iload C X1 (pc' := 87) at_85 rfl rfl ?_
      refine g_i2d C X1 (pc' := 88) at_87 rfl ?_
      refine g_ldc2D C X1 (pc' := 91) (hw _ (List.mem_of_getElem? (i := 7) rfl)) at_88 rfl ?_
      refine g_ddiv C X1 (pc' := 92) at_91 o1 rfl ?_
      refine g_iload C X1 (pc' := 94) at_92 rfl rfl ?_
      refine g_i2d C X1 (pc' := 95) at_94 rfl ?_
      refine g_ldc2D C X1 (pc' := 98) (hw _ (List.mem_of_getElem? (i := 7) rfl)) at_95 rfl ?_
      refine g_ddiv C X1 (pc' := 99) at_98 o2 rfl ?_
      refine g_dmul C X1 (pc' := 100) at_99 o3 rfl ?_
      obtain ⟨d27, e_d27⟩ : ∃ z : UInt64, z = FP.dmul (FP.ddiv (FP.i2d i25) (4621819117588971520 : UInt64)) (FP.ddiv (FP.i2d i26) (4621819117588971520 : UInt64)) := ⟨_, rfl⟩
      refine g_dstore C X1 (pc' := 102) at_100 (x := d27) e_d27 (l' := #[.val (.int p0), .val (.int p1), .val (.int p2), .val (.int p3), .val (.int i1), .val (.int i2), .val (.double d3), .second, .val (.double d4), .second, .val (.int (0 : Int32)), .val (.int i25), .val (.int i26), .val (.double d27), .second, .unset, .unset, .unset, .unset, .unset, .unset, .unset, .unset]) rfl rfl ?_
      rw [← e_d27] at o3 o5 o7 o8
      refine g_iload C X1 (pc' := 104) at_102 rfl rfl ?_
      refine g_iload C X1 (pc' := 106) at_104 rfl rfl ?_
      refine g_imul C X1 (pc' := 107) at_106 rfl ?_
      refine g_i2d C X1 (pc' := 108) at_107 rfl ?_
      refine g_ldc2D C X1 (pc' := 111) (hw _ (List.mem_of_getElem? (i := 8) rfl)) at_108 rfl ?_
      refine g_ddiv C X1 (pc' := 112) at_111 o4 rfl ?_
      obtain ⟨d28, e_d28⟩ : ∃ z : UInt64, z = FP.ddiv (FP.i2d (i25 * i26)) (4636737291354636288 : UInt64) := ⟨_, rfl⟩
      refine g_dstore C X1 (pc' := 114) at_112 (x := d28) e_d28 (l' := #[.val (.int p0), .val (.int p1), .val (.int p2), .val (.int p3), .val (.int i1), .val (.int i2), .val (.double d3), .second, .val (.double d4), .second, .val (.int (0 : Int32)), .val (.int i25), .val (.int i26), .val (.double d27), .second, .val (.double d28), .second, .unset, .unset, .unset, .unset, .unset, .unset]) rfl rfl ?_
      rw [← e_d28] at o4 o6 o7 o8
      refine g_dload C X1 (pc' := 116) at_114 rfl rfl ?_
      refine g_dload C X1 (pc' := 118) at_116 rfl rfl ?_
      refine g_callS C X1 (c_al l Z a0 hw h d27 d28 o3 o6) (hw _ (List.mem_of_getElem? (i := 2) rfl)) (hw _ (List.mem_of_getElem? (i := 3) rfl)) (hw _ (List.mem_of_getElem? (i := 4) rfl)) (hw _ (List.mem_of_getElem? (i := 5) rfl)) (by decide) e1 at_118 rfl pd1 [(.double d27), (.double d28)] [] rfl rfl rfl 0 rfl (by decide) (by decide) (by decide) (by decide) rfl ?_
      rintro _ T18 _ X18 ⟨r18, rfl, b18, rfl, e18⟩
      rw [List.append_nil] at X18
      show Go p.tables e below _ T18 (mkF m 121 #[.val (.int p0), .val (.int p1), .val (.int p2), .val (.int p3), .val (.int i1), .val (.int i2), .val (.double d3), .second, .val (.double d4), .second, .val (.int (0 : Int32)), .val (.int i25), .val (.int i26), .val (.double d27), .second, .val (.double d28), .second, .unset, .unset, .unset, .unset, .unset, .unset] [(.int r18)])
      refine g_if C X18 at_121 (pc' := 138) (pc'' := 124) (by decide) (by decide) rfl (fun c121 => ?_) (fun c121 => ?_)
      · have c121 : r18.toInt = 0 := c121
        refine g_iconst C X18 (pc' := 139) at_138 (v := (0 : Int32)) (by decide) rfl ?_
        refine g_istore C X18 (pc' := 141) at_139 (x := (0 : Int32)) rfl (l' := #[.val (.int p0), .val (.int p1), .val (.int p2), .val (.int p3), .val (.int i1), .val (.int i2), .val (.double d3), .second, .val (.double d4), .second, .val (.int (0 : Int32)), .val (.int i25), .val (.int i26), .val (.double d27), .second, .val (.double d28), .second, .val (.int (0 : Int32)), .unset, .unset, .unset, .unset, .unset]) rfl rfl ?_
        refine g_dload C X18 (pc' := 143) at_141 rfl rfl ?_
        refine g_ldc2D C X18 (pc' := 146) (hw _ (List.mem_of_getElem? (i := 9) rfl)) at_143 rfl ?_
        refine g_dsub C X18 (pc' := 147) at_146 nT rfl ?_
        obtain ⟨d29, e_d29⟩ : ∃ z : UInt64, z = FP.dsub d4 (4472406533629990549 : UInt64) := ⟨_, rfl⟩
        refine g_dstore C X18 (pc' := 149) at_147 (x := d29) e_d29 (l' := #[.val (.int p0), .val (.int p1), .val (.int p2), .val (.int p3), .val (.int i1), .val (.int i2), .val (.double d3), .second, .val (.double d4), .second, .val (.int (0 : Int32)), .val (.int i25), .val (.int i26), .val (.double d27), .second, .val (.double d28), .second, .val (.int (0 : Int32)), .val (.double d29), .second, .unset, .unset, .unset]) rfl rfl ?_
        refine g_dload C X18 (pc' := 151) at_149 rfl rfl ?_
        refine g_ldc2D C X18 (pc' := 154) (hw _ (List.mem_of_getElem? (i := 10) rfl)) at_151 rfl ?_
        refine g_dsub C X18 (pc' := 155) at_154 nT2 rfl ?_
        obtain ⟨d30, e_d30⟩ : ∃ z : UInt64, z = FP.dsub d4 (4476910133257361045 : UInt64) := ⟨_, rfl⟩
        refine g_dstore C X18 (pc' := 157) at_155 (x := d30) e_d30 (l' := #[.val (.int p0), .val (.int p1), .val (.int p2), .val (.int p3), .val (.int i1), .val (.int i2), .val (.double d3), .second, .val (.double d4), .second, .val (.int (0 : Int32)), .val (.int i25), .val (.int i26), .val (.double d27), .second, .val (.double d28), .second, .val (.int (0 : Int32)), .val (.double d29), .second, .val (.double d30), .second, .unset]) rfl rfl ?_
        have nji : Jvm.Free.Fl.NoNaN64 d29 := by rw [e_d29]; exact nT
        have njo : Jvm.Free.Fl.NoNaN64 d30 := by rw [e_d30]; exact nT2
        have zji : dz d29 = dz (FP.dsub d4 (4472406533629990549 : UInt64)) := by rw [e_d29]
        have zjo : dz d30 = dz (FP.dsub d4 (4476910133257361045 : UInt64)) := by rw [e_d30]
        refine g_dload C X18 (pc' := 159) at_157 rfl rfl ?_
        refine g_dload C X18 (pc' := 161) at_159 rfl rfl ?_
        refine g_callS C X18 (c_al l Z a0 hw h d29 d4 nji nT) (hw _ (List.mem_of_getElem? (i := 2) rfl)) (hw _ (List.mem_of_getElem? (i := 3) rfl)) (hw _ (List.mem_of_getElem? (i := 4) rfl)) (hw _ (List.mem_of_getElem? (i := 5) rfl)) (by decide) e18 at_161 rfl pd1 [(.double d29), (.double d4)] [] rfl rfl rfl 0 rfl (by decide) (by decide) (by decide) (by decide) rfl ?_
        rintro _ T19 _ X19 ⟨r19, rfl, b19, rfl, e19⟩
        rw [List.append_nil] at X19
        show Go p.tables e below _ T19 (mkF m 164 #[.val (.int p0), .val (.int p1), .val (.int p2), .val (.int p3), .val (.int i1), .val (.int i2), .val (.double d3), .second, .val (.double d4), .second, .val (.int (0 : Int32)), .val (.int i25), .val (.int i26), .val (.double d27), .second, .val (.double d28), .second, .val (.int (0 : Int32)), .val (.double d29), .second, .val (.double d30), .second, .unset] [(.int r19)])
        refine g_if C X19 at_164 (pc' := 181) (pc'' := 167) (by decide) (by decide) rfl (fun c164 => ?_) (fun c164 => ?_)
        · have c164 : r19.toInt = 0 := c164
          refine g_iconst C X19 (pc' := 182) at_181 (v := (0 : Int32)) (by decide) rfl ?_
          refine g_istore C X19 (pc' := 184) at_182 (x := (0 : Int32)) rfl (l' := #[.val (.int p0), .val (.int p1), .val (.int p2), .val (.int p3), .val (.int i1), .val (.int i2), .val (.double d3), .second, .val (.double d4), .second, .val (.int (0 : Int32)), .val (.int i25), .val (.int i26), .val (.double d27), .second, .val (.double d28), .second, .val (.int (0 : Int32)), .val (.double d29), .second, .val (.double d30), .second, .val (.int (0 : Int32))]) rfl rfl ?_
          refine g_iload C X19 (pc' := 186) at_184 rfl rfl ?_
          refine g_ifY C X19 at_186 (pc' := 203) (by decide) (by decide) (by decide) ?_
          refine g_iconst C X19 (pc' := 204) at_203 (v := (0 : Int32)) (by decide) rfl ?_
          exfalso; omega
        · have c164 : ¬ (r19.toInt = 0) := c164
          refine g_dload C X19 (pc' := 169) at_167 rfl rfl ?_
          refine g_dload C X19 (pc' := 171) at_169 rfl rfl ?_
          refine g_callS C X19 (c_al l Z a0 hw h d30 d4 njo nT) (hw _ (List.mem_of_getElem? (i := 2) rfl)) (hw _ (List.mem_of_getElem? (i := 3) rfl)) (hw _ (List.mem_of_getElem? (i := 4) rfl)) (hw _ (List.mem_of_getElem? (i := 5) rfl)) (by decide) e19 at_171 rfl pd1 [(.double d30), (.double d4)] [] rfl rfl rfl 0 rfl (by decide) (by decide) (by decide) (by decide) rfl ?_
          rintro _ T20 _ X20 ⟨r20, rfl, b20, rfl, e20⟩
          rw [List.append_nil] at X20
          show Go p.tables e below _ T20 (mkF m 174 #[.val (.int p0), .val (.int p1), .val (.int p2), .val (.int p3), .val (.int i1), .val (.int i2), .val (.double d3), .second, .val (.double d4), .second, .val (.int (0 : Int32)), .val (.int i25), .val (.int i26), .val (.double d27), .second, .val (.double d28), .second, .val (.int (0 : Int32)), .val (.double d29), .second, .val (.double d30), .second, .unset] [(.int r20)])
          refine g_if C X20 at_174 (pc' := 181) (pc'' := 177) (by decide) (by decide) rfl (fun c174 => ?_) (fun c174 => ?_)
          · have c174 : ¬ (r20.toInt = 0) := c174
            refine g_iconst C X20 (pc' := 182) at_181 (v := (0 : Int32)) (by decide) rfl ?_
            refine g_istore C X20 (pc' := 184) at_182 (x := (0 : Int32)) rfl (l' := #[.val (.int p0), .val (.int p1), .val (.int p2), .val (.int p3), .val (.int i1), .val (.int i2), .val (.double d3), .second, .val (.double d4), .second, .val (.int (0 : Int32)), .val (.int i25), .val (.int i26), .val (.double d27), .second, .val (.double d28), .second, .val (.int (0 : Int32)), .val (.double d29), .second, .val (.double d30), .second, .val (.int (0 : Int32))]) rfl rfl ?_
            refine g_iload C X20 (pc' := 186) at_184 rfl rfl ?_
            refine g_ifY C X20 at_186 (pc' := 203) (by decide) (by decide) (by decide) ?_
            refine g_iconst C X20 (pc' := 204) at_203 (v := (0 : Int32)) (by decide) rfl ?_
            exfalso; omega
          · have c174 : r20.toInt = 0 := Decidable.not_not.mp c174
            refine g_iconst C X20 (pc' := 178) at_177 (v := (1 : Int32)) (by decide) rfl ?_
            refine g_goto C X20 at_178 (pc' := 182) (by decide) (by decide) ?_
            refine g_istore C X20 (pc' := 184) at_182 (x := (1 : Int32)) rfl (l' := #[.val (.int p0), .val (.int p1), .val (.int p2), .val (.int p3), .val (.int i1), .val (.int i2), .val (.double d3), .second, .val (.double d4), .second, .val (.int (0 : Int32)), .val (.int i25), .val (.int i26), .val (.double d27), .second, .val (.double d28), .second, .val (.int (0 : Int32)), .val (.double d29), .second, .val (.double d30), .second, .val (.int (1 : Int32))]) rfl rfl ?_
            refine g_iload C X20 (pc' := 186) at_184 rfl rfl ?_
            refine g_ifY C X20 at_186 (pc' := 203) (by decide) (by decide) (by decide) ?_
            refine g_iconst C X20 (pc' := 204) at_203 (v := (0 : Int32)) (by decide) rfl ?_
            exfalso; omega
      · have c121 : ¬ (r18.toInt = 0) := c121
        refine g_dload C X18 (pc' := 126) at_124 rfl rfl ?_
        refine g_dload C X18 (pc' := 128) at_126 rfl rfl ?_
        refine g_callS C X18 (c_al l Z a0 hw h d28 d27 o4 o5) (hw _ (List.mem_of_getElem? (i := 2) rfl)) (hw _ (List.mem_of_getElem? (i := 3) rfl)) (hw _ (List.mem_of_getElem? (i := 4) rfl)) (hw _ (List.mem_of_getElem? (i := 5) rfl)) (by decide) e18 at_128 rfl pd1 [(.double d28), (.double d27)] [] rfl rfl rfl 0 rfl (by decide) (by decide) (by decide) (by decide) rfl ?_
        rintro _ T21 _ X21 ⟨r21, rfl, b21, rfl, e21⟩
        rw [List.append_nil] at X21
        show Go p.tables e below _ T21 (mkF m 131 #[.val (.int p0), .val (.int p1), .val (.int p2), .val (.int p3), .val (.int i1), .val (.int i2), .val (.double d3), .second, .val (.double d4), .second, .val (.int (0 : Int32)), .val (.int i25), .val (.int i26), .val (.double d27), .second, .val (.double d28), .second, .unset, .unset, .unset, .unset, .unset, .unset] [(.int r21)])
        refine g_if C X21 at_131 (pc' := 138) (pc'' := 134) (by decide) (by decide) rfl (fun c131 => ?_) (fun c131 => ?_)
        · have c131 : r21.toInt = 0 := c131
          refine g_iconst C X21 (pc' := 139) at_138 (v := (0 : Int32)) (by decide) rfl ?_
          refine g_istore C X21 (pc' := 141) at_139 (x := (0 : Int32)) rfl (l' := #[.val (.int p0), .val (.int p1), .val (.int p2), .val (.int p3), .val (.int i1), .val (.int i2), .val (.double d3), .second, .val (.double d4), .second, .val (.int (0 : Int32)), .val (.int i25), .val (.int i26), .val (.double d27), .second, .val (.double d28), .second, .val (.int (0 : Int32)), .unset, .unset, .unset, .unset, .unset]) rfl rfl ?_
          refine g_dload C X21 (pc' := 143) at_141 rfl rfl ?_
          refine g_ldc2D C X21 (pc' := 146) (hw _ (List.mem_of_getElem? (i := 9) rfl)) at_143 rfl ?_
          refine g_dsub C X21 (pc' := 147) at_146 nT rfl ?_
          obtain ⟨d31, e_d31⟩ : ∃ z : UInt64, z = FP.dsub d4 (4472406533629990549 : UInt64) := ⟨_, rfl⟩
          refine g_dstore C X21 (pc' := 149) at_147 (x := d31) e_d31 (l' := #[.val (.int p0), .val (.int p1), .val (.int p2), .val (.int p3), .val (.int i1), .val (.int i2), .val (.double d3), .second, .val (.double d4), .second, .val (.int (0 : Int32)), .val (.int i25), .val (.int i26), .val (.double d27), .second, .val (.double d28), .second, .val (.int (0 : Int32)), .val (.double d31), .second, .unset, .unset, .unset]) rfl rfl ?_
          refine g_dload C X21 (pc' := 151) at_149 rfl rfl ?_
          refine g_ldc2D C X21 (pc' := 154) (hw _ (List.mem_of_getElem? (i := 10) rfl)) at_151 rfl ?_
          refine g_dsub C X21 (pc' := 155) at_154 nT2 rfl ?_
          obtain ⟨d32, e_d32⟩ : ∃ z : UInt64, z = FP.dsub d4 (4476910133257361045 : UInt64) := ⟨_, rfl⟩
          refine g_dstore C X21 (pc' := 157) at_155 (x := d32) e_d32 (l' := #[.val (.int p0), .val (.int p1), .val (.int p2), .val (.int p3), .val (.int i1), .val (.int i2), .val (.double d3), .second, .val (.double d4), .second, .val (.int (0 : Int32)), .val (.int i25), .val (.int i26), .val (.double d27), .second, .val (.double d28), .second, .val (.int (0 : Int32)), .val (.double d31), .second, .val (.double d32), .second, .unset]) rfl rfl ?_
          have nji : Jvm.Free.Fl.NoNaN64 d31 := by rw [e_d31]; exact nT
          have njo : Jvm.Free.Fl.NoNaN64 d32 := by rw [e_d32]; exact nT2
          have zji : dz d31 = dz (FP.dsub d4 (4472406533629990549 : UInt64)) := by rw [e_d31]
          have zjo : dz d32 = dz (FP.dsub d4 (4476910133257361045 : UInt64)) := by rw [e_d32]
          refine g_dload C X21 (pc' := 159) at_157 rfl rfl ?_
          refine g_dload C X21 (pc' := 161) at_159 rfl rfl ?_
          refine g_callS C X21 (c_al l Z a0 hw h d31 d4 nji nT) (hw _ (List.mem_of_getElem? (i := 2) rfl)) (hw _ (List.mem_of_getElem? (i := 3) rfl)) (hw _ (List.mem_of_getElem? (i := 4) rfl)) (hw _ (List.mem_of_getElem? (i := 5) rfl)) (by decide) e21 at_161 rfl pd1 [(.double d31), (.double d4)] [] rfl rfl rfl 0 rfl (by decide) (by decide) (by decide) (by decide) rfl ?_
          rintro _ T22 _ X22 ⟨r22, rfl, b22, rfl, e22⟩
          rw [List.append_nil] at X22
          show Go p.tables e below _ T22 (mkF m 164 #[.val (.int p0), .val (.int p1), .val (.int p2), .val (.int p3), .val (.int i1), .val (.int i2), .val (.double d3), .second, .val (.double d4), .second, .val (.int (0 : Int32)), .val (.int i25), .val (.int i26), .val (.double d27), .second, .val (.double d28), .second, .val (.int (0 : Int32)), .val (.double d31), .second, .val (.double d32), .second, .unset] [(.int r22)])
          refine g_if C X22 at_164 (pc' := 181) (pc'' := 167) (by decide) (by decide) rfl (fun c164 => ?_) (fun c164 => ?_)
          · have c164 : r22.toInt = 0 := c164
            refine g_iconst C X22 (pc' := 182) at_181 (v := (0 : Int32)) (by decide) rfl ?_
            refine g_istore C X22 (pc' := 184) at_182 (x := (0 : Int32)) rfl (l' := #[.val (.int p0), .val (.int p1), .val (.int p2), .val (.int p3), .val (.int i1), .val (.int i2), .val (.double d3), .second, .val (.double d4), .second, .val (.int (0 : Int32)), .val (.int i25), .val (.int i26), .val (.double d27), .second, .val (.double d28), .second, .val (.int (0 : Int32)), .val (.double d31), .second, .val (.double d32), .second, .val (.int (0 : Int32))]) rfl rfl ?_
            refine g_iload C X22 (pc' := 186) at_184 rfl rfl ?_
            refine g_ifY C X22 at_186 (pc' := 203) (by decide) (by decide) (by decide) ?_
            refine g_iconst C X22 (pc' := 204) at_203 (v := (0 : Int32)) (by decide) rfl ?_
            exfalso; omega
          · have c164 : ¬ (r22.toInt = 0) := c164
            refine g_dload C X22 (pc' := 169) at_167 rfl rfl ?_
            refine g_dload C X22 (pc' := 171) at_169 rfl rfl ?_
            refine g_callS C X22 (c_al l Z a0 hw h d32 d4 njo nT) (hw _ (List.mem_of_getElem? (i := 2) rfl)) (hw _ (List.mem_of_getElem? (i := 3) rfl)) (hw _ (List.mem_of_getElem? (i := 4) rfl)) (hw _ (List.mem_of_getElem? (i := 5) rfl)) (by decide) e22 at_171 rfl pd1 [(.double d32), (.double d4)] [] rfl rfl rfl 0 rfl (by decide) (by decide) (by decide) (by decide) rfl ?_
            rintro _ T23 _ X23 ⟨r23, rfl, b23, rfl, e23⟩
            rw [List.append_nil] at X23
            show Go p.tables e below _ T23 (mkF m 174 #[.val (.int p0), .val (.int p1), .val (.int p2), .val (.int p3), .val (.int i1), .val (.int i2), .val (.double d3), .second, .val (.double d4), .second, .val (.int (0 : Int32)), .val (.int i25), .val (.int i26), .val (.double d27), .second, .val (.double d28), .second, .val (.int (0 : Int32)), .val (.double d31), .second, .val (.double d32), .second, .unset] [(.int r23)])
            refine g_if C X23 at_174 (pc' := 181) (pc'' := 177) (by decide) (by decide) rfl (fun c174 => ?_) (fun c174 => ?_)
            · have c174 : ¬ (r23.toInt = 0) := c174
              refine g_iconst C X23 (pc' := 182) at_181 (v := (0 : Int32)) (by decide) rfl ?_
              refine g_istore C X23 (pc' := 184) at_182 (x := (0 : Int32)) rfl (l' := #[.val (.int p0), .val (.int p1), .val (.int p2), .val (.int p3), .val (.int i1), .val (.int i2), .val (.double d3), .second, .val (.double d4), .second, .val (.int (0 : Int32)), .val (.int i25), .val (.int i26), .val (.double d27), .second, .val (.double d28), .second, .val (.int (0 : Int32)), .val (.double d31), .second, .val (.double d32), .second, .val (.int (0 : Int32))]) rfl rfl ?_
              refine g_iload C X23 (pc' := 186) at_184 rfl rfl ?_
              refine g_ifY C X23 at_186 (pc' := 203) (by decide) (by decide) (by decide) ?_
              refine g_iconst C X23 (pc' := 204) at_203 (v := (0 : Int32)) (by decide) rfl ?_
              exfalso; omega
            · have c174 : r23.toInt = 0 := Decidable.not_not.mp c174
              refine g_iconst C X23 (pc' := 178) at_177 (v := (1 : Int32)) (by decide) rfl ?_
              refine g_goto C X23 at_178 (pc' := 182) (by decide) (by decide) ?_
              refine g_istore C X23 (pc' := 184) at_182 (x := (1 : Int32)) rfl (l' := #[.val (.int p0), .val (.int p1), .val (.int p2), .val (.int p3), .val (.int i1), .val (.int i2), .val (.double d3), .second, .val (.double d4), .second, .val (.int (0 : Int32)), .val (.int i25), .val (.int i26), .val (.double d27), .second, .val (.double d28), .second, .val (.int (0 : Int32)), .val (.double d31), .second, .val (.double d32), .second, .val (.int (1 : Int32))]) rfl rfl ?_
              refine g_iload C X23 (pc' := 186) at_184 rfl rfl ?_
              refine g_ifY C X23 at_186 (pc' := 203) (by decide) (by decide) (by decide) ?_
              refine g_iconst C X23 (pc' := 204) at_203 (v := (0 : Int32)) (by decide) rfl ?_
              exfalso; omega
        · have c131 : ¬ (r21.toInt = 0) := c131
          refine g_iconst C X21 (pc' := 135) at_134 (v := (1 : Int32)) (by decide) rfl ?_
          refine g_goto C X21 at_135 (pc' := 139) (by decide) (by decide) ?_
          refine g_istore C X21 (pc' := 141) at_139 (x := (1 : Int32)) rfl (l' := #[.val (.int p0), .val (.int p1), .val (.int p2), .val (.int p3), .val (.int i1), .val (.int i2), .val (.double d3), .second, .val (.double d4), .second, .val (.int (0 : Int32)), .val (.int i25), .val (.int i26), .val (.double d27), .second, .val (.double d28), .second, .val (.int (1 : Int32)), .unset, .unset, .unset, .unset, .unset]) rfl rfl ?_
          refine g_dload C X21 (pc' := 143) at_141 rfl rfl ?_
          refine g_ldc2D C X21 (pc' := 146) (hw _ (List.mem_of_getElem? (i := 9) rfl)) at_143 rfl ?_
          refine g_dsub C X21 (pc' := 147) at_146 nT rfl ?_
          obtain ⟨d33, e_d33⟩ : ∃ z : UInt64, z = FP.dsub d4 (4472406533629990549 : UInt64) := ⟨_, rfl⟩
          refine g_dstore C X21 (pc' := 149) at_147 (x := d33) e_d33 (l' := #[.val (.int p0), .val (.int p1), .val (.int p2), .val (.int p3), .val (.int i1), .val (.int i2), .val (.double d3), .second, .val (.double d4), .second, .val (.int (0 : Int32)), .val (.int i25), .val (.int i26), .val (.double d27), .second, .val (.double d28), .second, .val (.int (1 : Int32)), .val (.double d33), .second, .unset, .unset, .unset]) rfl rfl ?_
          refine g_dload C X21 (pc' := 151) at_149 rfl rfl ?_
          refine g_ldc2D C X21 (pc' := 154) (hw _ (List.mem_of_getElem? (i := 10) rfl)) at_151 rfl ?_
          refine g_dsub C X21 (pc' := 155) at_154 nT2 rfl ?_
          obtain ⟨d34, e_d34⟩ : ∃ z : UInt64, z = FP.dsub d4 (4476910133257361045 : UInt64) := ⟨_, rfl⟩
          refine g_dstore C X21 (pc' := 157) at_155 (x := d34) e_d34 (l' := #[.val (.int p0), .val (.int p1), .val (.int p2), .val (.int p3), .val (.int i1), .val (.int i2), .val (.double d3), .second, .val (.double d4), .second, .val (.int (0 : Int32)), .val (.int i25), .val (.int i26), .val (.double d27), .second, .val (.double d28), .second, .val (.int (1 : Int32)), .val (.double d33), .second, .val (.double d34), .second, .unset]) rfl rfl ?_
          have nji : Jvm.Free.Fl.NoNaN64 d33 := by rw [e_d33]; exact nT
          have njo : Jvm.Free.Fl.NoNaN64 d34 := by rw [e_d34]; exact nT2
          have zji : dz d33 = dz (FP.dsub d4 (4472406533629990549 : UInt64)) := by rw [e_d33]
          have zjo : dz d34 = dz (FP.dsub d4 (4476910133257361045 : UInt64)) := by rw [e_d34]
          refine g_dload C X21 (pc' := 159) at_157 rfl rfl ?_
          refine g_dload C X21 (pc' := 161) at_159 rfl rfl ?_
          refine g_callS C X21 (c_al l Z a0 hw h d33 d4 nji nT) (hw _ (List.mem_of_getElem? (i := 2) rfl)) (hw _ (List.mem_of_getElem? (i := 3) rfl)) (hw _ (List.mem_of_getElem? (i := 4) rfl)) (hw _ (List.mem_of_getElem? (i := 5) rfl)) (by decide) e21 at_161 rfl pd1 [(.double d33), (.double d4)] [] rfl rfl rfl 0 rfl (by decide) (by decide) (by decide) (by decide) rfl ?_
          rintro _ T24 _ X24 ⟨r24, rfl, b24, rfl, e24⟩
          rw [List.append_nil] at X24
          show Go p.tables e below _ T24 (mkF m 164 #[.val (.int p0), .val (.int p1), .val (.int p2), .val (.int p3), .val (.int i1), .val (.int i2), .val (.double d3), .second, .val (.double d4), .second, .val (.int (0 : Int32)), .val (.int i25), .val (.int i26), .val (.double d27), .second, .val (.double d28), .second, .val (.int (1 : Int32)), .val (.double d33), .second, .val (.double d34), .second, .unset] [(.int r24)])
          refine g_if C X24 at_164 (pc' := 181) (pc'' := 167) (by decide) (by decide) rfl (fun c164 => ?_) (fun c164 => ?_)
          · have c164 : r24.toInt = 0 := c164
            refine g_iconst C X24 (pc' := 182) at_181 (v := (0 : Int32)) (by decide) rfl ?_
            refine g_istore C X24 (pc' := 184) at_182 (x := (0 : Int32)) rfl (l' := #[.val (.int p0), .val (.int p1), .val (.int p2), .val (.int p3), .val (.int i1), .val (.int i2), .val (.double d3), .second, .val (.double d4), .second, .val (.int (0 : Int32)), .val (.int i25), .val (.int i26), .val (.double d27), .second, .val (.double d28), .second, .val (.int (1 : Int32)), .val (.double d33), .second, .val (.double d34), .second, .val (.int (0 : Int32))]) rfl rfl ?_
            refine g_iload C X24 (pc' := 186) at_184 rfl rfl ?_
            refine g_ifY C X24 at_186 (pc' := 203) (by decide) (by decide) (by decide) ?_
            refine g_iconst C X24 (pc' := 204) at_203 (v := (0 : Int32)) (by decide) rfl ?_
            exfalso; omega
          · have c164 : ¬ (r24.toInt = 0) := c164
            refine g_dload C X24 (pc' := 169) at_167 rfl rfl ?_
            refine g_dload C X24 (pc' := 171) at_169 rfl rfl ?_
            refine g_callS C X24 (c_al l Z a0 hw h d34 d4 njo nT) (hw _ (List.mem_of_getElem? (i := 2) rfl)) (hw _ (List.mem_of_getElem? (i := 3) rfl)) (hw _ (List.mem_of_getElem? (i := 4) rfl)) (hw _ (List.mem_of_getElem? (i := 5) rfl)) (by decide) e24 at_171 rfl pd1 [(.double d34), (.double d4)] [] rfl rfl rfl 0 rfl (by decide) (by decide) (by decide) (by decide) rfl ?_
            rintro _ T25 _ X25 ⟨r25, rfl, b25, rfl, e25⟩
            rw [List.append_nil] at X25
            show Go p.tables e below _ T25 (mkF m 174 #[.val (.int p0), .val (.int p1), .val (.int p2), .val (.int p3), .val (.int i1), .val (.int i2), .val (.double d3), .second, .val (.double d4), .second, .val (.int (0 : Int32)), .val (.int i25), .val (.int i26), .val (.double d27), .second, .val (.double d28), .second, .val (.int (1 : Int32)), .val (.double d33), .second, .val (.double d34), .second, .unset] [(.int r25)])
            refine g_if C X25 at_174 (pc' := 181) (pc'' := 177) (by decide) (by decide) rfl (fun c174 => ?_) (fun c174 => ?_)
            · have c174 : ¬ (r25.toInt = 0) := c174
              refine g_iconst C X25 (pc' := 182) at_181 (v := (0 : Int32)) (by decide) rfl ?_
              refine g_istore C X25 (pc' := 184) at_182 (x := (0 : Int32)) rfl (l' := #[.val (.int p0), .val (.int p1), .val (.int p2), .val (.int p3), .val (.int i1), .val (.int i2), .val (.double d3), .second, .val (.double d4), .second, .val (.int (0 : Int32)), .val (.int i25), .val (.int i26), .val (.double d27), .second, .val (.double d28), .second, .val (.int (1 : Int32)), .val (.double d33), .second, .val (.double d34), .second, .val (.int (0 : Int32))]) rfl rfl ?_
              refine g_iload C X25 (pc' := 186) at_184 rfl rfl ?_
              refine g_ifY C X25 at_186 (pc' := 203) (by decide) (by decide) (by decide) ?_
              refine g_iconst C X25 (pc' := 204) at_203 (v := (0 : Int32)) (by decide) rfl ?_
              exfalso; omega
            · have c174 : r25.toInt = 0 := Decidable.not_not.mp c174
              refine g_iconst C X25 (pc' := 178) at_177 (v := (1 : Int32)) (by decide) rfl ?_
              refine g_goto C X25 at_178 (pc' := 182) (by decide) (by decide) ?_
              refine g_istore C X25 (pc' := 184) at_182 (x := (1 : Int32)) rfl (l' := #[.val (.int p0), .val (.int p1), .val (.int p2), .val (.int p3), .val (.int i1), .val (.int i2), .val (.double d3), .second, .val (.double d4), .second, .val (.int (0 : Int32)), .val (.int i25), .val (.int i26), .val (.double d27), .second, .val (.double d28), .second, .val (.int (1 : Int32)), .val (.double d33), .second, .val (.double d34), .second, .val (.int (1 : Int32))]) rfl rfl ?_
              refine g_iload C X25 (pc' := 186) at_184 rfl rfl ?_
              refine g_ifY C X25 at_186 (pc' := 203) (by decide) (by decide) (by decide) ?_
              refine g_iconst C X25 (pc' := 204) at_203 (v := (0 : Int32)) (by decide) rfl ?_
              exfalso; omega
    · have c57 : r1.toInt = 1 := Decidable.not_not.mp c57
      refine g_iconst C X1 (pc' := 61) at_60 (v := (1 : Int32)) (by decide) rfl ?_
      refine g_goto C X1 at_61 (pc' := 65) (by decide) (by decide) ?_
      refine g_istore C X1 (pc' := 67) at_65 (x := (1 : Int32)) rfl (l' := #[.val (.int p0), .val (.int p1), .val (.int p2), .val (.int p3), .val (.int i1), .val (.int i2), .val (.double d3), .second, .val (.double d4), .second, .val (.int (1 : Int32)), .unset, .unset, .unset, .unset, .unset, .unset, .unset, .unset, .unset, .unset, .unset, .unset]) rfl rfl ?_
      refine g_iloadN C X1 (pc' := 68) at_67 rfl rfl ?_
      refine g_ldcI C X1 (pc' := 70) (hw _ (List.mem_of_getElem? (i := 0) rfl)) at_68 rfl ?_
      refine g_iand C X1 (pc' := 71) at_70 rfl ?_
      refine g_bipush C X1 (pc' := 73) at_71 (v := (11 : Int32)) (by decide) rfl ?_
      refine g_irem C X1 (pc' := 74) at_73 (by decide) rfl ?_
      obtain ⟨i35, e_i35⟩ : ∃ z : Int32, z = (p2 &&& (2147483647 : Int32)) % (11 : Int32) := ⟨_, rfl⟩
      refine g_istore C X1 (pc' := 76) at_74 (x := i35) e_i35 (l' := #[.val (.int p0), .val (.int p1), .val (.int p2), .val (.int p3), .val (.int i1), .val (.int i2), .val (.double d3), .second, .val (.double d4), .second, .val (.int (1 : Int32)), .val (.int i35), .unset, .unset, .unset, .unset, .unset, .unset, .unset, .unset, .unset, .unset, .unset]) rfl rfl ?_
      have b_i35 : 0 ≤ i35.toInt ∧ i35.toInt ≤ 10 := by rw [e_i35]; exact own_r p2 11 _ rfl (by decide)
      refine g_iloadN C X1 (pc' := 77) at_76 rfl rfl ?_
      refine g_ldcI C X1 (pc' := 79) (hw _ (List.mem_of_getElem? (i := 0) rfl)) at_77 rfl ?_
      refine g_iand C X1 (pc' := 80) at_79 rfl ?_
      refine g_bipush C X1 (pc' := 82) at_80 (v := (11 : Int32)) (by decide) rfl ?_
      refine g_irem C X1 (pc' := 83) at_82 (by decide) rfl ?_
      obtain ⟨i36, e_i36⟩ : ∃ z : Int32, z = (p3 &&& (2147483647 : Int32)) % (11 : Int32) := ⟨_, rfl⟩
      refine g_istore C X1 (pc' := 85) at_83 (x := i36) e_i36 (l' := #[.val (.int p0), .val (.int p1), .val (.int p2), .val (.int p3), .val (.int i1), .val (.int i2), .val (.double d3), .second, .val (.double d4), .second, .val (.int (1 : Int32)), .val (.int i35), .val (.int i36), .unset, .unset, .unset, .unset, .unset, .unset, .unset, .unset, .unset, .unset]) rfl rfl ?_
      have b_i36 : 0 ≤ i36.toInt ∧ i36.toInt ≤ 10 := by rw [e_i36]; exact own_r p3 11 _ rfl (by decide)
      obtain ⟨o1, o2, o3, o4, o5, o6, o7, o8⟩ := own_noise b_i35 b_i36
      refine g_iload C X1 (pc' := 87) at_85 rfl rfl ?_
      refine g_i2d C X1 (pc' := 88) at_87 rfl ?_
      refine g_ldc2D C X1 (pc' := 91) (hw _ (List.mem_of_getElem? (i := 7) rfl)) at_88 rfl ?_
      refine g_ddiv C X1 (pc' := 92) at_91 o1 rfl ?_
      refine g_iload C X1 (pc' := 94) at_92 rfl rfl ?_
      refine g_i2d C X1 (pc' := 95) at_94 rfl ?_
      refine g_ldc2D C X1 (pc' := 98) (hw _ (List.mem_of_getElem? (i := 7) rfl)) at_95 rfl ?_
      refine g_ddiv C X1 (pc' := 99) at_98 o2 rfl ?_
      refine g_dmul C X1 (pc' := 100) at_99 o3 rfl ?_
      obtain ⟨d37, e_d37⟩ : ∃ z : UInt64, z = FP.dmul (FP.ddiv (FP.i2d i35) (4621819117588971520 : UInt64)) (FP.ddiv (FP.i2d i36) (4621819117588971520 : UInt64)) := ⟨_, rfl⟩
      refine g_dstore C X1 (pc' := 102) at_100 (x := d37) e_d37 (l' := #[.val (.int p0), .val (.int p1), .val (.int p2), .val (.int p3), .val (.int i1), .val (.int i2), .val (.double d3), .second, .val (.double d4), .second, .val (.int (1 : Int32)), .val (.int i35), .val (.int i36), .val (.double d37), .second, .unset, .unset, .unset, .unset, .unset, .unset, .unset, .unset]) rfl rfl ?_
      rw [← e_d37] at o3 o5 o7 o8
      refine g_iload C X1 (pc' := 104) at_102 rfl rfl ?_
      refine g_iload C X1 (pc' := 106) at_104 rfl rfl ?_
      refine g_imul C X1 (pc' := 107) at_106 rfl ?_
      refine g_i2d C X1 (pc' := 108) at_107 rfl ?_
      refine g_ldc2D C X1 (pc' := 111) (hw _ (List.mem_of_getElem? (i := 8) rfl)) at_108 rfl ?_
      refine g_ddiv C X1 (pc' := 112) at_111 o4 rfl ?_
      obtain ⟨d38, e_d38⟩ : ∃ z : UInt64, z = FP.ddiv (FP.i2d (i35 * i36)) (4636737291354636288 : UInt64) := ⟨_, rfl⟩
      refine g_dstore C X1 (pc' := 114) at_112 (x := d38) e_d38 (l' := #[.val (.int p0), .val (.int p1), .val (.int p2), .val (.int p3), .val (.int i1), .val (.int i2), .val (.double d3), .second, .val (.double d4), .second, .val (.int (1 : Int32)), .val (.int i35), .val (.int i36), .val (.double d37), .second, .val (.double d38), .second, .unset, .unset, .unset, .unset, .unset, .unset]) rfl rfl ?_
      rw [← e_d38] at o4 o6 o7 o8
      refine g_dload C X1 (pc' := 116) at_114 rfl rfl ?_
      refine g_dload C X1 (pc' := 118) at_116 rfl rfl ?_
      refine g_callS C X1 (c_al l Z a0 hw h d37 d38 o3 o6) (hw _ (List.mem_of_getElem? (i := 2) rfl)) (hw _ (List.mem_of_getElem? (i := 3) rfl)) (hw _ (List.mem_of_getElem? (i := 4) rfl)) (hw _ (List.mem_of_getElem? (i := 5) rfl)) (by decide) e1 at_118 rfl pd1 [(.double d37), (.double d38)] [] rfl rfl rfl 0 rfl (by decide) (by decide) (by decide) (by decide) rfl ?_
      rintro _ T26 _ X26 ⟨r26, rfl, b26, rfl, e26⟩
      rw [List.append_nil] at X26
      show Go p.tables e below _ T26 (mkF m 121 #[.val (.int p0), .val (.int p1), .val (.int p2), .val (.int p3), .val (.int i1), .val (.int i2), .val (.double d3), .second, .val (.double d4), .second, .val (.int (1 : Int32)), .val (.int i35), .val (.int i36), .val (.double d37), .second, .val (.double d38), .second, .unset, .unset, .unset, .unset, .unset, .unset] [(.int r26)])
      refine g_if C X26 at_121 (pc' := 138) (pc'' := 124) (by decide) (by decide) rfl (fun c121 => ?_) (fun c121 => ?_)
      · have c121 : r26.toInt = 0 := c121
        refine g_iconst C X26 (pc' := 139) at_138 (v := (0 : Int32)) (by decide) rfl ?_
        refine g_istore C X26 (pc' := 141) at_139 (x := (0 : Int32)) rfl (l' := #[.val (.int p0), .val (.int p1), .val (.int p2), .val (.int p3), .val (.int i1), .val (.int i2), .val (.double d3), .second, .val (.double d4), .second, .val (.int (1 : Int32)), .val (.int i35), .val (.int i36), .val (.double d37), .second, .val (.double d38), .second, .val (.int (0 : Int32)), .unset, .unset, .unset, .unset, .unset]) rfl rfl ?_
        refine g_dload C X26 (pc' := 143) at_141 rfl rfl ?_
        refine g_ldc2D C X26 (pc' := 146) (hw _ (List.mem_of_getElem? (i := 9) rfl)) at_143 rfl ?_
        refine g_dsub C X26 (pc' := 147) at_146 nT rfl ?_
        obtain ⟨d39, e_d39⟩ : ∃ z : UInt64, z = FP.dsub d4 (4472406533629990549 : UInt64) := ⟨_, rfl⟩
        refine g_dstore C X26 (pc' := 149) at_147 (x := d39) e_d39 (l' := #[.val (.int p0), .val (.int p1), .val (.int p2), .val (.int p3), .val (.int i1), .val (.int i2), .val (.double d3), .second, .val (.double d4), .second, .val (.int (1 : Int32)), .val (.int i35), .val (.int i36), .val (.double d37), .second, .val (.double d38), .second, .val (.int (0 : Int32)), .val (.double d39), .second, .unset, .unset, .unset]) rfl rfl ?_
        refine g_dload C X26 (pc' := 151) at_149 rfl rfl ?_
        refine g_ldc2D C X26 (pc' := 154) (hw _ (List.mem_of_getElem? (i := 10) rfl)) at_151 rfl ?_
        refine g_dsub C X26 (pc' := 155) at_154 nT2 rfl ?_
        obtain ⟨d40, e_d40⟩ : ∃ z : UInt64, z = FP.dsub d4 (4476910133257361045 : UInt64) := ⟨_, rfl⟩
        refine g_dstore C X26 (pc' := 157) at_155 (x := d40) e_d40 (l' := #[.val (.int p0), .val (.int p1), .val (.int p2), .val (.int p3), .val (.int i1), .val (.int i2), .val (.double d3), .second, .val (.double d4), .second, .val (.int (1 : Int32)), .val (.int i35), .val (.int i36), .val (.double d37), .second, .val (.double d38), .second, .val (.int (0 : Int32)), .val (.double d39), .second, .val (.double d40), .second, .unset]) rfl rfl ?_
        have nji : Jvm.Free.Fl.NoNaN64 d39 := by rw [e_d39]; exact nT
        have njo : Jvm.Free.Fl.NoNaN64 d40 := by rw [e_d40]; exact nT2
        have zji : dz d39 = dz (FP.dsub d4 (4472406533629990549 : UInt64)) := by rw [e_d39]
        have zjo : dz d40 = dz (FP.dsub d4 (4476910133257361045 : UInt64)) := by rw [e_d40]
        refine g_dload C X26 (pc' := 159) at_157 rfl rfl ?_
        refine g_dload C X26 (pc' := 161) at_159 rfl rfl ?_
        refine g_callS C X26 (c_al l Z a0 hw h d39 d4 nji nT) (hw _ (List.mem_of_getElem? (i := 2) rfl)) (hw _ (List.mem_of_getElem? (i := 3) rfl)) (hw _ (List.mem_of_getElem? (i := 4) rfl)) (hw _ (List.mem_of_getElem? (i := 5) rfl)) (by decide) e26 at_161 rfl pd1 [(.double d39), (.double d4)] [] rfl rfl rfl 0 rfl (by decide) (by decide) (by decide) (by decide) rfl ?_
        rintro _ T27 _ X27 ⟨r27, rfl, b27, rfl, e27⟩
        rw [List.append_nil] at X27
        show Go p.tables e below _ T27 (mkF m 164 #[.val (.int p0), .val (.int p1), .val (.int p2), .val (.int p3), .val (.int i1), .val (.int i2), .val (.double d3), .second, .val (.double d4), .second, .val (.int (1 : Int32)), .val (.int i35), .val (.int i36), .val (.double d37), .second, .val (.double d38), .second, .val (.int (0 : Int32)), .val (.double d39), .second, .val (.double d40), .second, .unset] [(.int r27)])
        refine g_if C X27 at_164 (pc' := 181) (pc'' := 167) (by decide) (by decide) rfl (fun c164 => ?_) (fun c164 => ?_)
        · have c164 : r27.toInt = 0 := c164
          refine g_iconst C X27 (pc' := 182) at_181 (v := (0 : Int32)) (by decide) rfl ?_
          refine g_istore C X27 (pc' := 184) at_182 (x := (0 : Int32)) rfl (l' := #[.val (.int p0), .val (.int p1), .val (.int p2), .val (.int p3), .val (.int i1), .val (.int i2), .val (.double d3), .second, .val (.double d4), .second, .val (.int (1 : Int32)), .val (.int i35), .val (.int i36), .val (.double d37), .second, .val (.double d38), .second, .val (.int (0 : Int32)), .val (.double d39), .second, .val (.double d40), .second, .val (.int (0 : Int32))]) rfl rfl ?_
          refine g_iload C X27 (pc' := 186) at_184 rfl rfl ?_
          refine g_ifN C X27 at_186 (by decide) rfl ?_
          refine g_iload C X27 (pc' := 191) at_189 rfl rfl ?_
          refine g_ifY C X27 at_191 (pc' := 203) (by decide) (by decide) (by decide) ?_
          refine g_iconst C X27 (pc' := 204) at_203 (v := (0 : Int32)) (by decide) rfl ?_
          exfalso; omega
        · have c164 : ¬ (r27.toInt = 0) := c164
          refine g_dload C X27 (pc' := 169) at_167 rfl rfl ?_
          refine g_dload C X27 (pc' := 171) at_169 rfl rfl ?_
          refine g_callS C X27 (c_al l Z a0 hw h d40 d4 njo nT) (hw _ (List.mem_of_getElem? (i := 2) rfl)) (hw _ (List.mem_of_getElem? (i := 3) rfl)) (hw _ (List.mem_of_getElem? (i := 4) rfl)) (hw _ (List.mem_of_getElem? (i := 5) rfl)) (by decide) e27 at_171 rfl pd1 [(.double d40), (.double d4)] [] rfl rfl rfl 0 rfl (by decide) (by decide) (by decide) (by decide) rfl ?_
          rintro _ T28 _ X28 ⟨r28, rfl, b28, rfl, e28⟩
          rw [List.append_nil] at X28
          show Go p.tables e below _ T28 (mkF m 174 #[.val (.int p0), .val (.int p1), .val (.int p2), .val (.int p3), .val (.int i1), .val (.int i2), .val (.double d3), .second, .val (.double d4), .second, .val (.int (1 : Int32)), .val (.int i35), .val (.int i36), .val (.double d37), .second, .val (.double d38), .second, .val (.int (0 : Int32)), .val (.double d39), .second, .val (.double d40), .second, .unset] [(.int r28)])
          refine g_if C X28 at_174 (pc' := 181) (pc'' := 177) (by decide) (by decide) rfl (fun c174 => ?_) (fun c174 => ?_)
          · have c174 : ¬ (r28.toInt = 0) := c174
            refine g_iconst C X28 (pc' := 182) at_181 (v := (0 : Int32)) (by decide) rfl ?_
            refine g_istore C X28 (pc' := 184) at_182 (x := (0 : Int32)) rfl (l' := #[.val (.int p0), .val (.int p1), .val (.int p2), .val (.int p3), .val (.int i1), .val (.int i2), .val (.double d3), .second, .val (.double d4), .second, .val (.int (1 : Int32)), .val (.int i35), .val (.int i36), .val (.double d37), .second, .val (.double d38), .second, .val (.int (0 : Int32)), .val (.double d39), .second, .val (.double d40), .second, .val (.int (0 : Int32))]) rfl rfl ?_
            refine g_iload C X28 (pc' := 186) at_184 rfl rfl ?_
            refine g_ifN C X28 at_186 (by decide) rfl ?_
            refine g_iload C X28 (pc' := 191) at_189 rfl rfl ?_
            refine g_ifY C X28 at_191 (pc' := 203) (by decide) (by decide) (by decide) ?_
            refine g_iconst C X28 (pc' := 204) at_203 (v := (0 : Int32)) (by decide) rfl ?_
            exfalso; omega
          · have c174 : r28.toInt = 0 := Decidable.not_not.mp c174
            refine g_iconst C X28 (pc' := 178) at_177 (v := (1 : Int32)) (by decide) rfl ?_
            refine g_goto C X28 at_178 (pc' := 182) (by decide) (by decide) ?_
            refine g_istore C X28 (pc' := 184) at_182 (x := (1 : Int32)) rfl (l' := #[.val (.int p0), .val (.int p1), .val (.int p2), .val (.int p3), .val (.int i1), .val (.int i2), .val (.double d3), .second, .val (.double d4), .second, .val (.int (1 : Int32)), .val (.int i35), .val (.int i36), .val (.double d37), .second, .val (.double d38), .second, .val (.int (0 : Int32)), .val (.double d39), .second, .val (.double d40), .second, .val (.int (1 : Int32))]) rfl rfl ?_
            refine g_iload C X28 (pc' := 186) at_184 rfl rfl ?_
            refine g_ifN C X28 at_186 (by decide) rfl ?_
            refine g_iload C X28 (pc' := 191) at_189 rfl rfl ?_
            refine g_ifY C X28 at_191 (pc' := 203) (by decide) (by decide) (by decide) ?_
            refine g_iconst C X28 (pc' := 204) at_203 (v := (0 : Int32)) (by decide) rfl ?_
            exfalso; omega
      · have c121 : ¬ (r26.toInt = 0) := c121
        refine g_dload C X26 (pc' := 126) at_124 rfl rfl ?_
        refine g_dload C X26 (pc' := 128) at_126 rfl rfl ?_
        refine g_callS C X26 (c_al l Z a0 hw h d38 d37 o4 o5) (hw _ (List.mem_of_getElem? (i := 2) rfl)) (hw _ (List.mem_of_getElem? (i := 3) rfl)) (hw _ (List.mem_of_getElem? (i := 4) rfl)) (hw _ (List.mem_of_getElem? (i := 5) rfl)) (by decide) e26 at_128 rfl pd1 [(.double d38), (.double d37)] [] rfl rfl rfl 0 rfl (by decide) (by decide) (by decide) (by decide) rfl ?_
        rintro _ T29 _ X29 ⟨r29, rfl, b29, rfl, e29⟩
        rw [List.append_nil] at X29
        show Go p.tables e below _ T29 (mkF m 131 #[.val (.int p0), .val (.int p1), .val (.int p2), .val (.int p3), .val (.int i1), .val (.int i2), .val (.double d3), .second, .val (.double d4), .second, .val (.int (1 : Int32)), .val (.int i35), .val (.int i36), .val (.double d37), .second, .val (.double d38), .second, .unset, .unset, .unset, .unset, .unset, .unset] [(.int r29)])
        refine g_if C X29 at_131 (pc' := 138) (pc'' := 134) (by decide) (by decide) rfl (fun c131 => ?_) (fun c131 => ?_)
        · have c131 : r29.toInt = 0 := c131
          refine g_iconst C X29 (pc' := 139) at_138 (v := (0 : Int32)) (by decide) rfl ?_
          refine g_istore C X29 (pc' := 141) at_139 (x := (0 : Int32)) rfl (l' := #[.val (.int p0), .val (.int p1), .val (.int p2), .val (.int p3), .val (.int i1), .val (.int i2), .val (.double d3), .second, .val (.double d4), .second, .val (.int (1 : Int32)), .val (.int i35), .val (.int i36), .val (.double d37), .second, .val (.double d38), .second, .val (.int (0 : Int32)), .unset, .unset, .unset, .unset, .unset]) rfl rfl ?_
          refine g_dload C X29 (pc' := 143) at_141 rfl rfl ?_
          refine g_ldc2D C X29 (pc' := 146) (hw _ (List.mem_of_getElem? (i := 9) rfl)) at_143 rfl ?_
          refine g_dsub C X29 (pc' := 147) at_146 nT rfl ?_
          obtain ⟨d41, e_d41⟩ : ∃ z : UInt64, z = FP.dsub d4 (4472406533629990549 : UInt64) := ⟨_, rfl⟩
          refine g_dstore C X29 (pc' := 149) at_147 (x := d41) e_d41 (l' := #[.val (.int p0), .val (.int p1), .val (.int p2), .val (.int p3), .val (.int i1), .val (.int i2), .val (.double d3), .second, .val (.double d4), .second, .val (.int (1 : Int32)), .val (.int i35), .val (.int i36), .val (.double d37), .second, .val (.double d38), .second, .val (.int (0 : Int32)), .val (.double d41), .second, .unset, .unset, .unset]) rfl rfl ?_
          refine g_dload C X29 (pc' := 151) at_149 rfl rfl ?_
          refine g_ldc2D C X29 (pc' := 154) (hw _ (List.mem_of_getElem? (i := 10) rfl)) at_151 rfl ?_
          refine g_dsub C X29 (pc' := 155) at_154 nT2 rfl ?_
          obtain ⟨d42, e_d42⟩ : ∃ z : UInt64, z = FP.dsub d4 (4476910133257361045 : UInt64) := ⟨_, rfl⟩
          refine g_dstore C X29 (pc' := 157) at_155 (x := d42) e_d42 (l' := #[.val (.int p0), .val (.int p1), .val (.int p2), .val (.int p3), .val (.int i1), .val (.int i2), .val (.double d3), .second, .val (.double d4), .second, .val (.int (1 : Int32)), .val (.int i35), .val (.int i36), .val (.double d37), .second, .val (.double d38), .second, .val (.int (0 : Int32)), .val (.double d41), .second, .val (.double d42), .second, .unset]) rfl rfl ?_
          have nji : Jvm.Free.Fl.NoNaN64 d41 := by rw [e_d41]; exact nT
          have njo : Jvm.Free.Fl.NoNaN64 d42 := by rw [e_d42]; exact nT2
          have zji : dz d41 = dz (FP.dsub d4 (4472406533629990549 : UInt64)) := by rw [e_d41]
          have zjo : dz d42 = dz (FP.dsub d4 (4476910133257361045 : UInt64)) := by rw [e_d42]
          refine g_dload C X29 (pc' := 159) at_157 rfl rfl ?_
          refine g_dload C X29 (pc' := 161) at_159 rfl rfl ?_
          refine g_callS C X29 (c_al l Z a0 hw h d41 d4 nji nT) (hw _ (List.mem_of_getElem? (i := 2) rfl)) (hw _ (List.mem_of_getElem? (i := 3) rfl)) (hw _ (List.mem_of_getElem? (i := 4) rfl)) (hw _ (List.mem_of_getElem? (i := 5) rfl)) (by decide) e29 at_161 rfl pd1 [(.double d41), (.double d4)] [] rfl rfl rfl 0 rfl (by decide) (by decide) (by decide) (by decide) rfl ?_
          rintro _ T30 _ X30 ⟨r30, rfl, b30, rfl, e30⟩
          rw [List.append_nil] at X30
          show Go p.tables e below _ T30 (mkF m 164 #[.val (.int p0), .val (.int p1), .val (.int p2), .val (.int p3), .val (.int i1), .val (.int i2), .val (.double d3), .second, .val (.double d4), .second, .val (.int (1 : Int32)), .val (.int i35), .val (.int i36), .val (.double d37), .second, .val (.double d38), .second, .val (.int (0 : Int32)), .val (.double d41), .second, .val (.double d42), .second, .unset] [(.int r30)])
          refine g_if C X30 at_164 (pc' := 181) (pc'' := 167) (by decide) (by decide) rfl (fun c164 => ?_) (fun c164 => ?_)
          · have c164 : r30.toInt = 0 := c164
            refine g_iconst C X30 (pc' := 182) at_181 (v := (0 : Int32)) (by decide) rfl ?_
            refine g_istore C X30 (pc' := 184) at_182 (x := (0 : Int32)) rfl (l' := #[.val (.int p0), .val (.int p1), .val (.int p2), .val (.int p3), .val (.int i1), .val (.int i2), .val (.double d3), .second, .val (.double d4), .second, .val (.int (1 : Int32)), .val (.int i35), .val (.int i36), .val (.double d37), .second, .val (.double d38), .second, .val (.int (0 : Int32)), .val (.double d41), .second, .val (.double d42), .second, .val (.int (0 : Int32))]) rfl rfl ?_
            refine g_iload C X30 (pc' := 186) at_184 rfl rfl ?_
            refine g_ifN C X30 at_186 (by decide) rfl ?_
            refine g_iload C X30 (pc' := 191) at_189 rfl rfl ?_
            refine g_ifY C X30 at_191 (pc' := 203) (by decide) (by decide) (by decide) ?_
            refine g_iconst C X30 (pc' := 204) at_203 (v := (0 : Int32)) (by decide) rfl ?_
            exfalso; omega
          · have c164 : ¬ (r30.toInt = 0) := c164
            refine g_dload C X30 (pc' := 169) at_167 rfl rfl ?_
            refine g_dload C X30 (pc' := 171) at_169 rfl rfl ?_
            refine g_callS C X30 (c_al l Z a0 hw h d42 d4 njo nT) (hw _ (List.mem_of_getElem? (i := 2) rfl)) (hw _ (List.mem_of_getElem? (i := 3) rfl)) (hw _ (List.mem_of_getElem? (i := 4) rfl)) (hw _ (List.mem_of_getElem? (i := 5) rfl)) (by decide) e30 at_171 rfl pd1 [(.double d42), (.double d4)] [] rfl rfl rfl 0 rfl (by decide) (by decide) (by decide) (by decide) rfl ?_
            rintro _ T31 _ X31 ⟨r31, rfl, b31, rfl, e31⟩
            rw [List.append_nil] at X31
            show Go p.tables e below _ T31 (mkF m 174 #[.val (.int p0), .val (.int p1), .val (.int p2), .val (.int p3), .val (.int i1), .val (.int i2), .val (.double d3), .second, .val (.double d4), .second, .val (.int (1 : Int32)), .val (.int i35), .val (.int i36), .val (.double d37), .second, .val (.double d38), .second, .val (.int (0 : Int32)), .val (.double d41), .second, .val (.double d42), .second, .unset] [(.int r31)])
            refine g_if C X31 at_174 (pc' := 181) (pc'' := 177) (by decide) (by decide) rfl (fun c174 => ?_) (fun c174 => ?_)
            · have c174 : ¬ (r31.toInt = 0) := c174
              refine g_iconst C X31 (pc' := 182) at_181 (v := (0 : Int32)) (by decide) rfl ?_
              refine g_istore C X31 (pc' := 184) at_182 (x := (0 : Int32)) rfl (l' := #[.val (.int p0), .val (.int p1), .val (.int p2), .val (.int p3), .val (.int i1), .val (.int i2), .val (.double d3), .second, .val (.double d4), .second, .val (.int (1 : Int32)), .val (.int i35), .val (.int i36), .val (.double d37), .second, .val (.double d38), .second, .val (.int (0 : Int32)), .val (.double d41), .second, .val (.double d42), .second, .val (.int (0 : Int32))]) rfl rfl ?_
              refine g_iload C X31 (pc' := 186) at_184 rfl rfl ?_
              refine g_ifN C X31 at_186 (by decide) rfl ?_
              refine g_iload C X31 (pc' := 191) at_189 rfl rfl ?_
              refine g_ifY C X31 at_191 (pc' := 203) (by decide) (by decide) (by decide) ?_
              refine g_iconst C X31 (pc' := 204) at_203 (v := (0 : Int32)) (by decide) rfl ?_
              exfalso; omega
            · have c174 : r31.toInt = 0 := Decidable.not_not.mp c174
              refine g_iconst C X31 (pc' := 178) at_177 (v := (1 : Int32)) (by decide) rfl ?_
              refine g_goto C X31 at_178 (pc' := 182) (by decide) (by decide) ?_
              refine g_istore C X31 (pc' := 184) at_182 (x := (1 : Int32)) rfl (l' := #[.val (.int p0), .val (.int p1), .val (.int p2), .val (.int p3), .val (.int i1), .val (.int i2), .val (.double d3), .second, .val (.double d4), .second, .val (.int (1 : Int32)), .val (.int i35), .val (.int i36), .val (.double d37), .second, .val (.double d38), .second, .val (.int (0 : Int32)), .val (.double d41), .second, .val (.double d42), .second, .val (.int (1 : Int32))]) rfl rfl ?_
              refine g_iload C X31 (pc' := 186) at_184 rfl rfl ?_
              refine g_ifN C X31 at_186 (by decide) rfl ?_
              refine g_iload C X31 (pc' := 191) at_189 rfl rfl ?_
              refine g_ifY C X31 at_191 (pc' := 203) (by decide) (by decide) (by decide) ?_
              refine g_iconst C X31 (pc' := 204) at_203 (v := (0 : Int32)) (by decide) rfl ?_
              exfalso; omega
        · have c131 : ¬ (r29.toInt = 0) := c131
          refine g_iconst C X29 (pc' := 135) at_134 (v := (1 : Int32)) (by decide) rfl ?_
          refine g_goto C X29 at_135 (pc' := 139) (by decide) (by decide) ?_
          refine g_istore C X29 (pc' := 141) at_139 (x := (1 : Int32)) rfl (l' := #[.val (.int p0), .val (.int p1), .val (.int p2), .val (.int p3), .val (.int i1), .val (.int i2), .val (.double d3), .second, .val (.double d4), .second, .val (.int (1 : Int32)), .val (.int i35), .val (.int i36), .val (.double d37), .second, .val (.double d38), .second, .val (.int (1 : Int32)), .unset, .unset, .unset, .unset, .unset]) rfl rfl ?_
          refine g_dload C X29 (pc' := 143) at_141 rfl rfl ?_
          refine g_ldc2D C X29 (pc' := 146) (hw _ (List.mem_of_getElem? (i := 9) rfl)) at_143 rfl ?_
          refine g_dsub C X29 (pc' := 147) at_146 nT rfl ?_
          obtain ⟨d43, e_d43⟩ : ∃ z : UInt64, z = FP.dsub d4 (4472406533629990549 : UInt64) := ⟨_, rfl⟩
          refine g_dstore C X29 (pc' := 149) at_147 (x := d43) e_d43 (l' := #[.val (.int p0), .val (.int p1), .val (.int p2), .val (.int p3), .val (.int i1), .val (.int i2), .val (.double d3), .second, .val (.double d4), .second, .val (.int (1 : Int32)), .val (.int i35), .val (.int i36), .val (.double d37), .second, .val (.double d38), .second, .val (.int (1 : Int32)), .val (.double d43), .second, .unset, .unset, .unset]) rfl rfl ?_
          refine g_dload C X29 (pc' := 151) at_149 rfl rfl ?_
          refine g_ldc2D C X29 (pc' := 154) (hw _ (List.mem_of_getElem? (i := 10) rfl)) at_151 rfl ?_
          refine g_dsub C X29 (pc' := 155) at_154 nT2 rfl ?_
          obtain ⟨d44, e_d44⟩ : ∃ z : UInt64, z = FP.dsub d4 (4476910133257361045 : UInt64) := ⟨_, rfl⟩
          refine g_dstore C X29 (pc' := 157) at_155 (x := d44) e_d44 (l' := #[.val (.int p0), .val (.int p1), .val (.int p2), .val (.int p3), .val (.int i1), .val (.int i2), .val (.double d3), .second, .val (.double d4), .second, .val (.int (1 : Int32)), .val (.int i35), .val (.int i36), .val (.double d37), .second, .val (.double d38), .second, .val (.int (1 : Int32)), .val (.double d43), .second, .val (.double d44), .second, .unset]) rfl rfl ?_
          have nji : Jvm.Free.Fl.NoNaN64 d43 := by rw [e_d43]; exact nT
          have njo : Jvm.Free.Fl.NoNaN64 d44 := by rw [e_d44]; exact nT2
          have zji : dz d43 = dz (FP.dsub d4 (4472406533629990549 : UInt64)) := by rw [e_d43]
          have zjo : dz d44 = dz (FP.dsub d4 (4476910133257361045 : UInt64)) := by rw [e_d44]
          refine g_dload C X29 (pc' := 159) at_157 rfl rfl ?_
          refine g_dload C X29 (pc' := 161) at_159 rfl rfl ?_
          refine g_callS C X29 (c_al l Z a0 hw h d43 d4 nji nT) (hw _ (List.mem_of_getElem? (i := 2) rfl)) (hw _ (List.mem_of_getElem? (i := 3) rfl)) (hw _ (List.mem_of_getElem? (i := 4) rfl)) (hw _ (List.mem_of_getElem? (i := 5) rfl)) (by decide) e29 at_161 rfl pd1 [(.double d43), (.double d4)] [] rfl rfl rfl 0 rfl (by decide) (by decide) (by decide) (by decide) rfl ?_
          rintro _ T32 _ X32 ⟨r32, rfl, b32, rfl, e32⟩
          rw [List.append_nil] at X32
          show Go p.tables e below _ T32 (mkF m 164 #[.val (.int p0), .val (.int p1), .val (.int p2), .val (.int p3), .val (.int i1), .val (.int i2), .val (.double d3), .second, .val (.double d4), .second, .val (.int (1 : Int32)), .val (.int i35), .val (.int i36), .val (.double d37), .second, .val (.double d38), .second, .val (.int (1 : Int32)), .val (.double d43), .second, .val (.double d44), .second, .unset] [(.int r32)])
          refine g_if C X32 at_164 (pc' := 181) (pc'' := 167) (by decide) (by decide) rfl (fun c164 => ?_) (fun c164 => ?_)
          · have c164 : r32.toInt = 0 := c164
            refine g_iconst C X32 (pc' := 182) at_181 (v := (0 : Int32)) (by decide) rfl ?_
            refine g_istore C X32 (pc' := 184) at_182 (x := (0 : Int32)) rfl (l' := #[.val (.int p0), .val (.int p1), .val (.int p2), .val (.int p3), .val (.int i1), .val (.int i2), .val (.double d3), .second, .val (.double d4), .second, .val (.int (1 : Int32)), .val (.int i35), .val (.int i36), .val (.double d37), .second, .val (.double d38), .second, .val (.int (1 : Int32)), .val (.double d43), .second, .val (.double d44), .second, .val (.int (0 : Int32))]) rfl rfl ?_
            refine g_iload C X32 (pc' := 186) at_184 rfl rfl ?_
            refine g_ifN C X32 at_186 (by decide) rfl ?_
            refine g_iload C X32 (pc' := 191) at_189 rfl rfl ?_
            refine g_ifN C X32 at_191 (by decide) rfl ?_
            refine g_iload C X32 (pc' := 196) at_194 rfl rfl ?_
            refine g_ifY C X32 at_196 (pc' := 203) (by decide) (by decide) (by decide) ?_
            refine g_iconst C X32 (pc' := 204) at_203 (v := (0 : Int32)) (by decide) rfl ?_
            exfalso; omega
          · have c164 : ¬ (r32.toInt = 0) := c164
            refine g_dload C X32 (pc' := 169) at_167 rfl rfl ?_
            refine g_dload C X32 (pc' := 171) at_169 rfl rfl ?_
            refine g_callS C X32 (c_al l Z a0 hw h d44 d4 njo nT) (hw _ (List.mem_of_getElem? (i := 2) rfl)) (hw _ (List.mem_of_getElem? (i := 3) rfl)) (hw _ (List.mem_of_getElem? (i := 4) rfl)) (hw _ (List.mem_of_getElem? (i := 5) rfl)) (by decide) e32 at_171 rfl pd1 [(.double d44), (.double d4)] [] rfl rfl rfl 0 rfl (by decide) (by decide) (by decide) (by decide) rfl ?_
            rintro _ T33 _ X33 ⟨r33, rfl, b33, rfl, e33⟩
            rw [List.append_nil] at X33
            show Go p.tables e below _ T33 (mkF m 174 #[.val (.int p0), .val (.int p1), .val (.int p2), .val (.int p3), .val (.int i1), .val (.int i2), .val (.double d3), .second, .val (.double d4), .second, .val (.int (1 : Int32)), .val (.int i35), .val (.int i36), .val (.double d37), .second, .val (.double d38), .second, .val (.int (1 : Int32)), .val (.double d43), .second, .val (.double d44), .second, .unset] [(.int r33)])
            refine g_if C X33 at_174 (pc' := 181) (pc'' := 177) (by decide) (by decide) rfl (fun c174 => ?_) (fun c174 => ?_)
            · have c174 : ¬ (r33.toInt = 0) := c174
              refine g_iconst C X33 (pc' := 182) at_181 (v := (0 : Int32)) (by decide) rfl ?_
              refine g_istore C X33 (pc' := 184) at_182 (x := (0 : Int32)) rfl (l' := #[.val (.int p0), .val (.int p1), .val (.int p2), .val (.int p3), .val (.int i1), .val (.int i2), .val (.double d3), .second, .val (.double d4), .second, .val (.int (1 : Int32)), .val (.int i35), .val (.int i36), .val (.double d37), .second, .val (.double d38), .second, .val (.int (1 : Int32)), .val (.double d43), .second, .val (.double d44), .second, .val (.int (0 : Int32))]) rfl rfl ?_
              refine g_iload C X33 (pc' := 186) at_184 rfl rfl ?_
              refine g_ifN C X33 at_186 (by decide) rfl ?_
              refine g_iload C X33 (pc' := 191) at_189 rfl rfl ?_
              refine g_ifN C X33 at_191 (by decide) rfl ?_
              refine g_iload C X33 (pc' := 196) at_194 rfl rfl ?_
              refine g_ifY C X33 at_196 (pc' := 203) (by decide) (by decide) (by decide) ?_
              refine g_iconst C X33 (pc' := 204) at_203 (v := (0 : Int32)) (by decide) rfl ?_
              exfalso; omega
            · have c174 : r33.toInt = 0 := Decidable.not_not.mp c174
              refine g_iconst C X33 (pc' := 178) at_177 (v := (1 : Int32)) (by decide) rfl ?_
              refine g_goto C X33 at_178 (pc' := 182) (by decide) (by decide) ?_
              refine g_istore C X33 (pc' := 184) at_182 (x := (1 : Int32)) rfl (l' := #[.val (.int p0), .val (.int p1), .val (.int p2), .val (.int p3), .val (.int i1), .val (.int i2), .val (.double d3), .second, .val (.double d4), .second, .val (.int (1 : Int32)), .val (.int i35), .val (.int i36), .val (.double d37), .second, .val (.double d38), .second, .val (.int (1 : Int32)), .val (.double d43), .second, .val (.double d44), .second, .val (.int (1 : Int32))]) rfl rfl ?_
              refine g_iload C X33 (pc' := 186) at_184 rfl rfl ?_
              refine g_ifN C X33 at_186 (by decide) rfl ?_
              refine g_iload C X33 (pc' := 191) at_189 rfl rfl ?_
              refine g_ifN C X33 at_191 (by decide) rfl ?_
              refine g_iload C X33 (pc' := 196) at_194 rfl rfl ?_
              refine g_ifN C X33 at_196 (by decide) rfl ?_
              refine g_iconst C X33 (pc' := 200) at_199 (v := (1 : Int32)) (by decide) rfl ?_
              refine g_goto C X33 at_200 (pc' := 204) (by decide) (by decide) ?_
              exact g_zreturn C X33 at_204 (w := 1) (by decide) ⟨rfl, Fr.nil n0⟩ (by decide) (by decide)
set_option maxRecDepth 65536 in
set_option maxHeartbeats 40000000 in
theorem comes_1 {Post : Tables → Env → Array Value → State → Outcome → State → Prop} (hpost : ∀ tb e args s v u, (limb_1_1.after args s (.returned v) u = true ∧ limb_1_2.after args s (.returned v) u = true ∧ True) → FrameEnd s (.returned v) u (Jvm.fieldLocs frame_1_writes args s ++ Jvm.arrayLocs frame_1_arrays args s ++ Jvm.staticLocs frame_1_statics s) 0 0 → Post tb e args s (.returned v) u) :
    ArmFor flags0 classFile x code maxLocals ret World_1 tables_1 room_1 Calls_1 rest_1 Pre_1 Post := by
  intro l hfl _ _ p e ha hc hk s m args below hf hA hF happ hP
  obtain ⟨hcalls, hrest, hpre⟩ := hP
  obtain ⟨-, -, -, hnamed, -, -, -, hat⟩ := (Spec.applies_iff hf).mp happ
  obtain ⟨hg, hn⟩ := and_e (Cond.before_iff.mp (show (Jvm.Cond.and given_1 narrow_1).before args s = true from hpre))
  obtain ⟨g_c, g_0⟩ := and_e hg
  obtain ⟨k_0, g_1⟩ := and_e g_0
  obtain ⟨k_1, g_2⟩ := and_e g_1
  obtain ⟨k_2, g_3⟩ := and_e g_2
  have k_3 := g_3
  obtain ⟨w0, w1, w2, w3, rfl⟩ : ∃ w0 w1 w2 w3 : Value, args = #[w0, w1, w2, w3] := by
    have hs : args.size = 4 := by simpa [Cond.value, given_1] using g_c
    obtain ⟨L⟩ := args
    match L, hs with
    | [w0, w1, w2, w3], _ => exact ⟨w0, w1, w2, w3, rfl⟩
  have hw := fun d (hd : d ∈ tables_1) => atoms_spec (ws := Jvm.Cond.code x code maxLocals ret :: tables_1) hat d (List.mem_cons_of_mem _ hd)
  have hfit : Fit s := fun {y c} hc i hi => by
    obtain ⟨ha, rfl⟩ := Array.getElem?_eq_some_iff.mp hc
    have q := List.all_eq_true.mp ((Array.all_eq_true_iff_forall_mem.mp hF) _ (Array.getElem_mem ha)) i (List.mem_range.mpr hi)
    simpa [Array.getElem?_eq_getElem hi] using q
  obtain ⟨p0, q_0⟩ := is_v k_0
  obtain rfl : w0 = (.int p0) := Option.some.inj q_0
  obtain ⟨p1, q_1⟩ := is_v k_1
  obtain rfl : w1 = (.int p1) := Option.some.inj q_1
  obtain ⟨p2, q_2⟩ := is_v k_2
  obtain rfl : w2 = (.int p2) := Option.some.inj q_2
  obtain ⟨p3, q_3⟩ := is_v k_3
  obtain rfl : w3 = (.int p3) := Option.some.inj q_3
  obtain ⟨n, o, h1, h2, h3, _, L, rfl, ⟨rfl, N⟩, hq⟩ := law l s _ hw p0 p1 p2 p3 s.heap s.heap.size (Nat.le_refl _)  tables_1 p e ha hc hk s m _ below hf ((Spec.applies_iff_loose hf).mp happ).1 ⟨rfl, State.Warmed39.refl s, rfl⟩ trivial
  refine ⟨n, _, h1, h2, h3, hpost _ _ _ _ _ _ ⟨Cond.after_iff.mpr rfl, Cond.after_iff.mpr (eq_i res_at (Term.int_eval (1)) rfl), trivial⟩ ⟨hq.1, hq.2.1, (hq.2.2.sift fun y hy => Or.inr (N y hy)).mono (by decide) (by decide)⟩⟩
theorem main_1_1 : Claimed_1_1 := comes_1 fun _ _ _ _ _ _ h hF => ⟨h.1, hF⟩
theorem main_1_2 : Claimed_1_2 := comes_1 fun _ _ _ _ _ _ h hF => ⟨h.2.1, hF⟩
end Jvm.Pilot.@@N@@
namespace Jvm.Pilot.@@N@@
open Jvm Jvm.ClassFile Sem Op Lib Jvm.Free Jvm.Stand Jvm.Pilot.@@N@@.Jvm.D
/-! MADE BY PROGRAM (witnessworld.py) out of the Statement's table words and the real class files: 9 classes; the members and pool entries that the words name. The judged class is class 1, her method 1. -/
namespace start1
open Jvm.ClassFile
def u (s : String) : CpInfo := .utf8 (stringToUtf16 s)
/-- a pool by its gaps: so many unusable entries, then the entry; so many at the end -/
def gap : Nat → List CpInfo → List CpInfo
  | 0, r => r
  | n + 1, r => .unusable :: gap n r
def poolList (es : List (Nat × CpInfo)) (last : Nat) : List CpInfo := es.foldr (fun e r => gap e.1 (e.2 :: r)) (gap last [])
def pool (es : List (Nat × CpInfo)) (last : Nat) : Array CpInfo := ⟨poolList es last⟩
def fileOf (pool : Array CpInfo) (this : Nat) (attrs : Array Attribute := #[]) (ms : Array MethodInfo := #[]) (fl : Nat := 33) (sup : Nat := 0) (ifs : Array Nat := #[]) (fds : Array FieldInfo := #[]) : ClassFile where
  minorVersion := 0
  majorVersion := 65
  constantPool := pool
  accessFlags := fl
  thisClass := this
  superClass := sup
  interfaces := ifs
  fields := fds
  methods := ms
  attributes := attrs
def plain (name : String) (sup : Option ClassId) : Class where
  name := name
  kind := .ordinary
  loader := none
  accessFlags := 33
  super := sup
  interfaces := #[]
  cf := none
  fields := #[]
  methods := #[]
  instanceTypes := #[]
  staticTypes := #[]
  resolved := #[]
  callSites := []
  init := .initialized
  statics := none
  mirror := none

def pool0 : Array CpInfo := pool [(5, u "<init>"), (0, u "()V"), (1, .class_ 10), (1, u "java/lang/Object")] 113

def k0m0 : Method := { name := "<init>", desc := "()V", sig := { parameters := [], returnType := none }, accessFlags := 1, code := none }
/-- java/lang/Object -/
def k0 : Class := { plain "java/lang/Object" none with
  accessFlags := 33
  interfaces := #[]
  cf := some (fileOf pool0 8 #[] #[{ accessFlags := 1, nameIndex := 5, descriptorIndex := 6, attributes := #[] }] 33 0 #[] #[])
  fields := #[]
  methods := #[k0m0]
  instanceTypes := #[]
  staticTypes := #[]
  resolved := Array.replicate 124 none
  statics := none }

def pool1 : Array CpInfo := pool [(2, .class_ 4), (1, u "java/lang/Object"), (0, u "<init>"), (0, u "()V"), (0, .integer 2147483647), (0, .double 4666723172467343360), (1, .methodref 11 12), (0, .class_ 13), (0, .nameAndType 14 15), (0, u "com/example/fennec/fennec/core/Degrees"), (0, u "atLeast"), (0, u "(DD)Z"), (0, .double 4621819117588971520), (1, .double 4636737291354636288), (1, .double 4472406533629990549), (1, .double 4476910133257361045), (1, .class_ 25), (0, u "com/example/fennec/fennec/core/DegreesAtLeastPinLaw"), (2, u "law"), (0, u "(IIII)Z")] 3

def k1m0 : Method := { name := "<init>", desc := "()V", sig := { parameters := [], returnType := none }, accessFlags := 2, code := none }
def k1c1 : Code := { maxStack := 6, maxLocals := 23, code := code, exceptionTable := #[], attributes := #[] }
def k1m1 : Method := { name := "law", desc := "(IIII)Z", sig := { parameters := [.int, .int, .int, .int], returnType := some .boolean }, accessFlags := 9, code := some k1c1 }
/-- com/example/fennec/fennec/core/DegreesAtLeastPinLaw -/
def k1 : Class := { plain "com/example/fennec/fennec/core/DegreesAtLeastPinLaw" (some 0) with
  accessFlags := 49
  interfaces := #[]
  cf := some (fileOf pool1 24 #[] #[{ accessFlags := 2, nameIndex := 5, descriptorIndex := 6, attributes := #[] }, { accessFlags := 9, nameIndex := 28, descriptorIndex := 29, attributes := #[] }] 49 2 #[] #[])
  fields := #[]
  methods := #[k1m0, k1m1]
  instanceTypes := #[]
  staticTypes := #[]
  resolved := Array.replicate 33 none
  statics := none }

def pool2 : Array CpInfo := pool [(2, .class_ 4), (1, u "java/lang/Object"), (0, u "<init>"), (0, u "()V"), (1, .class_ 10), (1, u "com/example/fennec/fennec/core/Degrees"), (11, .double 4472406533629990549), (1, u "TOLERANCE"), (0, u "D"), (6, u "atLeast"), (0, u "(DD)Z")] 17

def k2m0 : Method := { name := "<init>", desc := "()V", sig := { parameters := [], returnType := none }, accessFlags := 2, code := none }
def k2c1 : Code := { maxStack := 6, maxLocals := 4, code := prog_5_method_4_code, exceptionTable := #[], attributes := #[] }
def k2m1 : Method := { name := "atLeast", desc := "(DD)Z", sig := { parameters := [.double, .double], returnType := some .boolean }, accessFlags := 9, code := some k2c1 }
/-- com/example/fennec/fennec/core/Degrees -/
def k2 : Class := { plain "com/example/fennec/fennec/core/Degrees" (some 0) with
  accessFlags := 49
  interfaces := #[]
  cf := some (fileOf pool2 8 #[] #[{ accessFlags := 2, nameIndex := 5, descriptorIndex := 6, attributes := #[] }, { accessFlags := 9, nameIndex := 32, descriptorIndex := 33, attributes := #[] }] 49 2 #[] #[{ accessFlags := 25, nameIndex := 24, descriptorIndex := 25, attributes := #[] }])
  fields := #[{ name := "TOLERANCE", type := .double, accessFlags := 25, slot := 0, constantValue := 0 }]
  methods := #[k2m0, k2m1]
  instanceTypes := #[]
  staticTypes := #[.double]
  resolved := Array.replicate 51 none
  statics := none }

def pool3 : Array CpInfo := pool [(1, u "java/lang/Cloneable"), (0, .class_ 1), (0, u "java/lang/Object"), (0, .class_ 3)] 3

/-- java/lang/Cloneable -/
def k3 : Class := { plain "java/lang/Cloneable" (some 0) with
  accessFlags := 1537
  interfaces := #[]
  cf := some (fileOf pool3 2 #[] #[] 1537 4 #[] #[])
  fields := #[]
  methods := #[]
  instanceTypes := #[]
  staticTypes := #[]
  resolved := Array.replicate 8 none
  statics := none }

def pool4 : Array CpInfo := pool [(1, u "java/io/Serializable"), (0, .class_ 1), (0, u "java/lang/Object"), (0, .class_ 3)] 3

/-- java/io/Serializable -/
def k4 : Class := { plain "java/io/Serializable" (some 0) with
  accessFlags := 1537
  interfaces := #[]
  cf := some (fileOf pool4 2 #[] #[] 1537 4 #[] #[])
  fields := #[]
  methods := #[]
  instanceTypes := #[]
  staticTypes := #[]
  resolved := Array.replicate 8 none
  statics := none }

/-- the primitive byte -/
def k5 : Class := { plain "byte" none with kind := .primitive 'B', accessFlags := 0x411 }
/-- [B -/
def k6 : Class := { plain "[B" (some 0) with kind := .array 5 .byte, interfaces := #[3, 4], accessFlags := 1041 }

/-- the primitive int -/
def k7 : Class := { plain "int" none with kind := .primitive 'I', accessFlags := 0x411 }
/-- [I -/
def k8 : Class := { plain "[I" (some 0) with kind := .array 7 .int, interfaces := #[3, 4], accessFlags := 1041 }

def heap : Heap := #[]
def classes : Array Class := #[k0, k1, k2, k3, k4, k5, k6, k7, k8]
def interned : List (Array UInt16 × Addr) := []
def slotsUsed : Nat := 0
def theMethod : MethodId := ⟨1, 1⟩
def args0 : Array Value := #[.int 5, .int 7, .int 2, .int 4]
def aboutOver (below : List Frame) : State where
  vm := { classes := classes, interned := interned.toArray }
  heap := heap
  slotsUsed := slotsUsed
  threads := #[{ frames := .invoking theMethod args0 :: below }]
def below0 : List Frame := [.native { method := ⟨0, 0⟩, args := #[] }]
def about1 : State := aboutOver below0
def p0 : Program := .bare "" "" ""
def e0 : Env := launch0.env 0 0 0
theorem w_frames : about1.frames = Frame.invoking theMethod args0 :: below0 := rfl
set_option maxRecDepth 65536 in
theorem w_args : argsFit about1.vm theMethod args0 = true := by decide +kernel
set_option maxRecDepth 65536 in
theorem w_heap : heapFits about1 = true := by decide +kernel
set_option maxRecDepth 65536 in
theorem w_runnable : about1.curStatus? = some .runnable := by decide +kernel
set_option maxRecDepth 65536 in
theorem w_alone : about1.alone = true := by decide +kernel
set_option maxRecDepth 65536 in
theorem w_named : about1.methodNamed? x = some theMethod := by decide +kernel
set_option maxRecDepth 65536 in
theorem w_hears : about1.hears theMethod below0 = true := by decide +kernel
set_option maxRecDepth 65536 in
theorem w_ripe : about1.ripe theMethod args0 below0 = true := by decide +kernel
theorem w_running : about1.status = .running := rfl
set_option maxRecDepth 65536 in
theorem w_room : about1.hasRoom e0.platform room_1 = true :=
  launch0.hasRoom_least _ room_1 (by decide +kernel) (by decide +kernel) (by decide +kernel) (by decide +kernel) (by decide +kernel) (by decide +kernel)
theorem allAtoms_all (ts : List Jvm.Cond) (a : Array Jvm.Value) (st : Jvm.State) : (allAtoms ts).before a st = ts.all (fun c => c.before a st) := by
  induction ts with
  | nil => rfl
  | cons c t ih =>
    show (Jvm.Cond.and c (allAtoms t)).before a st = _
    rw [Jvm.Cond.before_and, ih, List.all_cons]
def words1 : List Jvm.Cond := Jvm.Cond.code x code maxLocals ret :: tables_1
/-- a 'code' word, met by the world's own term for the bytes: nothing is compared byte by byte -/
theorem code_word {y : MethodName} {bytes : ByteArray} {mx : Nat} {rt : Option FieldType} {a : Array Value} {s : State} {m : MethodId} {meth : Method} {c : Code} (h1 : s.methodNamed? y = some m) (h2 : s.vm.method? m = some meth) (h3 : meth.code = some c) (h4 : c.code = bytes)
    (h5 : (c.maxLocals == mx && c.exceptionTable.isEmpty && decide (c.maxStack ≤ mostOperands) && decide (meth.sig.returnType = rt) && !meth.locks && decide (parseMethodDescriptor y.desc = some meth.sig)) = true) : (Jvm.Cond.code y bytes mx rt).before a s = true := by
  simp only [Bool.and_eq_true, beq_iff_eq, Bool.not_eq_true', decide_eq_true_eq] at h5
  obtain ⟨⟨⟨⟨⟨g1, g2⟩, g3⟩, g4⟩, g5⟩, g6⟩ := h5
  simp [Cond.before, Cond.holds, Cond.value, h1, h2, h3, h4, g1, g2, g3, g4, g5, g6]
def isCode : Jvm.Cond → Bool
  | .code _ _ _ _ => true
  | _ => false
theorem all_split {L : List Jvm.Cond} {P : Jvm.Cond → Bool} (h1 : L.all (fun c => isCode c || P c) = true) (h2 : ∀ c ∈ L.filter isCode, P c = true) : L.all P = true := by
  refine List.all_eq_true.mpr fun c hc => ?_
  have h := List.all_eq_true.mp h1 c hc
  rcases Bool.eq_false_or_eq_true (isCode c) with hi | hi
  · exact h2 c (List.mem_filter.mpr ⟨hc, hi⟩)
  · simpa [hi] using h
set_option maxRecDepth 65536 in
theorem w_c0 : (Jvm.Cond.code x code maxLocals ret).before args0 about1 = true := code_word (m := ⟨1, 1⟩) (meth := k1m1) (c := k1c1) (by decide +kernel) rfl rfl rfl (by decide +kernel)
set_option maxRecDepth 65536 in
theorem w_c1 : (Jvm.Cond.code ({ cls := "com/example/fennec/fennec/core/Degrees", name := "atLeast", desc := "(DD)Z" } : Jvm.MethodName) prog_5_method_4_code (4 : Nat) (Option.some Jvm.ClassFile.FieldType.boolean)).before args0 about1 = true := code_word (m := ⟨2, 1⟩) (meth := k2m1) (c := k2c1) (by decide +kernel) rfl rfl rfl (by decide +kernel)
def codes1 : List Jvm.Cond := [Jvm.Cond.code x code maxLocals ret, Jvm.Cond.code ({ cls := "com/example/fennec/fennec/core/Degrees", name := "atLeast", desc := "(DD)Z" } : Jvm.MethodName) prog_5_method_4_code (4 : Nat) (Option.some Jvm.ClassFile.FieldType.boolean)]
set_option maxRecDepth 65536 in
theorem codes_eq : words1.filter isCode = codes1 := rfl
theorem w_codes : ∀ c ∈ words1.filter isCode, c.before args0 about1 = true := by
  rw [codes_eq]
  intro c hc
  simp only [codes1, List.mem_cons, List.not_mem_nil, or_false] at hc
  rcases hc with rfl | rfl
  · exact w_c0
  · exact w_c1
set_option maxRecDepth 65536 in
theorem w_t1 : words1.all (fun c => isCode c || c.before args0 about1) = true := by decide +kernel
theorem w_tables : (allAtoms (Jvm.Cond.code x code maxLocals ret :: tables_1)).before args0 about1 = true := by
  rw [allAtoms_all]
  show words1.all (fun c => c.before args0 about1) = true
  refine all_split ?_ w_codes
  rw [w_t1]
set_option maxRecDepth 65536 in
theorem w_case : (Jvm.Cond.and given_1 narrow_1).before args0 about1 = true := by decide +kernel
theorem w_applies : (headSpec (Jvm.Cond.code x code maxLocals ret :: tables_1) room_1).applies x e0.platform about1 = true :=
  (Spec.applies_iff w_frames).mpr ⟨w_running, w_runnable, w_alone, w_named, w_hears, w_ripe, w_room, w_tables⟩
theorem atStart : AtStart classFile x code maxLocals ret World_1 tables_1 room_1 Calls_1 rest_1 Pre_1 launch0 p0 e0 about1 theMethod args0 below0 :=
  ⟨lists_1, trivial, launch0.admits_env _ _ _, launch0.least_env, fairChoices_fair.cas, fairChoices_fair.clock, w_frames, w_args, w_heap, w_applies, trivial, trivial, w_case⟩
end start1
theorem witness_1 : WitnessClaimed_1 := ⟨start1.p0, start1.e0, start1.about1, start1.theMethod, start1.args0, start1.below0, start1.atStart⟩
end Jvm.Pilot.@@N@@
