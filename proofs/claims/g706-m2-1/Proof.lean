import JvmDerived
import JvmDerived.Pilot.@@N@@Statement
import JvmDerived.Pilot.@@N@@Code
set_option linter.unusedVariables false
set_option linter.unusedSimpArgs false
namespace Jvm.OwnKit
open Sem ClassFile Op Lib Jvm.Stand Jvm.Free Jvm.LawKit Jvm.RoadKit
section Walk
variable {p : Program} {l : Launch} {e : Env} {R : Room} {s : State} {m : MethodId} {args : Array Value} {below : List Frame} {meth : Method} {c : Code} {T : State} {locs : List Loc} {cells slots : Nat} {Z : State} {a0 : Array Value} {h : Heap} {G : Outcome → State → Prop}
variable {x0 : MethodName} {code : ByteArray} {maxL : Nat} {ret : Option FieldType}
/-- what is still owed from the frame g on: the run ends, and G holds of the end -/
def Go (tb : Tables) (e : Env) (below : List Frame) (G : Outcome → State → Prop) (T : State) (g : JFrame) : Prop :=
  ∃ s₂ o, Steps tb e below (T.setTop g) s₂ ∧ s₂.status = .running ∧ Ended s₂ below o ∧ G o s₂
theorem Go.step {tb : Tables} {T T' : State} {g g' : JFrame} (q : ∀ t, Steps tb e below (T'.setTop g') t → Steps tb e below (T.setTop g) t) (k : Go tb e below G T' g') : Go tb e below G T g := by
  obtain ⟨s2, o, h1, h2⟩ := k
  exact ⟨s2, o, q _ h1, h2⟩
/-- what stands still while one body is walked -/
def Cx (p : Program) (l : Launch) (s : State) (m : MethodId) (meth : Method) (c : Code) (Z : State) (x0 : MethodName) (code : ByteArray) (maxL : Nat) (ret : Option FieldType) : Prop :=
  p.tables.exec = Jvm.exec ∧ Z.Warmed39 s.vm ∧ c.code = code ∧ c.maxLocals = maxL ∧ s.vm.findClass x0.cls = some m.cls ∧ meth.sig.returnType = ret ∧ meth.locks = false ∧ meth.name = x0.name
theorem Cx.exec (C : Cx p l s m meth c Z x0 code maxL ret) : p.tables.exec = Jvm.exec := C.1
theorem Cx.warm (C : Cx p l s m meth c Z x0 code maxL ret) : Z.Warmed39 s.vm := C.2.1
theorem Cx.bytes (C : Cx p l s m meth c Z x0 code maxL ret) : c.code = code := C.2.2.1
theorem Cx.maxl (C : Cx p l s m meth c Z x0 code maxL ret) : c.maxLocals = maxL := C.2.2.2.1
theorem Cx.own (C : Cx p l s m meth c Z x0 code maxL ret) : s.vm.findClass x0.cls = some m.cls := C.2.2.2.2.1
theorem Cx.rets (C : Cx p l s m meth c Z x0 code maxL ret) : meth.sig.returnType = ret := C.2.2.2.2.2.1
theorem Cx.unlocked (C : Cx p l s m meth c Z x0 code maxL ret) : meth.locks = false := C.2.2.2.2.2.2.1
theorem Cx.nm (C : Cx p l s m meth c Z x0 code maxL ret) : meth.name = x0.name := C.2.2.2.2.2.2.2
theorem Cx.at (C : Cx p l s m meth c Z x0 code maxL ret) {pc : Nat} {r : Except ClassFile.DecodeError (ClassFile.Instr × Nat)} (h2 : decode code pc = r) : decode c.code pc = r := hb C.bytes h2
/-- the end of a walk: what is returned, the heap and the places written answer Q -/
def End (s : State) (Q : Option Value → Heap → List Loc → Prop) (k n : Nat) (o : Outcome) (U : State) : Prop := ∃ v L, o = .returned v ∧ Q v U.heap L ∧ FrameEnd s o U L k n
/-- a body's contract at one call: the arguments as, the heap h -/
def Con (l : Launch) (Z : State) (y : MethodName) (bytes : ByteArray) (maxL : Nat) (ret : Option FieldType) (rm : Room) (as : Array Value) (h : Heap) (Q : Option Value → Heap → List Loc → Prop) : Prop :=
  ∀ ws, MetFree l y (head1 (Cond.code y bytes maxL ret :: ws) rm) (fun a U => a = as ∧ Z.Warmed39 U.vm ∧ U.heap = h) (fun _ _ _ _ _ => True) (fun _ U o U' => End U Q rm.cells rm.slots o U')
theorem con_of_goF {rm : Room} {as : Array Value} {Q : Option Value → Heap → List Loc → Prop} {Ls : Array Slot} (hn : plainFor x0 = true) (hef : ∀ m, entryFrame m as maxL = mkF m 0 Ls [])
    (H : ∀ (p : Program) (e : Env) (s : State) (m : MethodId) (below : List Frame) (meth : Method) (c : Code) (T : State), Cx p l s m meth c Z x0 code maxL ret → Stand p l e rm s m as below meth c T [] 0 0 → T.heap = h → Go p.tables e below (End s Q rm.cells rm.slots) T (mkF m 0 Ls [])) :
    Con l Z x0 code maxL ret rm as h Q := by
  intro ws
  refine MetFree.of_bodySF hn hisR ?_
  intro p e s m args below meth c s₁ Bd hml hP hK
  obtain ⟨rfl, hZ, hh⟩ := hP
  have X0 : Stand p l e rm s m args below meth c s₁ [] 0 0 := Stand.of_body Bd
  have e0 : s₁.heap = h := by rw [← hh, Bd.state]; rfl
  have q := H p e s m below meth c s₁ ⟨Bd.exec, hZ, Bd.bytes, hml, findClass_of_methodNamed Bd.named, Bd.returns, Bd.notSynchronized, (name_of_methodNamed Bd.named Bd.method).1⟩ X0 e0
  rw [hef]
  exact q
theorem con_of_go {rm : Room} {as : Array Value} {Q : Option Value → Heap → List Loc → Prop} {Ls : Array Slot} (hn : plainName x0.cls = true) (hef : ∀ m, entryFrame m as maxL = mkF m 0 Ls [])
    (H : ∀ (p : Program) (e : Env) (s : State) (m : MethodId) (below : List Frame) (meth : Method) (c : Code) (T : State), Cx p l s m meth c Z x0 code maxL ret → Stand p l e rm s m as below meth c T [] 0 0 → T.heap = h → Go p.tables e below (End s Q rm.cells rm.slots) T (mkF m 0 Ls [])) :
    Con l Z x0 code maxL ret rm as h Q := con_of_goF (plainFor_of_name hn) hef H
theorem g_aloadN (C : Cx p l s m meth c Z x0 code maxL ret) (X : Stand p l e R s m args below meth c T locs cells slots) {pc pc' : Nat} {Ls : Array Slot} {st : List Value} {k : Fin 4} {v : Value} (hd : decode code pc = .ok (.aload_n k, 1)) (hl : Ls[k.val]? = some (.val v)) (hv : v.isRef = true) (hp : pc + 1 = pc')
    (K : Go p.tables e below G T (mkF m pc' Ls (v :: st))) : Go p.tables e below G T (mkF m pc Ls (st)) := by
  subst hp; exact Go.step (fun _ k => XS.aloadN X.here C.exec rfl (C.at hd) hl hv k) K
theorem g_aload (C : Cx p l s m meth c Z x0 code maxL ret) (X : Stand p l e R s m args below meth c T locs cells slots) {pc pc' : Nat} {Ls : Array Slot} {st : List Value} {k : Nat} {v : Value} (hd : decode code pc = .ok (.aload k, 2)) (hl : Ls[k]? = some (.val v)) (hv : v.isRef = true) (hp : pc + 2 = pc')
    (K : Go p.tables e below G T (mkF m pc' Ls (v :: st))) : Go p.tables e below G T (mkF m pc Ls (st)) := by
  subst hp; exact Go.step (fun _ k => XS.aload X.here C.exec rfl (C.at hd) hl hv k) K
theorem g_iloadN (C : Cx p l s m meth c Z x0 code maxL ret) (X : Stand p l e R s m args below meth c T locs cells slots) {pc pc' : Nat} {Ls : Array Slot} {st : List Value} {k : Fin 4} {v : Int32} (hd : decode code pc = .ok (.iload_n k, 1)) (hl : Ls[k.val]? = some (.val (.int v))) (hp : pc + 1 = pc')
    (K : Go p.tables e below G T (mkF m pc' Ls (.int v :: st))) : Go p.tables e below G T (mkF m pc Ls (st)) := by
  subst hp; exact Go.step (fun _ k => XS.iloadN X.here C.exec rfl (C.at hd) hl k) K
theorem g_iload (C : Cx p l s m meth c Z x0 code maxL ret) (X : Stand p l e R s m args below meth c T locs cells slots) {pc pc' : Nat} {Ls : Array Slot} {st : List Value} {k : Nat} {v : Int32} (hd : decode code pc = .ok (.iload k, 2)) (hl : Ls[k]? = some (.val (.int v))) (hp : pc + 2 = pc')
    (K : Go p.tables e below G T (mkF m pc' Ls (.int v :: st))) : Go p.tables e below G T (mkF m pc Ls (st)) := by
  subst hp; exact Go.step (fun _ k => XS.iload X.here C.exec rfl (C.at hd) hl k) K
theorem g_istoreN (C : Cx p l s m meth c Z x0 code maxL ret) (X : Stand p l e R s m args below meth c T locs cells slots) {pc pc' : Nat} {Ls : Array Slot} {st : List Value} {k : Fin 4} {x y : Int32} {l' : Array Slot} (hd : decode code pc = .ok (.istore_n k, 1)) (hv : x = y) (hl : storeLocals Ls k.val (.int x) = some l') (hp : pc + 1 = pc')
    (K : Go p.tables e below G T (mkF m pc' l' (st))) : Go p.tables e below G T (mkF m pc Ls (.int y :: st)) := by
  subst hp; subst hv; exact Go.step (fun _ k => XS.istoreN X.here C.exec rfl (C.at hd) rfl hl k) K
theorem g_istore (C : Cx p l s m meth c Z x0 code maxL ret) (X : Stand p l e R s m args below meth c T locs cells slots) {pc pc' : Nat} {Ls : Array Slot} {st : List Value} {k : Nat} {x y : Int32} {l' : Array Slot} (hd : decode code pc = .ok (.istore k, 2)) (hv : x = y) (hl : storeLocals Ls k (.int x) = some l') (hp : pc + 2 = pc')
    (K : Go p.tables e below G T (mkF m pc' l' (st))) : Go p.tables e below G T (mkF m pc Ls (.int y :: st)) := by
  subst hp; subst hv; exact Go.step (fun _ k => XS.istore X.here C.exec rfl (C.at hd) rfl hl k) K
theorem g_lloadN (C : Cx p l s m meth c Z x0 code maxL ret) (X : Stand p l e R s m args below meth c T locs cells slots) {pc pc' : Nat} {Ls : Array Slot} {st : List Value} {k : Fin 4} {v : Int64} (hd : decode code pc = .ok (.lload_n k, 1)) (hl : Ls[k.val]? = some (.val (.long v))) (hp : pc + 1 = pc')
    (K : Go p.tables e below G T (mkF m pc' Ls (.long v :: st))) : Go p.tables e below G T (mkF m pc Ls (st)) := by
  subst hp; exact Go.step (fun _ k => XT.lloadN X.here C.exec rfl (C.at hd) hl k) K
theorem g_lload (C : Cx p l s m meth c Z x0 code maxL ret) (X : Stand p l e R s m args below meth c T locs cells slots) {pc pc' : Nat} {Ls : Array Slot} {st : List Value} {k : Nat} {v : Int64} (hd : decode code pc = .ok (.lload k, 2)) (hl : Ls[k]? = some (.val (.long v))) (hp : pc + 2 = pc')
    (K : Go p.tables e below G T (mkF m pc' Ls (.long v :: st))) : Go p.tables e below G T (mkF m pc Ls (st)) := by
  subst hp; exact Go.step (fun _ k => XT.lload X.here C.exec rfl (C.at hd) hl k) K
theorem g_lstoreN (C : Cx p l s m meth c Z x0 code maxL ret) (X : Stand p l e R s m args below meth c T locs cells slots) {pc pc' : Nat} {Ls : Array Slot} {st : List Value} {k : Fin 4} {x y : Int64} {l' : Array Slot} (hd : decode code pc = .ok (.lstore_n k, 1)) (hv : x = y) (hl : storeLocals Ls k.val (.long x) = some l') (hp : pc + 1 = pc')
    (K : Go p.tables e below G T (mkF m pc' l' (st))) : Go p.tables e below G T (mkF m pc Ls (.long y :: st)) := by
  subst hp; subst hv; exact Go.step (fun _ k => XT.lstoreN X.here C.exec rfl (C.at hd) rfl hl k) K
theorem g_lstore (C : Cx p l s m meth c Z x0 code maxL ret) (X : Stand p l e R s m args below meth c T locs cells slots) {pc pc' : Nat} {Ls : Array Slot} {st : List Value} {k : Nat} {x y : Int64} {l' : Array Slot} (hd : decode code pc = .ok (.lstore k, 2)) (hv : x = y) (hl : storeLocals Ls k (.long x) = some l') (hp : pc + 2 = pc')
    (K : Go p.tables e below G T (mkF m pc' l' (st))) : Go p.tables e below G T (mkF m pc Ls (.long y :: st)) := by
  subst hp; subst hv; exact Go.step (fun _ k => XT.lstore X.here C.exec rfl (C.at hd) rfl hl k) K
theorem g_dloadN (C : Cx p l s m meth c Z x0 code maxL ret) (X : Stand p l e R s m args below meth c T locs cells slots) {pc pc' : Nat} {Ls : Array Slot} {st : List Value} {k : Fin 4} {v : UInt64} (hd : decode code pc = .ok (.dload_n k, 1)) (hl : Ls[k.val]? = some (.val (.double v))) (hp : pc + 1 = pc')
    (K : Go p.tables e below G T (mkF m pc' Ls (.double v :: st))) : Go p.tables e below G T (mkF m pc Ls (st)) := by
  subst hp; exact Go.step (fun _ k => XS.dloadN X.here C.exec rfl (C.at hd) hl k) K
theorem g_dload (C : Cx p l s m meth c Z x0 code maxL ret) (X : Stand p l e R s m args below meth c T locs cells slots) {pc pc' : Nat} {Ls : Array Slot} {st : List Value} {k : Nat} {v : UInt64} (hd : decode code pc = .ok (.dload k, 2)) (hl : Ls[k]? = some (.val (.double v))) (hp : pc + 2 = pc')
    (K : Go p.tables e below G T (mkF m pc' Ls (.double v :: st))) : Go p.tables e below G T (mkF m pc Ls (st)) := by
  subst hp; exact Go.step (fun _ k => XS.dload X.here C.exec rfl (C.at hd) hl k) K
theorem g_dstoreN (C : Cx p l s m meth c Z x0 code maxL ret) (X : Stand p l e R s m args below meth c T locs cells slots) {pc pc' : Nat} {Ls : Array Slot} {st : List Value} {k : Fin 4} {x y : UInt64} {l' : Array Slot} (hd : decode code pc = .ok (.dstore_n k, 1)) (hv : x = y) (hl : storeLocals Ls k.val (.double x) = some l') (hp : pc + 1 = pc')
    (K : Go p.tables e below G T (mkF m pc' l' (st))) : Go p.tables e below G T (mkF m pc Ls (.double y :: st)) := by
  subst hp; subst hv; exact Go.step (fun _ k => XS.dstoreN X.here C.exec rfl (C.at hd) rfl hl k) K
theorem g_dstore (C : Cx p l s m meth c Z x0 code maxL ret) (X : Stand p l e R s m args below meth c T locs cells slots) {pc pc' : Nat} {Ls : Array Slot} {st : List Value} {k : Nat} {x y : UInt64} {l' : Array Slot} (hd : decode code pc = .ok (.dstore k, 2)) (hv : x = y) (hl : storeLocals Ls k (.double x) = some l') (hp : pc + 2 = pc')
    (K : Go p.tables e below G T (mkF m pc' l' (st))) : Go p.tables e below G T (mkF m pc Ls (.double y :: st)) := by
  subst hp; subst hv; exact Go.step (fun _ k => XS.dstore X.here C.exec rfl (C.at hd) rfl hl k) K
theorem g_astoreN (C : Cx p l s m meth c Z x0 code maxL ret) (X : Stand p l e R s m args below meth c T locs cells slots) {pc pc' : Nat} {Ls : Array Slot} {st : List Value} {k : Fin 4} {v : Value} {l' : Array Slot} (hd : decode code pc = .ok (.astore_n k, 1)) (hv : v.isRef = true) (hl : storeLocals Ls k.val v = some l') (hp : pc + 1 = pc')
    (K : Go p.tables e below G T (mkF m pc' l' (st))) : Go p.tables e below G T (mkF m pc Ls (v :: st)) := by
  subst hp; exact Go.step (fun _ k => XS.astoreN X.here C.exec rfl (C.at hd) rfl hv hl k) K
theorem g_astore (C : Cx p l s m meth c Z x0 code maxL ret) (X : Stand p l e R s m args below meth c T locs cells slots) {pc pc' : Nat} {Ls : Array Slot} {st : List Value} {k : Nat} {v : Value} {l' : Array Slot} (hd : decode code pc = .ok (.astore k, 2)) (hv : v.isRef = true) (hl : storeLocals Ls k v = some l') (hp : pc + 2 = pc')
    (K : Go p.tables e below G T (mkF m pc' l' (st))) : Go p.tables e below G T (mkF m pc Ls (v :: st)) := by
  subst hp; exact Go.step (fun _ k => XS.astore X.here C.exec rfl (C.at hd) rfl hv hl k) K
theorem g_iconst (C : Cx p l s m meth c Z x0 code maxL ret) (X : Stand p l e R s m args below meth c T locs cells slots) {pc pc' : Nat} {Ls : Array Slot} {st : List Value} {i : Int} {v : Int32} (hd : decode code pc = .ok (.iconst i, 1)) (hv : Int32.ofInt i = v) (hp : pc + 1 = pc')
    (K : Go p.tables e below G T (mkF m pc' Ls (.int v :: st))) : Go p.tables e below G T (mkF m pc Ls (st)) := by
  subst hp; subst hv; exact Go.step (fun _ k => XS.iconst X.here C.exec rfl (C.at hd)  k) K
theorem g_bipush (C : Cx p l s m meth c Z x0 code maxL ret) (X : Stand p l e R s m args below meth c T locs cells slots) {pc pc' : Nat} {Ls : Array Slot} {st : List Value} {i : Int} {v : Int32} (hd : decode code pc = .ok (.bipush i, 2)) (hv : (Int8.ofInt i).toInt32 = v) (hp : pc + 2 = pc')
    (K : Go p.tables e below G T (mkF m pc' Ls (.int v :: st))) : Go p.tables e below G T (mkF m pc Ls (st)) := by
  subst hp; subst hv; exact Go.step (fun _ k => XS.bipush X.here C.exec rfl (C.at hd)  k) K
theorem g_sipush (C : Cx p l s m meth c Z x0 code maxL ret) (X : Stand p l e R s m args below meth c T locs cells slots) {pc pc' : Nat} {Ls : Array Slot} {st : List Value} {i : Int} {v : Int32} (hd : decode code pc = .ok (.sipush i, 3)) (hv : (Int16.ofInt i).toInt32 = v) (hp : pc + 3 = pc')
    (K : Go p.tables e below G T (mkF m pc' Ls (.int v :: st))) : Go p.tables e below G T (mkF m pc Ls (st)) := by
  subst hp; subst hv; exact Go.step (fun _ k => XS.sipush X.here C.exec rfl (C.at hd)  k) K
theorem g_aconstNull (C : Cx p l s m meth c Z x0 code maxL ret) (X : Stand p l e R s m args below meth c T locs cells slots) {pc pc' : Nat} {Ls : Array Slot} {st : List Value}  (hd : decode code pc = .ok (.aconst_null, 1))  (hp : pc + 1 = pc')
    (K : Go p.tables e below G T (mkF m pc' Ls (.null :: st))) : Go p.tables e below G T (mkF m pc Ls (st)) := by
  subst hp; exact Go.step (fun _ k => XS.aconstNull X.here C.exec rfl (C.at hd)  k) K
theorem g_lconst (C : Cx p l s m meth c Z x0 code maxL ret) (X : Stand p l e R s m args below meth c T locs cells slots) {pc pc' : Nat} {Ls : Array Slot} {st : List Value} {k : Fin 2} {v : Int64} (hd : decode code pc = .ok (.lconst k, 1)) (hv : Int64.ofNat k = v) (hp : pc + 1 = pc')
    (K : Go p.tables e below G T (mkF m pc' Ls (.long v :: st))) : Go p.tables e below G T (mkF m pc Ls (st)) := by
  subst hp; subst hv; exact Go.step (fun _ k => XT.lconst X.here C.exec rfl (C.at hd)  k) K
theorem g_dconst0 (C : Cx p l s m meth c Z x0 code maxL ret) (X : Stand p l e R s m args below meth c T locs cells slots) {pc pc' : Nat} {Ls : Array Slot} {st : List Value} {v : UInt64} (hd : decode code pc = .ok (.dconst 0, 1)) (hv : FP.dconst0 = v) (hp : pc + 1 = pc')
    (K : Go p.tables e below G T (mkF m pc' Ls (.double v :: st))) : Go p.tables e below G T (mkF m pc Ls (st)) := by
  subst hp; exact Go.step (fun _ k => XS.dconst0 X.here C.exec rfl (C.at hd) hv k) K
theorem g_dconst1 (C : Cx p l s m meth c Z x0 code maxL ret) (X : Stand p l e R s m args below meth c T locs cells slots) {pc pc' : Nat} {Ls : Array Slot} {st : List Value} {v : UInt64} (hd : decode code pc = .ok (.dconst 1, 1)) (hv : FP.dconst1 = v) (hp : pc + 1 = pc')
    (K : Go p.tables e below G T (mkF m pc' Ls (.double v :: st))) : Go p.tables e below G T (mkF m pc Ls (st)) := by
  subst hp; exact Go.step (fun _ k => XS.dconst1 X.here C.exec rfl (C.at hd) hv k) K
theorem g_iadd (C : Cx p l s m meth c Z x0 code maxL ret) (X : Stand p l e R s m args below meth c T locs cells slots) {pc pc' : Nat} {Ls : Array Slot} {st : List Value} {x y : Int32} (hd : decode code pc = .ok (.iadd, 1))  (hp : pc + 1 = pc')
    (K : Go p.tables e below G T (mkF m pc' Ls (.int (x + y) :: st))) : Go p.tables e below G T (mkF m pc Ls (.int y :: .int x :: st)) := by
  subst hp; exact Go.step (fun _ k => XS.iadd X.here C.exec rfl (C.at hd) rfl k) K
theorem g_isub (C : Cx p l s m meth c Z x0 code maxL ret) (X : Stand p l e R s m args below meth c T locs cells slots) {pc pc' : Nat} {Ls : Array Slot} {st : List Value} {x y : Int32} (hd : decode code pc = .ok (.isub, 1))  (hp : pc + 1 = pc')
    (K : Go p.tables e below G T (mkF m pc' Ls (.int (x - y) :: st))) : Go p.tables e below G T (mkF m pc Ls (.int y :: .int x :: st)) := by
  subst hp; exact Go.step (fun _ k => XS.isub X.here C.exec rfl (C.at hd) rfl k) K
theorem g_iand (C : Cx p l s m meth c Z x0 code maxL ret) (X : Stand p l e R s m args below meth c T locs cells slots) {pc pc' : Nat} {Ls : Array Slot} {st : List Value} {x y : Int32} (hd : decode code pc = .ok (.iand, 1))  (hp : pc + 1 = pc')
    (K : Go p.tables e below G T (mkF m pc' Ls (.int (x &&& y) :: st))) : Go p.tables e below G T (mkF m pc Ls (.int y :: .int x :: st)) := by
  subst hp; exact Go.step (fun _ k => XS.iand X.here C.exec rfl (C.at hd) rfl k) K
theorem g_imul (C : Cx p l s m meth c Z x0 code maxL ret) (X : Stand p l e R s m args below meth c T locs cells slots) {pc pc' : Nat} {Ls : Array Slot} {st : List Value} {x y : Int32} (hd : decode code pc = .ok (.imul, 1))  (hp : pc + 1 = pc')
    (K : Go p.tables e below G T (mkF m pc' Ls (.int (x * y) :: st))) : Go p.tables e below G T (mkF m pc Ls (.int y :: .int x :: st)) := by
  subst hp; exact Go.step (fun _ k => XS.imul X.here C.exec rfl (C.at hd) rfl k) K
theorem g_idiv (C : Cx p l s m meth c Z x0 code maxL ret) (X : Stand p l e R s m args below meth c T locs cells slots) {pc pc' : Nat} {Ls : Array Slot} {st : List Value} {x y : Int32} (hd : decode code pc = .ok (.idiv, 1)) (hy : y ≠ 0) (hp : pc + 1 = pc')
    (K : Go p.tables e below G T (mkF m pc' Ls (.int (x / y) :: st))) : Go p.tables e below G T (mkF m pc Ls (.int y :: .int x :: st)) := by
  subst hp; exact Go.step (fun _ k => XS.idiv X.here C.exec rfl (C.at hd) rfl hy k) K
theorem g_ineg (C : Cx p l s m meth c Z x0 code maxL ret) (X : Stand p l e R s m args below meth c T locs cells slots) {pc pc' : Nat} {Ls : Array Slot} {st : List Value} {x : Int32} (hd : decode code pc = .ok (.ineg, 1))  (hp : pc + 1 = pc')
    (K : Go p.tables e below G T (mkF m pc' Ls (.int (-x) :: st))) : Go p.tables e below G T (mkF m pc Ls (.int x :: st)) := by
  subst hp; exact Go.step (fun _ k => XS.ineg X.here C.exec rfl (C.at hd) rfl k) K
theorem g_ixor (C : Cx p l s m meth c Z x0 code maxL ret) (X : Stand p l e R s m args below meth c T locs cells slots) {pc pc' : Nat} {Ls : Array Slot} {st : List Value} {x y : Int32} (hd : decode code pc = .ok (.ixor, 1))  (hp : pc + 1 = pc')
    (K : Go p.tables e below G T (mkF m pc' Ls (.int (x ^^^ y) :: st))) : Go p.tables e below G T (mkF m pc Ls (.int y :: .int x :: st)) := by
  subst hp; exact Go.step (fun _ k => XT.ixor X.here C.exec rfl (C.at hd) rfl k) K
theorem g_ior (C : Cx p l s m meth c Z x0 code maxL ret) (X : Stand p l e R s m args below meth c T locs cells slots) {pc pc' : Nat} {Ls : Array Slot} {st : List Value} {x y : Int32} (hd : decode code pc = .ok (.ior, 1))  (hp : pc + 1 = pc')
    (K : Go p.tables e below G T (mkF m pc' Ls (.int (x ||| y) :: st))) : Go p.tables e below G T (mkF m pc Ls (.int y :: .int x :: st)) := by
  subst hp; exact Go.step (fun _ k => XT.ior X.here C.exec rfl (C.at hd) rfl k) K
theorem g_ishl (C : Cx p l s m meth c Z x0 code maxL ret) (X : Stand p l e R s m args below meth c T locs cells slots) {pc pc' : Nat} {Ls : Array Slot} {st : List Value} {x y : Int32} (hd : decode code pc = .ok (.ishl, 1))  (hp : pc + 1 = pc')
    (K : Go p.tables e below G T (mkF m pc' Ls (.int (x <<< (y &&& 31)) :: st))) : Go p.tables e below G T (mkF m pc Ls (.int y :: .int x :: st)) := by
  subst hp; exact Go.step (fun _ k => XT.ishl X.here C.exec rfl (C.at hd) rfl k) K
theorem g_ishr (C : Cx p l s m meth c Z x0 code maxL ret) (X : Stand p l e R s m args below meth c T locs cells slots) {pc pc' : Nat} {Ls : Array Slot} {st : List Value} {x y : Int32} (hd : decode code pc = .ok (.ishr, 1))  (hp : pc + 1 = pc')
    (K : Go p.tables e below G T (mkF m pc' Ls (.int (x >>> (y &&& 31)) :: st))) : Go p.tables e below G T (mkF m pc Ls (.int y :: .int x :: st)) := by
  subst hp; exact Go.step (fun _ k => XT.ishr X.here C.exec rfl (C.at hd) rfl k) K
theorem g_iushr (C : Cx p l s m meth c Z x0 code maxL ret) (X : Stand p l e R s m args below meth c T locs cells slots) {pc pc' : Nat} {Ls : Array Slot} {st : List Value} {x y : Int32} (hd : decode code pc = .ok (.iushr, 1))  (hp : pc + 1 = pc')
    (K : Go p.tables e below G T (mkF m pc' Ls (.int (XT.ushr x y) :: st))) : Go p.tables e below G T (mkF m pc Ls (.int y :: .int x :: st)) := by
  subst hp; exact Go.step (fun _ k => XT.iushr X.here C.exec rfl (C.at hd) rfl k) K
theorem g_ladd (C : Cx p l s m meth c Z x0 code maxL ret) (X : Stand p l e R s m args below meth c T locs cells slots) {pc pc' : Nat} {Ls : Array Slot} {st : List Value} {x y : Int64} (hd : decode code pc = .ok (.ladd, 1))  (hp : pc + 1 = pc')
    (K : Go p.tables e below G T (mkF m pc' Ls (.long (x + y) :: st))) : Go p.tables e below G T (mkF m pc Ls (.long y :: .long x :: st)) := by
  subst hp; exact Go.step (fun _ k => XT.ladd X.here C.exec rfl (C.at hd) rfl k) K
theorem g_lsub (C : Cx p l s m meth c Z x0 code maxL ret) (X : Stand p l e R s m args below meth c T locs cells slots) {pc pc' : Nat} {Ls : Array Slot} {st : List Value} {x y : Int64} (hd : decode code pc = .ok (.lsub, 1))  (hp : pc + 1 = pc')
    (K : Go p.tables e below G T (mkF m pc' Ls (.long (x - y) :: st))) : Go p.tables e below G T (mkF m pc Ls (.long y :: .long x :: st)) := by
  subst hp; exact Go.step (fun _ k => XT.lsub X.here C.exec rfl (C.at hd) rfl k) K
theorem g_lmul (C : Cx p l s m meth c Z x0 code maxL ret) (X : Stand p l e R s m args below meth c T locs cells slots) {pc pc' : Nat} {Ls : Array Slot} {st : List Value} {x y : Int64} (hd : decode code pc = .ok (.lmul, 1))  (hp : pc + 1 = pc')
    (K : Go p.tables e below G T (mkF m pc' Ls (.long (x * y) :: st))) : Go p.tables e below G T (mkF m pc Ls (.long y :: .long x :: st)) := by
  subst hp; exact Go.step (fun _ k => XT.lmul X.here C.exec rfl (C.at hd) rfl k) K
theorem g_land (C : Cx p l s m meth c Z x0 code maxL ret) (X : Stand p l e R s m args below meth c T locs cells slots) {pc pc' : Nat} {Ls : Array Slot} {st : List Value} {x y : Int64} (hd : decode code pc = .ok (.land, 1))  (hp : pc + 1 = pc')
    (K : Go p.tables e below G T (mkF m pc' Ls (.long (x &&& y) :: st))) : Go p.tables e below G T (mkF m pc Ls (.long y :: .long x :: st)) := by
  subst hp; exact Go.step (fun _ k => XT.land X.here C.exec rfl (C.at hd) rfl k) K
theorem g_lor (C : Cx p l s m meth c Z x0 code maxL ret) (X : Stand p l e R s m args below meth c T locs cells slots) {pc pc' : Nat} {Ls : Array Slot} {st : List Value} {x y : Int64} (hd : decode code pc = .ok (.lor, 1))  (hp : pc + 1 = pc')
    (K : Go p.tables e below G T (mkF m pc' Ls (.long (x ||| y) :: st))) : Go p.tables e below G T (mkF m pc Ls (.long y :: .long x :: st)) := by
  subst hp; exact Go.step (fun _ k => XT.lor X.here C.exec rfl (C.at hd) rfl k) K
theorem g_lxor (C : Cx p l s m meth c Z x0 code maxL ret) (X : Stand p l e R s m args below meth c T locs cells slots) {pc pc' : Nat} {Ls : Array Slot} {st : List Value} {x y : Int64} (hd : decode code pc = .ok (.lxor, 1))  (hp : pc + 1 = pc')
    (K : Go p.tables e below G T (mkF m pc' Ls (.long (x ^^^ y) :: st))) : Go p.tables e below G T (mkF m pc Ls (.long y :: .long x :: st)) := by
  subst hp; exact Go.step (fun _ k => XT.lxor X.here C.exec rfl (C.at hd) rfl k) K
theorem g_lneg (C : Cx p l s m meth c Z x0 code maxL ret) (X : Stand p l e R s m args below meth c T locs cells slots) {pc pc' : Nat} {Ls : Array Slot} {st : List Value} {x : Int64} (hd : decode code pc = .ok (.lneg, 1))  (hp : pc + 1 = pc')
    (K : Go p.tables e below G T (mkF m pc' Ls (.long (-x) :: st))) : Go p.tables e below G T (mkF m pc Ls (.long x :: st)) := by
  subst hp; exact Go.step (fun _ k => XT.lneg X.here C.exec rfl (C.at hd) rfl k) K
theorem g_i2l (C : Cx p l s m meth c Z x0 code maxL ret) (X : Stand p l e R s m args below meth c T locs cells slots) {pc pc' : Nat} {Ls : Array Slot} {st : List Value} {x : Int32} (hd : decode code pc = .ok (.i2l, 1))  (hp : pc + 1 = pc')
    (K : Go p.tables e below G T (mkF m pc' Ls (.long x.toInt64 :: st))) : Go p.tables e below G T (mkF m pc Ls (.int x :: st)) := by
  subst hp; exact Go.step (fun _ k => XT.i2l X.here C.exec rfl (C.at hd) rfl k) K
theorem g_l2i (C : Cx p l s m meth c Z x0 code maxL ret) (X : Stand p l e R s m args below meth c T locs cells slots) {pc pc' : Nat} {Ls : Array Slot} {st : List Value} {x : Int64} (hd : decode code pc = .ok (.l2i, 1))  (hp : pc + 1 = pc')
    (K : Go p.tables e below G T (mkF m pc' Ls (.int x.toInt32 :: st))) : Go p.tables e below G T (mkF m pc Ls (.long x :: st)) := by
  subst hp; exact Go.step (fun _ k => XT.l2i X.here C.exec rfl (C.at hd) rfl k) K
theorem g_i2b (C : Cx p l s m meth c Z x0 code maxL ret) (X : Stand p l e R s m args below meth c T locs cells slots) {pc pc' : Nat} {Ls : Array Slot} {st : List Value} {x : Int32} (hd : decode code pc = .ok (.i2b, 1))  (hp : pc + 1 = pc')
    (K : Go p.tables e below G T (mkF m pc' Ls (.int x.toInt8.toInt32 :: st))) : Go p.tables e below G T (mkF m pc Ls (.int x :: st)) := by
  subst hp; exact Go.step (fun _ k => XT.i2b X.here C.exec rfl (C.at hd) rfl k) K
theorem g_i2s (C : Cx p l s m meth c Z x0 code maxL ret) (X : Stand p l e R s m args below meth c T locs cells slots) {pc pc' : Nat} {Ls : Array Slot} {st : List Value} {x : Int32} (hd : decode code pc = .ok (.i2s, 1))  (hp : pc + 1 = pc')
    (K : Go p.tables e below G T (mkF m pc' Ls (.int x.toInt16.toInt32 :: st))) : Go p.tables e below G T (mkF m pc Ls (.int x :: st)) := by
  subst hp; exact Go.step (fun _ k => XT.i2s X.here C.exec rfl (C.at hd) rfl k) K
theorem g_i2d (C : Cx p l s m meth c Z x0 code maxL ret) (X : Stand p l e R s m args below meth c T locs cells slots) {pc pc' : Nat} {Ls : Array Slot} {st : List Value} {x : Int32} (hd : decode code pc = .ok (.i2d, 1))  (hp : pc + 1 = pc')
    (K : Go p.tables e below G T (mkF m pc' Ls (.double (FP.i2d x) :: st))) : Go p.tables e below G T (mkF m pc Ls (.int x :: st)) := by
  subst hp; exact Go.step (fun _ k => XS.i2dS X.here C.exec rfl (C.at hd) rfl rfl k) K
theorem g_l2d (C : Cx p l s m meth c Z x0 code maxL ret) (X : Stand p l e R s m args below meth c T locs cells slots) {pc pc' : Nat} {Ls : Array Slot} {st : List Value} {x : Int64} (hd : decode code pc = .ok (.l2d, 1))  (hp : pc + 1 = pc')
    (K : Go p.tables e below G T (mkF m pc' Ls (.double (FP.l2d x) :: st))) : Go p.tables e below G T (mkF m pc Ls (.long x :: st)) := by
  subst hp; exact Go.step (fun _ k => XS.l2dS X.here C.exec rfl (C.at hd) rfl rfl k) K
theorem g_dneg (C : Cx p l s m meth c Z x0 code maxL ret) (X : Stand p l e R s m args below meth c T locs cells slots) {pc pc' : Nat} {Ls : Array Slot} {st : List Value} {x : UInt64} (hd : decode code pc = .ok (.dneg, 1))  (hp : pc + 1 = pc')
    (K : Go p.tables e below G T (mkF m pc' Ls (.double (FP.dneg x) :: st))) : Go p.tables e below G T (mkF m pc Ls (.double x :: st)) := by
  subst hp; exact Go.step (fun _ k => XS.dnegS X.here C.exec rfl (C.at hd) rfl rfl k) K
theorem g_dcmp (C : Cx p l s m meth c Z x0 code maxL ret) (X : Stand p l e R s m args below meth c T locs cells slots) {pc pc' : Nat} {Ls : Array Slot} {st : List Value} {o : CmpOp} {x y : UInt64} (hd : decode code pc = .ok (.dcmp o, 1))  (hp : pc + 1 = pc')
    (K : Go p.tables e below G T (mkF m pc' Ls (.int (cmpValue (FP.dcmp x y) o) :: st))) : Go p.tables e below G T (mkF m pc Ls (.double y :: .double x :: st)) := by
  subst hp; exact Go.step (fun _ k => XS.dcmpS X.here C.exec rfl (C.at hd) rfl rfl k) K
theorem g_dcmpV (C : Cx p l s m meth c Z x0 code maxL ret) (X : Stand p l e R s m args below meth c T locs cells slots) {pc pc' : Nat} {Ls : Array Slot} {st : List Value} {o : CmpOp} {x y : UInt64} {v : Int32} (hd : decode code pc = .ok (.dcmp o, 1)) (hv : cmpValue (FP.dcmp x y) o = v) (hp : pc + 1 = pc')
    (K : Go p.tables e below G T (mkF m pc' Ls (.int v :: st))) : Go p.tables e below G T (mkF m pc Ls (.double y :: .double x :: st)) := by
  subst hp; exact Go.step (fun _ k => XS.dcmpS X.here C.exec rfl (C.at hd) rfl hv k) K
theorem g_dadd (C : Cx p l s m meth c Z x0 code maxL ret) (X : Stand p l e R s m args below meth c T locs cells slots) {pc pc' : Nat} {Ls : Array Slot} {st : List Value} {x y : UInt64} (hd : decode code pc = .ok (.dadd, 1)) (hn : Jvm.Free.Fl.NoNaN64 (FP.dadd x y)) (hp : pc + 1 = pc')
    (K : Go p.tables e below G T (mkF m pc' Ls (.double (FP.dadd x y) :: st))) : Go p.tables e below G T (mkF m pc Ls (.double y :: .double x :: st)) := by
  subst hp; exact Go.step (fun _ k => XS.daddS X.here C.exec rfl (C.at hd) rfl hn rfl k) K
theorem g_dsub (C : Cx p l s m meth c Z x0 code maxL ret) (X : Stand p l e R s m args below meth c T locs cells slots) {pc pc' : Nat} {Ls : Array Slot} {st : List Value} {x y : UInt64} (hd : decode code pc = .ok (.dsub, 1)) (hn : Jvm.Free.Fl.NoNaN64 (FP.dsub x y)) (hp : pc + 1 = pc')
    (K : Go p.tables e below G T (mkF m pc' Ls (.double (FP.dsub x y) :: st))) : Go p.tables e below G T (mkF m pc Ls (.double y :: .double x :: st)) := by
  subst hp; exact Go.step (fun _ k => XS.dsubS X.here C.exec rfl (C.at hd) rfl hn rfl k) K
theorem g_dmul (C : Cx p l s m meth c Z x0 code maxL ret) (X : Stand p l e R s m args below meth c T locs cells slots) {pc pc' : Nat} {Ls : Array Slot} {st : List Value} {x y : UInt64} (hd : decode code pc = .ok (.dmul, 1)) (hn : Jvm.Free.Fl.NoNaN64 (FP.dmul x y)) (hp : pc + 1 = pc')
    (K : Go p.tables e below G T (mkF m pc' Ls (.double (FP.dmul x y) :: st))) : Go p.tables e below G T (mkF m pc Ls (.double y :: .double x :: st)) := by
  subst hp; exact Go.step (fun _ k => XS.dmulS X.here C.exec rfl (C.at hd) rfl hn rfl k) K
theorem g_ddiv (C : Cx p l s m meth c Z x0 code maxL ret) (X : Stand p l e R s m args below meth c T locs cells slots) {pc pc' : Nat} {Ls : Array Slot} {st : List Value} {x y : UInt64} (hd : decode code pc = .ok (.ddiv, 1)) (hn : Jvm.Free.Fl.NoNaN64 (FP.ddiv x y)) (hp : pc + 1 = pc')
    (K : Go p.tables e below G T (mkF m pc' Ls (.double (FP.ddiv x y) :: st))) : Go p.tables e below G T (mkF m pc Ls (.double y :: .double x :: st)) := by
  subst hp; exact Go.step (fun _ k => XS.ddivS X.here C.exec rfl (C.at hd) rfl hn rfl k) K
theorem g_lcmp (C : Cx p l s m meth c Z x0 code maxL ret) (X : Stand p l e R s m args below meth c T locs cells slots) {pc pc' : Nat} {Ls : Array Slot} {st : List Value} {x y : Int64} (hd : decode code pc = .ok (.lcmp, 1))  (hp : pc + 1 = pc')
    (K : Go p.tables e below G T (mkF m pc' Ls (.int (XT.cmpL x y) :: st))) : Go p.tables e below G T (mkF m pc Ls (.long y :: .long x :: st)) := by
  subst hp; exact Go.step (fun _ k => XT.lcmp X.here C.exec rfl (C.at hd) rfl k) K
theorem g_pop (C : Cx p l s m meth c Z x0 code maxL ret) (X : Stand p l e R s m args below meth c T locs cells slots) {pc pc' : Nat} {Ls : Array Slot} {st : List Value} {x : Value} (hd : decode code pc = .ok (.pop, 1)) (hc : x.category = 1) (hp : pc + 1 = pc')
    (K : Go p.tables e below G T (mkF m pc' Ls (st))) : Go p.tables e below G T (mkF m pc Ls (x :: st)) := by
  subst hp; exact Go.step (fun _ k => XT.pop X.here C.exec rfl (C.at hd) rfl hc k) K
theorem g_dup (C : Cx p l s m meth c Z x0 code maxL ret) (X : Stand p l e R s m args below meth c T locs cells slots) {pc pc' : Nat} {Ls : Array Slot} {st : List Value} {x : Value} (hd : decode code pc = .ok (.dup, 1)) (hc : x.category = 1) (hp : pc + 1 = pc')
    (K : Go p.tables e below G T (mkF m pc' Ls (x :: x :: st))) : Go p.tables e below G T (mkF m pc Ls (x :: st)) := by
  subst hp; exact Go.step (fun _ k => XS.dup X.here C.exec rfl (C.at hd) rfl hc k) K
theorem g_dupX1 (C : Cx p l s m meth c Z x0 code maxL ret) (X : Stand p l e R s m args below meth c T locs cells slots) {pc pc' : Nat} {Ls : Array Slot} {st : List Value} {x y : Value} (hd : decode code pc = .ok (.dup_x1, 1)) (hc : x.category = 1) (hc' : y.category = 1) (hp : pc + 1 = pc')
    (K : Go p.tables e below G T (mkF m pc' Ls (x :: y :: x :: st))) : Go p.tables e below G T (mkF m pc Ls (x :: y :: st)) := by
  subst hp; exact Go.step (fun _ k => XT.dupX1 X.here C.exec rfl (C.at hd) rfl hc hc' k) K
theorem g_dup2 (C : Cx p l s m meth c Z x0 code maxL ret) (X : Stand p l e R s m args below meth c T locs cells slots) {pc pc' : Nat} {Ls : Array Slot} {st : List Value} {x y : Value} (hd : decode code pc = .ok (.dup2, 1)) (hc : x.category = 1) (hc' : y.category = 1) (hp : pc + 1 = pc')
    (K : Go p.tables e below G T (mkF m pc' Ls (x :: y :: x :: y :: st))) : Go p.tables e below G T (mkF m pc Ls (x :: y :: st)) := by
  subst hp; exact Go.step (fun _ k => XT.dup2 X.here C.exec rfl (C.at hd) rfl hc hc' k) K
theorem g_iinc (C : Cx p l s m meth c Z x0 code maxL ret) (X : Stand p l e R s m args below meth c T locs cells slots) {pc pc' : Nat} {Ls : Array Slot} {st : List Value} {k : Nat} {cst : Int} {x z : Int32} {l' : Array Slot} (hd : decode code pc = .ok (.iinc k cst, 3)) (hl : Ls[k]? = some (.val (.int x))) (hz : z = x + Int32.ofInt cst) (hl' : storeLocals Ls k (.int z) = some l') (hp : pc + 3 = pc')
    (K : Go p.tables e below G T (mkF m pc' l' (st))) : Go p.tables e below G T (mkF m pc Ls (st)) := by
  subst hp; subst hz; exact Go.step (fun _ k => XS.iinc X.here C.exec rfl (C.at hd) hl hl' k) K
theorem g_irem (C : Cx p l s m meth c Z x0 code maxL ret) (X : Stand p l e R s m args below meth c T locs cells slots) {pc pc' : Nat} {Ls : Array Slot} {st : List Value} {x y : Int32} (hd : decode code pc = .ok (.irem, 1)) (hy : y ≠ 0) (hp : pc + 1 = pc')
    (K : Go p.tables e below G T (mkF m pc' Ls (.int (x % y) :: st))) : Go p.tables e below G T (mkF m pc Ls (.int y :: .int x :: st)) := by
  subst hp; exact Go.step (fun _ k => iremM X C.exec rfl (C.at hd) rfl hy k) K
theorem g_lushr (C : Cx p l s m meth c Z x0 code maxL ret) (X : Stand p l e R s m args below meth c T locs cells slots) {pc pc' : Nat} {Ls : Array Slot} {st : List Value} {x : Int64} {y : Int32} (hd : decode code pc = .ok (.lushr, 1)) (hp : pc + 1 = pc')
    (K : Go p.tables e below G T (mkF m pc' Ls (.long (XT.ushrL x y) :: st))) : Go p.tables e below G T (mkF m pc Ls (.int y :: .long x :: st)) := by
  subst hp; exact Go.step (fun _ k => XT.lushr X.here C.exec rfl (C.at hd) rfl k) K
/-- what a branch asks, of whole numbers -/
abbrev cpI : ClassFile.Cond → Int → Int → Prop
  | .eq, x, y => x = y
  | .ne, x, y => ¬ x = y
  | .lt, x, y => x < y
  | .ge, x, y => ¬ x < y
  | .gt, x, y => y < x
  | .le, x, y => ¬ y < x
theorem holds_icmp (cd : ClassFile.Cond) (x y : Int32) : if_icmp.holds cd x y = true ↔ cpI cd x.toInt y.toInt := by
  cases cd <;> simp only [if_icmp.holds, cpI, decide_eq_true_eq, beq_iff_eq, bne_iff_ne, ne_eq, Int32.lt_iff_toInt_lt, Int32.le_iff_toInt_le, Int32.toInt_inj, Int.not_lt, ge_iff_le, gt_iff_lt]
theorem holds_if (cd : ClassFile.Cond) (x : Int32) : ifCond.holds cd x = true ↔ cpI cd x.toInt 0 := by
  rw [if0]; exact holds_icmp cd x 0
theorem g_goto (C : Cx p l s m meth c Z x0 code maxL ret) (X : Stand p l e R s m args below meth c T locs cells slots) {pc pc' : Nat} {Ls : Array Slot} {st : List Value} {o : Int} (hd : decode code pc = .ok (.goto o, 3)) (ho : 0 ≤ (pc : Int) + o) (hp : ((pc : Int) + o).toNat = pc')
    (K : Go p.tables e below G T (mkF m pc' Ls st)) : Go p.tables e below G T (mkF m pc Ls st) :=
  Go.step (fun _ k => XS.goto X.here C.exec rfl rfl (C.at hd) ho hp k) K
theorem g_if (C : Cx p l s m meth c Z x0 code maxL ret) (X : Stand p l e R s m args below meth c T locs cells slots) {pc pc' pc'' : Nat} {Ls : Array Slot} {st : List Value} {cd : ClassFile.Cond} {x : Int32} {o : Int} (hd : decode code pc = .ok (.ifCond cd o, 3)) (ho : 0 ≤ (pc : Int) + o) (hp : ((pc : Int) + o).toNat = pc') (hp3 : pc + 3 = pc'')
    (K1 : cpI cd x.toInt 0 → Go p.tables e below G T (mkF m pc' Ls st)) (K2 : ¬ cpI cd x.toInt 0 → Go p.tables e below G T (mkF m pc'' Ls st)) : Go p.tables e below G T (mkF m pc Ls (.int x :: st)) := by
  subst hp3
  cases hc : ifCond.holds cd x with
  | true => exact Go.step (fun _ k => XS.ifYes X.here C.exec rfl rfl (C.at hd) rfl hc ho hp k) (K1 ((holds_if cd x).mp hc))
  | false => exact Go.step (fun _ k => XS.ifNo X.here C.exec rfl (C.at hd) rfl hc k) (K2 fun q => by rw [(holds_if cd x).mpr q] at hc; cases hc)
theorem g_icmp (C : Cx p l s m meth c Z x0 code maxL ret) (X : Stand p l e R s m args below meth c T locs cells slots) {pc pc' pc'' : Nat} {Ls : Array Slot} {st : List Value} {cd : ClassFile.Cond} {x y : Int32} {o : Int} (hd : decode code pc = .ok (.if_icmp cd o, 3)) (ho : 0 ≤ (pc : Int) + o) (hp : ((pc : Int) + o).toNat = pc') (hp3 : pc + 3 = pc'')
    (K1 : cpI cd x.toInt y.toInt → Go p.tables e below G T (mkF m pc' Ls st)) (K2 : ¬ cpI cd x.toInt y.toInt → Go p.tables e below G T (mkF m pc'' Ls st)) : Go p.tables e below G T (mkF m pc Ls (.int y :: .int x :: st)) := by
  subst hp3
  cases hc : if_icmp.holds cd x y with
  | true => exact Go.step (fun _ k => XS.icmpYes X.here C.exec rfl rfl (C.at hd) rfl hc ho hp k) (K1 ((holds_icmp cd x y).mp hc))
  | false => exact Go.step (fun _ k => XS.icmpNo X.here C.exec rfl (C.at hd) rfl hc k) (K2 fun q => by rw [(holds_icmp cd x y).mpr q] at hc; cases hc)
theorem g_ifY (C : Cx p l s m meth c Z x0 code maxL ret) (X : Stand p l e R s m args below meth c T locs cells slots) {pc pc' : Nat} {Ls : Array Slot} {st : List Value} {cd : ClassFile.Cond} {x : Int32} {o : Int} (hd : decode code pc = .ok (.ifCond cd o, 3)) (ho : 0 ≤ (pc : Int) + o) (hp : ((pc : Int) + o).toNat = pc') (hc : cpI cd x.toInt 0)
    (K1 : Go p.tables e below G T (mkF m pc' Ls st)) : Go p.tables e below G T (mkF m pc Ls (.int x :: st)) :=
  Go.step (fun _ k => XS.ifYes X.here C.exec rfl rfl (C.at hd) rfl ((holds_if cd x).mpr hc) ho hp k) K1
theorem g_ifN (C : Cx p l s m meth c Z x0 code maxL ret) (X : Stand p l e R s m args below meth c T locs cells slots) {pc pc' : Nat} {Ls : Array Slot} {st : List Value} {cd : ClassFile.Cond} {x : Int32} {o : Int} (hd : decode code pc = .ok (.ifCond cd o, 3)) (hc : ¬ cpI cd x.toInt 0) (hp : pc + 3 = pc')
    (K1 : Go p.tables e below G T (mkF m pc' Ls st)) : Go p.tables e below G T (mkF m pc Ls (.int x :: st)) := by
  subst hp
  exact Go.step (fun _ k => XS.ifNo X.here C.exec rfl (C.at hd) rfl (Bool.eq_false_iff.mpr fun q => hc ((holds_if cd x).mp q)) k) K1
theorem g_icmpY (C : Cx p l s m meth c Z x0 code maxL ret) (X : Stand p l e R s m args below meth c T locs cells slots) {pc pc' : Nat} {Ls : Array Slot} {st : List Value} {cd : ClassFile.Cond} {x y : Int32} {o : Int} (hd : decode code pc = .ok (.if_icmp cd o, 3)) (ho : 0 ≤ (pc : Int) + o) (hp : ((pc : Int) + o).toNat = pc') (hc : cpI cd x.toInt y.toInt)
    (K1 : Go p.tables e below G T (mkF m pc' Ls st)) : Go p.tables e below G T (mkF m pc Ls (.int y :: .int x :: st)) :=
  Go.step (fun _ k => XS.icmpYes X.here C.exec rfl rfl (C.at hd) rfl ((holds_icmp cd x y).mpr hc) ho hp k) K1
theorem g_icmpN (C : Cx p l s m meth c Z x0 code maxL ret) (X : Stand p l e R s m args below meth c T locs cells slots) {pc pc' : Nat} {Ls : Array Slot} {st : List Value} {cd : ClassFile.Cond} {x y : Int32} {o : Int} (hd : decode code pc = .ok (.if_icmp cd o, 3)) (hc : ¬ cpI cd x.toInt y.toInt) (hp : pc + 3 = pc')
    (K1 : Go p.tables e below G T (mkF m pc' Ls st)) : Go p.tables e below G T (mkF m pc Ls (.int y :: .int x :: st)) := by
  subst hp
  exact Go.step (fun _ k => XS.icmpNo X.here C.exec rfl (C.at hd) rfl (Bool.eq_false_iff.mpr fun q => hc ((holds_icmp cd x y).mp q)) k) K1
/-! leaving the body -/
theorem g_out {k n : Nat} {Q : Option Value → Heap → List Loc → Prop} (C : Cx p l s m meth c Z x0 code maxL ret) (X : Stand p l e R s m args below meth c T locs cells slots) {v : Option Value} {g : JFrame} (hv : ret = none → v = none)
    (st : ∀ fs, (∀ (f : JFrame) (acts : List Action), f.method = m → f.locked = none → f.entered = [] → (doReturn e (T.setTop f) acts v).1 = T.setFrames fs) → Steps p.tables e below (T.setTop g) (T.setFrames fs))
    (hQ : Q v T.heap locs) (hk : cells ≤ k) (hn : slots ≤ n) : Go p.tables e below (End s Q k n) T g := by
  obtain ⟨fs, hr, hrun, hended, hW, hsame⟩ := X.leave (v := v) (fun q => hv (C.rets ▸ q)) C.unlocked
  exact ⟨_, _, st fs hr, hrun, hended, v, locs, rfl, hQ, ⟨_, rfl⟩, hW, hsame.mono hk hn⟩
theorem g_ireturn {k n : Nat} {Q : Option Value → Heap → List Loc → Prop} (C : Cx p l s m meth c Z x0 code maxL (some .int)) (X : Stand p l e R s m args below meth c T locs cells slots) {pc : Nat} {Ls : Array Slot} {st : List Value} {z : Int32} (hd : decode code pc = .ok (.ireturn, 1))
    (hQ : Q (some (.int z)) T.heap locs) (hk : cells ≤ k) (hn : slots ≤ n) : Go p.tables e below (End s Q k n) T (mkF m pc Ls (.int z :: st)) :=
  g_out C X (v := some (.int z)) (fun q => by cases q) (fun fs hr => retOut X C.exec C.rets rfl (Or.inl ⟨rfl, Or.inl rfl, _, rfl⟩) (C.at hd) hr) hQ hk hn
theorem g_zreturn {k n : Nat} {Q : Option Value → Heap → List Loc → Prop} (C : Cx p l s m meth c Z x0 code maxL (some .boolean)) (X : Stand p l e R s m args below meth c T locs cells slots) {pc : Nat} {Ls : Array Slot} {st : List Value} {z w : Int32} (hd : decode code pc = .ok (.ireturn, 1)) (hw : nar .boolean z = w)
    (hQ : Q (some (.int w)) T.heap locs) (hk : cells ≤ k) (hn : slots ≤ n) : Go p.tables e below (End s Q k n) T (mkF m pc Ls (.int z :: st)) :=
  g_out C X (v := some (.int w)) (fun q => by cases q) (fun fs hr => retN X C.exec (t := .boolean) C.rets (by simp) (C.at hd) (hw ▸ hr)) hQ hk hn
theorem g_lreturn {k n : Nat} {Q : Option Value → Heap → List Loc → Prop} (C : Cx p l s m meth c Z x0 code maxL (some .long)) (X : Stand p l e R s m args below meth c T locs cells slots) {pc : Nat} {Ls : Array Slot} {st : List Value} {z : Int64} (hd : decode code pc = .ok (.lreturn, 1))
    (hQ : Q (some (.long z)) T.heap locs) (hk : cells ≤ k) (hn : slots ≤ n) : Go p.tables e below (End s Q k n) T (mkF m pc Ls (.long z :: st)) :=
  g_out C X (v := some (.long z)) (fun q => by cases q) (fun fs hr => retOut X C.exec C.rets rfl (Or.inr (Or.inl ⟨rfl, rfl, _, rfl⟩)) (C.at hd) hr) hQ hk hn
theorem g_dreturn {k n : Nat} {Q : Option Value → Heap → List Loc → Prop} (C : Cx p l s m meth c Z x0 code maxL (some .double)) (X : Stand p l e R s m args below meth c T locs cells slots) {pc : Nat} {Ls : Array Slot} {st : List Value} {z : UInt64} (hd : decode code pc = .ok (.dreturn, 1))
    (hQ : Q (some (.double z)) T.heap locs) (hk : cells ≤ k) (hn : slots ≤ n) : Go p.tables e below (End s Q k n) T (mkF m pc Ls (.double z :: st)) :=
  g_out C X (v := some (.double z)) (fun q => by cases q) (fun fs hr => retOut X C.exec C.rets rfl (Or.inr (Or.inr (Or.inl ⟨rfl, rfl, _, rfl⟩))) (C.at hd) hr) hQ hk hn
theorem g_areturn {k n : Nat} {Q : Option Value → Heap → List Loc → Prop} {t : FieldType} (C : Cx p l s m meth c Z x0 code maxL (some t)) (X : Stand p l e R s m args below meth c T locs cells slots) {pc : Nat} {Ls : Array Slot} {st : List Value} {w : Value} (hd : decode code pc = .ok (.areturn, 1)) (ht : t.isReference = true) (hw : w.isRef = true) (hna : narrow t w = w)
    (hQ : Q (some w) T.heap locs) (hk : cells ≤ k) (hn : slots ≤ n) : Go p.tables e below (End s Q k n) T (mkF m pc Ls (w :: st)) :=
  g_out C X (v := some w) (fun q => by cases q) (fun fs hr => retOut X C.exec C.rets hna (Or.inr (Or.inr (Or.inr (Or.inr ⟨rfl, ht, hw⟩)))) (C.at hd) hr) hQ hk hn
theorem g_return {k n : Nat} {Q : Option Value → Heap → List Loc → Prop} (C : Cx p l s m meth c Z x0 code maxL none) (X : Stand p l e R s m args below meth c T locs cells slots) {pc : Nat} {Ls : Array Slot} (hd : decode code pc = .ok (.return_, 1))
    (hQ : Q none T.heap locs) (hk : cells ≤ k) (hn : slots ≤ n) : Go p.tables e below (End s Q k n) T (mkF m pc Ls []) :=
  g_out C X (v := none) (fun _ => rfl) (fun fs hr => X.returnOut C.exec C.rets (C.at hd) hr) hQ hk hn
/-! calls -/
theorem g_callS (C : Cx p l s m meth c Z x0 code maxL ret) (X : Stand p l e R s m args below meth c T locs cells slots) {index : Nat} {y : MethodName} {bytes : ByteArray} {mL : Nat} {rt : Option FieldType} {rm : Room} {as : Array Value} {Q : Option Value → Heap → List Loc → Prop} (K0 : Con l Z y bytes mL rt rm as h Q)
    (w1 : (Cond.methodLink x0.cls index y).before a0 Z = true) (w2 : (Cond.static y).before a0 Z = true) (w3 : (Cond.initialized y.cls).before a0 Z = true) (w4 : (Cond.code y bytes mL rt).before a0 Z = true)
    (hy : y.cls ≠ "java/lang/invoke/MethodHandle" ∧ y.cls ≠ "java/lang/invoke/VarHandle") (eT : T.heap = h) {pc pc' : Nat} {Ls : Array Slot} {st : List Value} (hd : decode code pc = .ok (.invokestatic index, 3)) (hsz : Ls.size = maxL)
    {ps : List FieldType} {r : Option FieldType} (hpd : parseMethodDescriptor y.desc = some ⟨ps, r⟩) (argsL rest : List Value) (hlen : argsL.length = ps.length) (has : argsL.toArray = as) (hst : st = argsL.reverse ++ rest) (W : Nat) (hW : (rest.map fun v => v.category).sum = W)
    (hfr : rm.frames + 1 ≤ R.frames) (hlo : W + (mL + 11) + rm.locals ≤ R.locals) (hce : cells + rm.cells ≤ R.cells) (hsl : slots + rm.slots ≤ R.slots) (hp : pc + 3 = pc')
    (K : ∀ v T' L, Stand p l e R s m args below meth c T' (locs ++ L) (cells + rm.cells) (slots + rm.slots) → Q v T'.heap L → Go p.tables e below G T' (mkF m pc' Ls (v.toList ++ rest))) : Go p.tables e below G T (mkF m pc Ls st) := by
  subst hp has
  obtain ⟨v, _, ⟨T1, L1, k1, n1⟩, -, X1, ⟨Lc, hQ, q1, q2, q3⟩, st1⟩ := Jvm.LawKit.callS X C.exec (y := y) C.own (mvT C.warm w1) (mvT C.warm w2) (mvT C.warm w3) (mvT C.warm w4) hy (backOf (W := W) (K0 []) C.warm w4 w3 hfr hlo)
    (g := mkF m pc Ls st) rfl (by rw [C.maxl]; exact hsz) (argsL := argsL) (rest := rest) (lenOf hpd hlen) hst (by show 2 * 0 + _ ≤ _; rw [hW]; omega) (C.at hd) (fun _ _ => ⟨rfl, eT, hce, hsl⟩)
  dsimp only [Pt.U, Pt.locs, Pt.cells, Pt.slots] at X1 q1 q2 q3 st1 hQ
  subst q1 q2 q3
  exact Go.step st1 (K v T1 Lc X1 hQ)
theorem go_trans {tb : Tables} {T1 : State} {g g1 : JFrame} (st : Steps tb e below (T.setTop g) (T1.setTop g1)) (k : Go tb e below G T1 g1) : Go tb e below G T g := by
  obtain ⟨s2, o, h1, h2⟩ := k
  exact ⟨s2, o, st.trans h1, h2⟩
theorem g_callI (C : Cx p l s m meth c Z x0 code maxL ret) (X : Stand p l e R s m args below meth c T locs cells slots) {index : Nat} {y : MethodName} {bytes : ByteArray} {mL : Nat} {rm : Room} {as : Array Value} {Q : Option Value → Heap → List Loc → Prop} (K0 : Con l Z y bytes mL none rm as h Q) (hy1 : y.name = "<init>")
    (w1 : (Cond.methodLink x0.cls index y).before a0 Z = true) (w2 : (Cond.instanceMethod y).before a0 Z = true) (w3 : (Cond.initialized y.cls).before a0 Z = true) (w4 : (Cond.code y bytes mL none).before a0 Z = true)
    (hy : y.cls ≠ "java/lang/invoke/MethodHandle" ∧ y.cls ≠ "java/lang/invoke/VarHandle") (eT : T.heap = h) {pc pc' : Nat} {Ls : Array Slot} {st : List Value} (hd : decode code pc = .ok (.invokespecial index, 3)) (hsz : Ls.size = maxL)
    {ps : List FieldType} {r : Option FieldType} (hpd : parseMethodDescriptor y.desc = some ⟨ps, r⟩) (a : Addr) (argsL rest : List Value) (hlen : argsL.length = ps.length) (has : (.ref a :: argsL).toArray = as) (hst : st = argsL.reverse ++ .ref a :: rest) (W : Nat) (hW : (rest.map fun v => v.category).sum = W)
    (hfr : rm.frames + 1 ≤ R.frames) (hlo : W + (mL + 11) + rm.locals ≤ R.locals) (hce : cells + rm.cells ≤ R.cells) (hsl : slots + rm.slots ≤ R.slots) (hp : pc + 3 = pc')
    (K : ∀ v T' L, Stand p l e R s m args below meth c T' (locs ++ L) (cells + rm.cells) (slots + rm.slots) → Q v T'.heap L → Go p.tables e below G T' (mkF m pc' Ls (v.toList ++ rest))) : Go p.tables e below G T (mkF m pc Ls st) := by
  subst hp has
  obtain ⟨v, _, ⟨T1, L1, k1, n1⟩, -, X1, ⟨Lc, hQ, q1, q2, q3⟩, st1⟩ := X.specialBack C.exec (y := y) hy1 C.own (mvT C.warm w1) (mvT C.warm w2) (mvT C.warm w4) hy (backOf (W := W) (K0 []) C.warm w4 w3 hfr hlo)
    (g := mkF m pc Ls st) rfl (by rw [C.maxl]; exact hsz) (Steps.refl _) (a := a) (argsL := argsL) (rest := rest) (lenOf hpd hlen) hst (by show 2 * 0 + _ ≤ _; rw [hW]; omega) (C.at hd) (fun _ _ => ⟨rfl, eT, hce, hsl⟩)
  dsimp only [Pt.U, Pt.locs, Pt.cells, Pt.slots] at X1 q1 q2 q3 st1 hQ
  subst q1 q2 q3
  exact go_trans st1 (K v T1 Lc X1 hQ)
theorem g_callV (C : Cx p l s m meth c Z x0 code maxL ret) (X : Stand p l e R s m args below meth c T locs cells slots) {index : Nat} {y : MethodName} {cls : String} {bytes : ByteArray} {mL : Nat} {rt : Option FieldType} {rm : Room} {as : Array Value} {Q : Option Value → Heap → List Loc → Prop} (K0 : Con l Z y bytes mL rt rm as h Q)
    (w1 : (Cond.methodLink x0.cls index y).before a0 Z = true) (w2 : (Cond.declares y).before a0 Z = true) (w5 : (Cond.selects cls y y).before a0 Z = true) (w6 : (Cond.instanceMethod y).before a0 Z = true) (w3 : (Cond.initialized y.cls).before a0 Z = true) (w4 : (Cond.code y bytes mL rt).before a0 Z = true)
    (hy : y.cls ≠ "java/lang/invoke/MethodHandle" ∧ y.cls ≠ "java/lang/invoke/VarHandle") (eT : T.heap = h) {a : Addr} (E : Exa Z h a cls) {pc pc' : Nat} {Ls : Array Slot} {st : List Value} (hd : decode code pc = .ok (.invokevirtual index, 3)) (hsz : Ls.size = maxL)
    {ps : List FieldType} {r : Option FieldType} (hpd : parseMethodDescriptor y.desc = some ⟨ps, r⟩) (argsL rest : List Value) (hlen : argsL.length = ps.length) (has : (.ref a :: argsL).toArray = as) (hst : st = argsL.reverse ++ .ref a :: rest) (W : Nat) (hW : (rest.map fun v => v.category).sum = W)
    (hfr : rm.frames + 1 ≤ R.frames) (hlo : W + (mL + 11) + rm.locals ≤ R.locals) (hce : cells + rm.cells ≤ R.cells) (hsl : slots + rm.slots ≤ R.slots) (hp : pc + 3 = pc')
    (K : ∀ v T' L, Stand p l e R s m args below meth c T' (locs ++ L) (cells + rm.cells) (slots + rm.slots) → Q v T'.heap L → Go p.tables e below G T' (mkF m pc' Ls (v.toList ++ rest))) : Go p.tables e below G T (mkF m pc Ls st) := by
  subst hp has
  obtain ⟨cq, kq, qa, qb, qc⟩ := isOf C.warm eT E
  obtain ⟨v, _, ⟨T1, L1, k1, n1⟩, -, X1, ⟨Lc, hQ, q1, q2, q3⟩, st1⟩ := X.virtualBack C.exec (y := y) (z := y) C.own (mvT C.warm w1) (mvT C.warm w2) (notFace_of_selects (args := #[]) (mvT C.warm w5)) (mvT C.warm w5) (mvT C.warm w6) hy (backOf (W := W) (K0 []) C.warm w4 w3 hfr hlo) qa qc
    (g := mkF m pc Ls st) rfl (by rw [C.maxl]; exact hsz) (Steps.refl _) (argsL := argsL) (rest := rest) (lenOf hpd hlen) hst (by show 2 * 0 + _ ≤ _; rw [hW]; omega) (C.at hd) (fun _ _ => ⟨rfl, eT, hce, hsl⟩)
  dsimp only [Pt.U, Pt.locs, Pt.cells, Pt.slots] at X1 q1 q2 q3 st1 hQ
  subst q1 q2 q3
  exact go_trans st1 (K v T1 Lc X1 hQ)
theorem g_initO (C : Cx p l s m meth c Z x0 code maxL ret) (X : Stand p l e R s m args below meth c T locs cells slots) {index : Nat} (w1 : (Cond.methodLink x0.cls index Lib.objectInit).before a0 Z = true) (w2 : (Cond.instanceMethod Lib.objectInit).before a0 Z = true) (w3 : (Cond.code Lib.objectInit ⟨#[0xb1]⟩ 1 none).before a0 Z = true) (eT : T.heap = h)
    {pc pc' : Nat} {Ls : Array Slot} {a : Addr} {rest : List Value} (hd : decode code pc = .ok (.invokespecial index, 3)) (hsz : Ls.size = maxL) (W : Nat) (hW : (rest.map fun v => v.category).sum = W) (hfr : 1 ≤ R.frames) (hlo : W + 12 ≤ R.locals) (hp : pc + 3 = pc')
    (K : ∀ T', Stand p l e R s m args below meth c T' locs cells slots → T'.heap = h → Go p.tables e below G T' (mkF m pc' Ls rest)) : Go p.tables e below G T (mkF m pc Ls (.ref a :: rest)) := by
  subst hp
  obtain ⟨T1, X1, e1, st1⟩ := initO X C.exec C.warm C.own w1 w2 w3 eT (g := mkF m pc Ls (.ref a :: rest)) rfl (by rw [C.maxl]; exact hsz) rfl (C.at hd) hfr (W := W) (by show 2 * 0 + _ ≤ _; rw [hW]; omega) hlo
  exact Go.step st1 (K T1 X1 e1)
/-! the heap -/
theorem g_new (C : Cx p l s m meth c Z x0 code maxL ret) (X : Stand p l e R s m args below meth c T locs cells slots) {cls : String} {index n : Nat} (w : (Cond.classLink x0.cls index cls).before a0 Z = true) (wi : (Cond.instantiable cls n).before a0 Z = true) (wz : (Cond.initialized cls).before a0 Z = true) (eT : T.heap = h)
    {pc pc' : Nat} {Ls : Array Slot} {st : List Value} (hd : decode code pc = .ok (.new index, 3)) (hc : cells + 1 ≤ R.cells) (hl : slots + n ≤ R.slots) (hp : pc + 3 = pc')
    (K : ∀ T' h' a, a = h.size → Stand p l e R s m args below meth c T' locs (cells + 1) (slots + n) → T'.heap = h' → Ext h h' → Exa Z h' a cls → (∀ {O nm d : String} {ty : FieldType}, Laid Z a0 cls O nm d → parseFieldDescriptor d = some ty → Fld Z h' a O nm d (defaultValue ty)) → Go p.tables e below G T' (mkF m pc' Ls (.ref a :: st))) :
    Go p.tables e below G T (mkF m pc Ls st) := by
  subst hp
  obtain ⟨T1, h1, X1, e1, E1, A1, D1, -, st1⟩ := newO X C.exec C.warm C.own w wi wz eT (g := mkF m pc Ls st) rfl (C.at hd) hc hl
  exact Go.step st1 (K T1 h1 h.size rfl X1 e1 E1 A1 D1)
theorem g_newP (C : Cx p l s m meth c Z x0 code maxL ret) (X : Stand p l e R s m args below meth c T locs cells slots) {aty : ArrayType} (w : (Cond.arrayClass (newarray.typeOf aty)).before a0 Z = true) (eT : T.heap = h)
    {pc pc' : Nat} {Ls : Array Slot} {st : List Value} {z : Int32} (hd : decode code pc = .ok (.newarray aty, 2)) (hz : ¬ z < 0) (cap : Nat) (hcap : z.toNatClampNeg ≤ cap) (hb : cap * 8 ≤ 536870912) (hc : cells + 1 ≤ R.cells) (hl : slots + cap ≤ R.slots) (hp : pc + 2 = pc')
    (K : ∀ T' h' a k, a = h.size → Stand p l e R s m args below meth c T' locs (cells + 1) (slots + cap) → T'.heap = h' → Ext h h' → Arv Z h' a k (newarray.typeOf aty) z [] (defaultValue (newarray.typeOf aty)) → Go p.tables e below G T' (mkF m pc' Ls (.ref a :: st))) :
    Go p.tables e below G T (mkF m pc Ls (.int z :: st)) := by
  subst hp
  obtain ⟨T1, h1, cA, X1, e1, E1, A1, st1⟩ := newP X C.exec C.warm w eT (g := mkF m pc Ls (.int z :: st)) rfl (C.at hd) rfl hz hcap hb hc hl
  exact Go.step st1 (K T1 h1 h.size cA rfl X1 e1 E1 (Arv.new A1 hz))
theorem g_getF (C : Cx p l s m meth c Z x0 code maxL ret) (X : Stand p l e R s m args below meth c T locs cells slots) {R0 O n d host : String} {index : Nat} (w : (Cond.fieldLink x0.cls index R0 n d).before a0 Z = true ∨ (Cond.fieldLinkNest x0.cls index R0 n d host).before a0 Z = true) (via : Via Z R0 O n d) (eT : T.heap = h) {a : Addr} {v : Value} (F : Fld Z h a O n d v)
    {pc pc' : Nat} {Ls : Array Slot} {st : List Value} (hd : decode code pc = .ok (.getfield index, 3)) (hp : pc + 3 = pc')
    (K : ∀ T', Stand p l e R s m args below meth c T' locs cells slots → T'.heap = h → Go p.tables e below G T' (mkF m pc' Ls (v :: st))) : Go p.tables e below G T (mkF m pc Ls (.ref a :: st)) := by
  subst hp
  obtain ⟨T1, X1, e1, st1⟩ := getF X C.exec C.warm C.own w via eT F (g := mkF m pc Ls (.ref a :: st)) rfl rfl (C.at hd)
  exact Go.step st1 (K T1 X1 e1)
theorem g_putF (C : Cx p l s m meth c Z x0 code maxL ret) (X : Stand p l e R s m args below meth c T locs cells slots) {R0 O n d host cls : String} {index kk : Nat} {ty : FieldType} (w : (Cond.fieldLink x0.cls index R0 n d).before a0 Z = true ∨ (Cond.fieldLinkNest x0.cls index R0 n d host).before a0 Z = true) (via : Via Z R0 O n d) (eT : T.heap = h) {a : Addr} {v old : Value} (F : Fld Z h a O n d old) (E : Exa Z h a cls)
    (L : (Cond.lays cls O n d).before a0 Z = true ∨ ((Cond.laysFinal cls O n d).before a0 Z = true ∧ x0.cls = O ∧ x0.name = "<init>")) (wi : (Cond.instantiable cls kk).before a0 Z = true) (hty : parseFieldDescriptor d = some ty) (hn : narrow ty v = v) (hf : fits ty v = true)
    {pc pc' : Nat} {Ls : Array Slot} {st : List Value} (hd : decode code pc = .ok (.putfield index, 3)) (hp : pc + 3 = pc')
    (K : ∀ T' h', Stand p l e R s m args below meth c T' (locs ++ [⟨a, RoadKit.slotOf Z O n d⟩]) cells slots → T'.heap = h' → Wr h h' a (RoadKit.slotOf Z O n d) v → Go p.tables e below G T' (mkF m pc' Ls st)) : Go p.tables e below G T (mkF m pc Ls (v :: .ref a :: st)) := by
  subst hp
  obtain ⟨T1, h1, X1, e1, W1, st1⟩ := putF X C.exec C.warm C.own w via eT F E (L.imp id fun q => ⟨q.1, q.2.1, C.nm.trans q.2.2⟩) wi hty hn hf (g := mkF m pc Ls (v :: .ref a :: st)) rfl rfl (C.at hd)
  exact Go.step st1 (K T1 h1 X1 e1 W1)
/-- an array whose values are a list: read, length, store -/
theorem Arv.cell {a : Addr} {k : ClassId} {ty : FieldType} {z : Int32} {vs : List Value} {d : Value} (A : Arv Z h a k ty z vs d) : ∃ cl : Cell, Arr Z h a cl ty ∧ cl.slots.size = z.toNatClampNeg ∧ ¬ z < 0 ∧ Has cl vs d := by
  obtain ⟨cl, A1, -, S, N, H, -⟩ := A
  exact ⟨cl, A1, S, N, H⟩
theorem g_len (C : Cx p l s m meth c Z x0 code maxL ret) (X : Stand p l e R s m args below meth c T locs cells slots) {a : Addr} {k : ClassId} {ty : FieldType} {z : Int32} {vs : List Value} {d : Value} (eT : T.heap = h) (A : Arv Z h a k ty z vs d) {pc pc' : Nat} {Ls : Array Slot} {st : List Value} (hd : decode code pc = .ok (.arraylength, 1)) (hp : pc + 1 = pc')
    (K : Go p.tables e below G T (mkF m pc' Ls (.int z :: st))) : Go p.tables e below G T (mkF m pc Ls (.ref a :: st)) := by
  subst hp
  obtain ⟨cl, A1, S, N, H⟩ := Arv.cell A
  refine Go.step (fun t q => X.arraylength C.exec (cell := cl) (by rw [eT]; exact A1.1) (State.isArrayOf_alike C.warm.alike A1.2.1) (g := mkF m pc Ls (.ref a :: st)) rfl rfl (C.at hd) t ?_) K
  rw [len_of S N]; exact q
theorem inb {cl : Cell} {z j : Int32} (S : cl.slots.size = z.toNatClampNeg) (h0 : 0 ≤ j.toInt) (h1 : j.toInt < z.toInt) : ¬ (j < 0 ∨ cl.slots.size ≤ j.toNatClampNeg) :=
  inb_of S ⟨fun q => by rw [Int32.lt_iff_toInt_lt] at q; exact absurd q (Int.not_lt.mpr h0), Int32.lt_iff_toInt_lt.mpr h1⟩
theorem g_iaload (C : Cx p l s m meth c Z x0 code maxL ret) (X : Stand p l e R s m args below meth c T locs cells slots) {a : Addr} {k : ClassId} {z j : Int32} {vs : List Value} {d : Value} {v : Int32} (eT : T.heap = h) (A : Arv Z h a k .int z vs d) (h0 : 0 ≤ j.toInt) (h1 : j.toInt < z.toInt) (i : Nat) (hj : j.toNatClampNeg = i) (hv : vs.getD i d = .int v) {pc pc' : Nat} {Ls : Array Slot} {st : List Value} (hd : decode code pc = .ok (.iaload, 1)) (hp : pc + 1 = pc')
    (K : Go p.tables e below G T (mkF m pc' Ls (.int v :: st))) : Go p.tables e below G T (mkF m pc Ls (.int j :: .ref a :: st)) := by
  subst hp
  obtain ⟨cl, A1, S, N, H⟩ := Arv.cell A
  exact Go.step (fun t q => X.iaload C.exec (j := j) (v := .int v) (by rw [eT]; exact A1.1) (State.isArrayOf_alike C.warm.alike A1.2.1) A1.2.2 (inb S h0 h1) (H.at (inb S h0 h1) (by rw [hj]; exact hv)) (g := mkF m pc Ls (.int j :: .ref a :: st)) rfl rfl (C.at hd) t q) K
theorem g_daload (C : Cx p l s m meth c Z x0 code maxL ret) (X : Stand p l e R s m args below meth c T locs cells slots) {a : Addr} {k : ClassId} {z j : Int32} {vs : List Value} {d : Value} {v : UInt64} (eT : T.heap = h) (A : Arv Z h a k .double z vs d) (h0 : 0 ≤ j.toInt) (h1 : j.toInt < z.toInt) (i : Nat) (hj : j.toNatClampNeg = i) (hv : vs.getD i d = .double v) {pc pc' : Nat} {Ls : Array Slot} {st : List Value} (hd : decode code pc = .ok (.daload, 1)) (hp : pc + 1 = pc')
    (K : Go p.tables e below G T (mkF m pc' Ls (.double v :: st))) : Go p.tables e below G T (mkF m pc Ls (.int j :: .ref a :: st)) := by
  subst hp
  obtain ⟨cl, A1, S, N, H⟩ := Arv.cell A
  exact Go.step (fun t q => X.daload C.exec (j := j) (v := .double v) (by rw [eT]; exact A1.1) (State.isArrayOf_alike C.warm.alike A1.2.1) A1.2.2 (inb S h0 h1) (H.at (inb S h0 h1) (by rw [hj]; exact hv)) (g := mkF m pc Ls (.int j :: .ref a :: st)) rfl rfl (C.at hd) t q) K
theorem g_aaload (C : Cx p l s m meth c Z x0 code maxL ret) (X : Stand p l e R s m args below meth c T locs cells slots) {a : Addr} {k : ClassId} {z j : Int32} {ty : FieldType} {vs : List Value} {d v : Value} (eT : T.heap = h) (A : Arv Z h a k ty z vs d) (hty : ty.isReference = true) (hr : v.isRef = true) (h0 : 0 ≤ j.toInt) (h1 : j.toInt < z.toInt) (i : Nat) (hj : j.toNatClampNeg = i) (hv : vs.getD i d = v) {pc pc' : Nat} {Ls : Array Slot} {st : List Value} (hd : decode code pc = .ok (.aaload, 1)) (hp : pc + 1 = pc')
    (K : Go p.tables e below G T (mkF m pc' Ls (v :: st))) : Go p.tables e below G T (mkF m pc Ls (.int j :: .ref a :: st)) := by
  subst hp
  obtain ⟨cl, A1, S, N, H⟩ := Arv.cell A
  exact Go.step (fun t q => X.aaload C.exec (j := j) (v := v) (by rw [eT]; exact A1.1) (State.isArrayOf_alike C.warm.alike A1.2.1) hty A1.2.2 (inb S h0 h1) (H.at (inb S h0 h1) (by rw [hj]; exact hv)) (g := mkF m pc Ls (.int j :: .ref a :: st)) rfl rfl (C.at hd) t q) K
theorem Arv.put {h' : Heap} {a : Addr} {k : ClassId} {ty : FieldType} {z j : Int32} {vs : List Value} {d v : Value} (A : Arv Z h a k ty z vs d) (W : Wr h h' a j.toNatClampNeg v) (hv : fits ty v = true) (i : Nat) (hj : j.toNatClampNeg = i) (n : Nat) (hi : i < vs.length + n) : Arv Z h' a k ty z ((vs ++ List.replicate n d).set i v) d := by
  obtain ⟨cl, A1, q1, S, N, H, Gf⟩ := Arv.pad A (pad_rep vs d n)
  exact Arv.set A1 q1 S N H Gf hv W i hj (by rw [List.length_append, List.length_replicate]; exact hi)
theorem g_iastore (C : Cx p l s m meth c Z x0 code maxL ret) (X : Stand p l e R s m args below meth c T locs cells slots) {a : Addr} {k : ClassId} {z j x : Int32} {vs : List Value} {d : Value} (eT : T.heap = h) (A : Arv Z h a k .int z vs d) (h0 : 0 ≤ j.toInt) (h1 : j.toInt < z.toInt) (i n : Nat) (hj : j.toNatClampNeg = i) (hi : i < vs.length + n) {pc pc' : Nat} {Ls : Array Slot} {st : List Value} (hd : decode code pc = .ok (.iastore, 1)) (hp : pc + 1 = pc')
    (K : ∀ T' h', Stand p l e R s m args below meth c T' (locs ++ [⟨a, j.toNatClampNeg⟩]) cells slots → T'.heap = h' → Wr h h' a j.toNatClampNeg (.int x) → Arv Z h' a k .int z ((vs ++ List.replicate n d).set i (.int x)) d → Go p.tables e below G T' (mkF m pc' Ls st)) : Go p.tables e below G T (mkF m pc Ls (.int x :: .int j :: .ref a :: st)) := by
  subst hp
  obtain ⟨cl, A1, S, N, H⟩ := Arv.cell A
  obtain ⟨T1, h2, X1, e1, W1, st1⟩ := stI X C.exec C.warm eT A1 (inb S h0 h1) (g := mkF m pc Ls (.int x :: .int j :: .ref a :: st)) rfl rfl (C.at hd)
  exact Go.step st1 (K T1 h2 X1 e1 W1 (Arv.put A W1 rfl i hj n hi))
theorem g_dastore (C : Cx p l s m meth c Z x0 code maxL ret) (X : Stand p l e R s m args below meth c T locs cells slots) {a : Addr} {k : ClassId} {z j : Int32} {x : UInt64} {vs : List Value} {d : Value} (eT : T.heap = h) (A : Arv Z h a k .double z vs d) (h0 : 0 ≤ j.toInt) (h1 : j.toInt < z.toInt) (i n : Nat) (hj : j.toNatClampNeg = i) (hi : i < vs.length + n) {pc pc' : Nat} {Ls : Array Slot} {st : List Value} (hd : decode code pc = .ok (.dastore, 1)) (hp : pc + 1 = pc')
    (K : ∀ T' h', Stand p l e R s m args below meth c T' (locs ++ [⟨a, j.toNatClampNeg⟩]) cells slots → T'.heap = h' → Wr h h' a j.toNatClampNeg (.double x) → Arv Z h' a k .double z ((vs ++ List.replicate n d).set i (.double x)) d → Go p.tables e below G T' (mkF m pc' Ls st)) : Go p.tables e below G T (mkF m pc Ls (.double x :: .int j :: .ref a :: st)) := by
  subst hp
  obtain ⟨cl, A1, S, N, H⟩ := Arv.cell A
  obtain ⟨T1, h2, X1, e1, W1, st1⟩ := stD X C.exec C.warm eT A1 (inb S h0 h1) (g := mkF m pc Ls (.double x :: .int j :: .ref a :: st)) rfl rfl (C.at hd)
  exact Go.step st1 (K T1 h2 X1 e1 W1 (Arv.put A W1 rfl i hj n hi))
theorem g_ldc2J (C : Cx p l s m meth c Z x0 code maxL ret) (X : Stand p l e R s m args below meth c T locs cells slots) {index : Nat} {v : Int64} (w : (Cond.constantLong x0.cls index v).before a0 Z = true) {pc pc' : Nat} {Ls : Array Slot} {st : List Value} (hd : decode code pc = .ok (.ldc2_w index, 3)) (hp : pc + 3 = pc')
    (K : Go p.tables e below G T (mkF m pc' Ls (.long v :: st))) : Go p.tables e below G T (mkF m pc Ls st) := by
  subst hp
  exact Go.step (fun t q => X.ldc2Long C.exec C.own (mvT C.warm w) (g := mkF m pc Ls st) rfl (C.at hd) t q) K
theorem g_ldcI (C : Cx p l s m meth c Z x0 code maxL ret) (X : Stand p l e R s m args below meth c T locs cells slots) {index : Nat} {v : Int32} (w : (Cond.constant x0.cls index v).before a0 Z = true) {pc pc' : Nat} {Ls : Array Slot} {st : List Value} (hd : decode code pc = .ok (.ldc index, 2)) (hp : pc + 2 = pc')
    (K : Go p.tables e below G T (mkF m pc' Ls (.int v :: st))) : Go p.tables e below G T (mkF m pc Ls st) := by
  subst hp
  exact Go.step (fun t q => X.ldcInt C.exec C.own (mvT C.warm w) (g := mkF m pc Ls st) rfl (C.at hd) t q) K
theorem FldE.wr {h' : Heap} {a b : Addr} {C n d : String} {sl : Nat} {v : Value} (W : Wr h h' b sl v) (F : ∃ w, Fld Z h a C n d w) : ∃ w, Fld Z h' a C n d w := by
  obtain ⟨w, F⟩ := F
  by_cases q : a ≠ b ∨ RoadKit.slotOf Z C n d ≠ sl
  · exact ⟨w, F.other W q⟩
  · have q1 : a = b := Decidable.not_not.mp fun z => q (Or.inl z)
    have q2 : RoadKit.slotOf Z C n d = sl := Decidable.not_not.mp fun z => q (Or.inr z)
    subst q1 q2
    exact ⟨v, F.same W⟩
theorem g_ldc2D (C : Cx p l s m meth c Z x0 code maxL ret) (X : Stand p l e R s m args below meth c T locs cells slots) {index : Nat} {b : UInt64} (w : (Cond.constantDouble x0.cls index b).before a0 Z = true) {pc pc' : Nat} {Ls : Array Slot} {st : List Value} (hd : decode code pc = .ok (.ldc2_w index, 3)) (hp : pc + 3 = pc')
    (K : Go p.tables e below G T (mkF m pc' Ls (.double b :: st))) : Go p.tables e below G T (mkF m pc Ls st) := by
  subst hp
  exact Go.step (fun t q => X.ldc2DoubleC C.exec C.own (mvT C.warm w) (g := mkF m pc Ls st) rfl (C.at hd) t q) K
end Walk
/-! doubles that are whole numbers -/
section Dbl
open Jvm.FP.Core Jvm.Free.Fl
theorem nn_of_int {i : Int} {a : UInt64} (q : DInt i a) : NoNaN64 a := val64_no.mpr (DInt_ne_nan q)
def cmpI (i j : Int) : Int32 := if j < i then 1 else if i = j then 0 else -1
theorem cmpI_lt (i j : Int) : (cmpI i j).toInt < 0 ↔ i < j := by
  unfold cmpI
  split
  · exact ⟨fun q => absurd q (by decide), fun q => by omega⟩
  · split
    · exact ⟨fun q => absurd q (by decide), fun q => by omega⟩
    · exact ⟨fun _ => by omega, fun _ => by decide⟩
theorem cmpI_gt (i j : Int) : 0 < (cmpI i j).toInt ↔ j < i := by
  unfold cmpI
  split
  · exact ⟨fun _ => by assumption, fun _ => by decide⟩
  · split
    · exact ⟨fun q => absurd q (by decide), fun q => by omega⟩
    · exact ⟨fun q => absurd q (by decide), fun q => by omega⟩
theorem cmpI_eq (i j : Int) : (cmpI i j).toInt = 0 ↔ i = j := by
  unfold cmpI
  split
  · exact ⟨fun q => absurd q (by decide), fun q => by omega⟩
  · split
    · exact ⟨fun _ => by assumption, fun _ => by decide⟩
    · exact ⟨fun q => absurd q (by decide), fun q => by omega⟩
theorem cmpI_self (i : Int) : cmpI i i = 0 := by
  unfold cmpI
  rw [if_neg (Int.lt_irrefl i), if_pos rfl]
theorem cmpL_lt (x y : Int64) : (XT.cmpL x y).toInt < 0 ↔ x.toInt < y.toInt := by
  unfold XT.cmpL
  rw [← Int64.lt_iff_toInt_lt]
  split
  · rename_i q; exact ⟨fun q => absurd q (by decide), fun q' => absurd q' (Int64.lt_asymm q)⟩
  · split
    · rename_i q; subst q; exact ⟨fun q => absurd q (by decide), fun q' => absurd q' Int64.lt_irrefl⟩
    · rename_i q1 q2; exact ⟨fun _ => by have q3 : ¬ x.toInt = y.toInt := fun q => q2 (Int64.toInt_inj.mp q); rw [Int64.lt_iff_toInt_lt] at q1 ⊢; omega, fun _ => by decide⟩
theorem cmpL_gt (x y : Int64) : 0 < (XT.cmpL x y).toInt ↔ y.toInt < x.toInt := by
  unfold XT.cmpL
  rw [← Int64.lt_iff_toInt_lt]
  split
  · rename_i q; exact ⟨fun _ => q, fun _ => by decide⟩
  · split
    · rename_i q0 q; exact ⟨fun q => absurd q (by decide), fun q' => absurd q' q0⟩
    · rename_i q0 q; exact ⟨fun q => absurd q (by decide), fun q' => absurd q' q0⟩
theorem cmpL_eq (x y : Int64) : (XT.cmpL x y).toInt = 0 ↔ x.toInt = y.toInt := by
  unfold XT.cmpL
  rw [Int64.toInt_inj]
  split
  · rename_i q; exact ⟨fun q => absurd q (by decide), fun q' => absurd q (by rw [q']; exact Int64.lt_irrefl)⟩
  · split
    · rename_i q; exact ⟨fun _ => q, fun _ => by decide⟩
    · rename_i q0 q; exact ⟨fun q => absurd q (by decide), fun q' => absurd q' q⟩
theorem cmpV_of {r : Option Ordering} {i j : Int} (q : r = some (compare i j)) (o : CmpOp) : cmpValue r o = cmpI i j := by
  subst q
  unfold cmpI
  split
  · rename_i q; rw [(compare_gt_iff i j).mpr q]; rfl
  · split
    · rename_i q; rw [(compare_eq_iff i j).mpr q]; rfl
    · rename_i q1 q2; rw [(compare_lt_iff i j).mpr (by omega)]; rfl
theorem dcmp_cmpI {i j : Int} {a b : UInt64} (ha : DInt i a) (hb : DInt j b) (o : CmpOp) : cmpValue (FP.dcmp a b) o = cmpI i j := cmpV_of (dcmp_int ha hb) o
theorem dint_zero : DInt 0 FP.dconst0 := by
  unfold DInt
  rw [show val64 FP.dconst0 = _ from val64_dconst0]
  show signed false (0 * _) = 0 * _
  rw [Nat.zero_mul, Int.zero_mul]; rfl
end Dbl
end Jvm.OwnKit
namespace Jvm.OwnKit
open Sem ClassFile Op Lib Jvm.Stand Jvm.Free Jvm.LawKit Jvm.RoadKit
section More
variable {p : Program} {l : Launch} {e : Env} {R : Room} {s : State} {m : MethodId} {args : Array Value} {below : List Frame} {meth : Method} {c : Code} {T : State} {locs : List Loc} {cells slots : Nat} {Z : State} {a0 : Array Value} {h : Heap} {G : Outcome → State → Prop}
variable {x0 : MethodName} {code : ByteArray} {maxL : Nat} {ret : Option FieldType}
theorem g_newPE (C : Cx p l s m meth c Z x0 code maxL ret) (X : Stand p l e R s m args below meth c T locs cells slots) {aty : ArrayType} {ad : String} (had : "[" ++ (newarray.typeOf aty).toString = ad) (w : (Cond.arrayClass (newarray.typeOf aty)).before a0 Z = true) (eT : T.heap = h)
    {pc pc' : Nat} {Ls : Array Slot} {st : List Value} {z : Int32} (hd : decode code pc = .ok (.newarray aty, 2)) (hz : ¬ z < 0) (cap : Nat) (hcap : z.toNatClampNeg ≤ cap) (hb : cap * 8 ≤ 536870912) (hc : cells + 1 ≤ R.cells) (hl : slots + cap ≤ R.slots) (hp : pc + 2 = pc')
    (K : ∀ T' h' a k, a = h.size → Stand p l e R s m args below meth c T' locs (cells + 1) (slots + cap) → T'.heap = h' → Ext h h' → Arv Z h' a k (newarray.typeOf aty) z [] (defaultValue (newarray.typeOf aty)) → Exa Z h' a ad → Go p.tables e below G T' (mkF m pc' Ls (.ref a :: st))) :
    Go p.tables e below G T (mkF m pc Ls (.int z :: st)) := by
  subst hp
  obtain ⟨T1, h1, cA, X1, e1, E1, A1, B1, st1⟩ := newPE X C.exec C.warm w eT (g := mkF m pc Ls (.int z :: st)) rfl (C.at hd) rfl hz hcap hb hc hl had
  exact Go.step st1 (K T1 h1 h.size cA rfl X1 e1 E1 (Arv.new A1 hz) B1)
theorem g_clone (C : Cx p l s m meth c Z x0 code maxL ret) (X : Stand p l e R s m args below meth c T locs cells slots) {index : Nat} {ad : String} {ty : FieldType} (w1 : (Cond.methodLink x0.cls index ⟨ad, "clone", "()Ljava/lang/Object;"⟩).before a0 Z = true) (w2 : (Cond.sameMethod ad "java/lang/Object" "clone" "()Ljava/lang/Object;").before a0 Z = true) (w3 : (Cond.native ⟨"java/lang/Object", "clone", "()Ljava/lang/Object;"⟩).before a0 Z = true)
    (w4 : (Cond.instanceMethod ⟨"java/lang/Object", "clone", "()Ljava/lang/Object;"⟩).before a0 Z = true) (w5 : (Cond.selects ad ⟨ad, "clone", "()Ljava/lang/Object;"⟩ ⟨"java/lang/Object", "clone", "()Ljava/lang/Object;"⟩).before a0 Z = true) (w6 : (Cond.castable ad "java/lang/Cloneable").before a0 Z = true) (eT : T.heap = h)
    {a : Addr} {k : ClassId} {z : Int32} {vs : List Value} {d : Value} (A : Arv Z h a k ty z vs d) (E : Exa Z h a ad) {pc pc' : Nat} {Ls : Array Slot} {rest : List Value} (hd : decode code pc = .ok (.invokevirtual index, 3)) (hsz : Ls.size = maxL) (W : Nat) (hW : (rest.map fun v => v.category).sum = W) (hfr : 1 ≤ R.frames) (hlo : W + 14 ≤ R.locals)
    (cap : Nat) (hcap : z.toNatClampNeg ≤ cap) (hc : cells + 1 ≤ R.cells) (hl : slots + cap ≤ R.slots) (hp : pc + 3 = pc')
    (K : ∀ T' h' a', a' = h.size → Stand p l e R s m args below meth c T' locs (cells + 1) (slots + cap) → T'.heap = h' → Ext h h' → Arv Z h' a' k ty z vs d → Exa Z h' a' ad → Go p.tables e below G T' (mkF m pc' Ls (.ref a' :: rest))) :
    Go p.tables e below G T (mkF m pc Ls (.ref a :: rest)) := by
  subst hp
  obtain ⟨T1, h1, X1, e1, E1, A1, B1, st1⟩ := cloneH X C.exec C.warm C.own w1 w2 w3 w4 w5 w6 eT A.arh E (g := mkF m pc Ls (.ref a :: rest)) rfl (by rw [C.maxl]; exact hsz) rfl (C.at hd) hfr (W := W) (by show 2 * 0 + _ ≤ _; rw [hW]; omega) hlo hcap hc hl
  exact Go.step st1 (K T1 h1 h.size rfl X1 e1 E1 A1 B1)
theorem g_cast (C : Cx p l s m meth c Z x0 code maxL ret) (X : Stand p l e R s m args below meth c T locs cells slots) {cls : String} {index : Nat} (w : (Cond.classLink x0.cls index cls).before a0 Z = true) (eT : T.heap = h) {a : Addr} (F : Ins Z h a cls true) {pc pc' : Nat} {Ls : Array Slot} {rest : List Value} (hd : decode code pc = .ok (.checkcast index, 3)) (hp : pc + 3 = pc')
    (K : ∀ T', Stand p l e R s m args below meth c T' locs cells slots → T'.heap = h → Go p.tables e below G T' (mkF m pc' Ls (.ref a :: rest))) : Go p.tables e below G T (mkF m pc Ls (.ref a :: rest)) := by
  subst hp
  obtain ⟨T1, X1, e1, st1⟩ := castY X C.exec C.warm C.own w eT F (g := mkF m pc Ls (.ref a :: rest)) rfl rfl (C.at hd)
  exact Go.step st1 (K T1 X1 e1)
theorem g_acmpY (C : Cx p l s m meth c Z x0 code maxL ret) (X : Stand p l e R s m args below meth c T locs cells slots) {pc pc' : Nat} {Ls : Array Slot} {st : List Value} {cd : ClassFile.ACond} {v w : Value} {o : Int} (hd : decode code pc = .ok (.if_acmp cd o, 3)) (hv : v.isRef = true) (hw : w.isRef = true) (hc : XT.acmp cd v w = true) (ho : 0 ≤ (pc : Int) + o) (hp : ((pc : Int) + o).toNat = pc')
    (K : Go p.tables e below G T (mkF m pc' Ls st)) : Go p.tables e below G T (mkF m pc Ls (w :: v :: st)) :=
  Go.step (fun _ k => XT.acmpYes X.here C.exec rfl rfl (C.at hd) rfl hv hw hc ho hp k) K
theorem g_acmpN (C : Cx p l s m meth c Z x0 code maxL ret) (X : Stand p l e R s m args below meth c T locs cells slots) {pc pc' : Nat} {Ls : Array Slot} {st : List Value} {cd : ClassFile.ACond} {v w : Value} {o : Int} (hd : decode code pc = .ok (.if_acmp cd o, 3)) (hv : v.isRef = true) (hw : w.isRef = true) (hc : XT.acmp cd v w = false) (hp : pc + 3 = pc')
    (K : Go p.tables e below G T (mkF m pc' Ls st)) : Go p.tables e below G T (mkF m pc Ls (w :: v :: st)) := by
  subst hp
  exact Go.step (fun _ k => XT.acmpNo X.here C.exec rfl (C.at hd) rfl hv hw hc k) K
theorem ac_same (v : Value) : XT.acmp .eq v v = true ∧ XT.acmp .ne v v = false := by simp [XT.acmp]
theorem ac_diff {v w : Value} (q : v ≠ w) : XT.acmp .eq v w = false ∧ XT.acmp .ne v w = true := by simp [XT.acmp, q]
theorem ref_ne {a b : Addr} (q : a ≠ b) : Value.ref a ≠ Value.ref b := fun z => q (Value.ref.inj z)
theorem g_ifnullY (C : Cx p l s m meth c Z x0 code maxL ret) (X : Stand p l e R s m args below meth c T locs cells slots) {pc pc' : Nat} {Ls : Array Slot} {st : List Value} {o : Int} (hd : decode code pc = .ok (.ifnull o, 3)) (ho : 0 ≤ (pc : Int) + o) (hp : ((pc : Int) + o).toNat = pc')
    (K : Go p.tables e below G T (mkF m pc' Ls st)) : Go p.tables e below G T (mkF m pc Ls (.null :: st)) :=
  Go.step (fun _ k => XS.ifnullYes X.here C.exec rfl rfl (C.at hd) rfl ho hp k) K
theorem g_ifnullN (C : Cx p l s m meth c Z x0 code maxL ret) (X : Stand p l e R s m args below meth c T locs cells slots) {pc pc' : Nat} {Ls : Array Slot} {st : List Value} {a : Addr} {o : Int} (hd : decode code pc = .ok (.ifnull o, 3)) (hp : pc + 3 = pc')
    (K : Go p.tables e below G T (mkF m pc' Ls st)) : Go p.tables e below G T (mkF m pc Ls (.ref a :: st)) := by
  subst hp
  exact Go.step (fun _ k => XS.ifnullNo X.here C.exec rfl (C.at hd) rfl k) K
theorem g_ifnonnullN (C : Cx p l s m meth c Z x0 code maxL ret) (X : Stand p l e R s m args below meth c T locs cells slots) {pc pc' : Nat} {Ls : Array Slot} {st : List Value} {o : Int} (hd : decode code pc = .ok (.ifnonnull o, 3)) (hp : pc + 3 = pc')
    (K : Go p.tables e below G T (mkF m pc' Ls st)) : Go p.tables e below G T (mkF m pc Ls (.null :: st)) := by
  subst hp
  exact Go.step (fun _ k => XT.ifnonnullNo X.here C.exec rfl (C.at hd) rfl k) K
theorem g_ifnonnullY (C : Cx p l s m meth c Z x0 code maxL ret) (X : Stand p l e R s m args below meth c T locs cells slots) {pc pc' : Nat} {Ls : Array Slot} {st : List Value} {a : Addr} {o : Int} (hd : decode code pc = .ok (.ifnonnull o, 3)) (ho : 0 ≤ (pc : Int) + o) (hp : ((pc : Int) + o).toNat = pc')
    (K : Go p.tables e below G T (mkF m pc' Ls st)) : Go p.tables e below G T (mkF m pc Ls (.ref a :: st)) :=
  Go.step (fun _ k => XT.ifnonnullYes X.here C.exec rfl rfl (C.at hd) rfl ho hp k) K
theorem g_getS (C : Cx p l s m meth c Z x0 code maxL ret) (X : Stand p l e R s m args below meth c T locs cells slots) {R0 O n d : String} {index : Nat} (w : (Cond.fieldLink x0.cls index R0 n d).before a0 Z = true) (via : Via Z R0 O n d) (eT : T.heap = h) {v : Value} (F : Sta Z h O n d v)
    {pc pc' : Nat} {Ls : Array Slot} {st : List Value} (hd : decode code pc = .ok (.getstatic index, 3)) (hp : pc + 3 = pc')
    (K : ∀ T', Stand p l e R s m args below meth c T' locs cells slots → T'.heap = h → Go p.tables e below G T' (mkF m pc' Ls (v :: st))) : Go p.tables e below G T (mkF m pc Ls st) := by
  subst hp
  obtain ⟨T1, X1, e1, st1⟩ := getS (host := "") X C.exec C.warm C.own w via eT F (g := mkF m pc Ls st) rfl (C.at hd)
  exact Go.step st1 (K T1 X1 e1)
theorem g_lshl (C : Cx p l s m meth c Z x0 code maxL ret) (X : Stand p l e R s m args below meth c T locs cells slots) {pc pc' : Nat} {Ls : Array Slot} {st : List Value} {x : Int64} {y : Int32} (hd : decode code pc = .ok (.lshl, 1)) (hp : pc + 1 = pc')
    (K : Go p.tables e below G T (mkF m pc' Ls (.long (x <<< (y.toInt64 &&& 63)) :: st))) : Go p.tables e below G T (mkF m pc Ls (.int y :: .long x :: st)) := by
  subst hp; exact Go.step (fun _ k => XT.lshl X.here C.exec rfl (C.at hd) rfl k) K
end More
end Jvm.OwnKit
namespace Jvm.OwnKit
open Sem ClassFile Op Lib Jvm.Stand Jvm.Free Jvm.LawKit Jvm.RoadKit
section More2
variable {p : Program} {l : Launch} {e : Env} {R : Room} {s : State} {m : MethodId} {args : Array Value} {below : List Frame} {meth : Method} {c : Code} {T : State} {locs : List Loc} {cells slots : Nat} {Z : State} {a0 : Array Value} {h : Heap} {G : Outcome → State → Prop}
variable {x0 : MethodName} {code : ByteArray} {maxL : Nat} {ret : Option FieldType}
/-- a virtual call of a method that a superclass declares -/
theorem g_callVU (C : Cx p l s m meth c Z x0 code maxL ret) (X : Stand p l e R s m args below meth c T locs cells slots) {index : Nat} {w y : MethodName} {owner cls : String} {bytes : ByteArray} {mL : Nat} {rt : Option FieldType} {rm : Room} {as : Array Value} {Q : Option Value → Heap → List Loc → Prop} (K0 : Con l Z y bytes mL rt rm as h Q)
    (w1 : (Cond.methodLink x0.cls index w).before a0 Z = true) (w2 : (Cond.sameMethod w.cls owner w.name w.desc).before a0 Z = true) (w7 : (Cond.declares ⟨owner, w.name, w.desc⟩).before a0 Z = true) (w5 : (Cond.selects cls w y).before a0 Z = true) (w6 : (Cond.instanceMethod y).before a0 Z = true) (w3 : (Cond.initialized y.cls).before a0 Z = true) (w4 : (Cond.code y bytes mL rt).before a0 Z = true)
    (hy : owner ≠ "java/lang/invoke/MethodHandle" ∧ owner ≠ "java/lang/invoke/VarHandle") (eT : T.heap = h) {a : Addr} (E : Exa Z h a cls) {pc pc' : Nat} {Ls : Array Slot} {st : List Value} (hd : decode code pc = .ok (.invokevirtual index, 3)) (hsz : Ls.size = maxL)
    {ps : List FieldType} {r : Option FieldType} (hpd : parseMethodDescriptor w.desc = some ⟨ps, r⟩) (argsL rest : List Value) (hlen : argsL.length = ps.length) (has : (.ref a :: argsL).toArray = as) (hst : st = argsL.reverse ++ .ref a :: rest) (W : Nat) (hW : (rest.map fun v => v.category).sum = W)
    (hfr : rm.frames + 1 ≤ R.frames) (hlo : W + (mL + 11) + rm.locals ≤ R.locals) (hce : cells + rm.cells ≤ R.cells) (hsl : slots + rm.slots ≤ R.slots) (hp : pc + 3 = pc')
    (K : ∀ v T' L, Stand p l e R s m args below meth c T' (locs ++ L) (cells + rm.cells) (slots + rm.slots) → Q v T'.heap L → Go p.tables e below G T' (mkF m pc' Ls (v.toList ++ rest))) : Go p.tables e below G T (mkF m pc Ls st) := by
  subst hp has
  obtain ⟨cq, kq, qa, qb, qc⟩ := isOf C.warm eT E
  obtain ⟨v, _, ⟨T1, L1, k1, n1⟩, -, X1, ⟨Lc, hQ, q1, q2, q3⟩, st1⟩ := X.virtualBackUp C.exec C.own (mvT C.warm w1) (mvT C.warm w2) (mvT C.warm w7) hy (mvT C.warm w5) (mvT C.warm w6) (backOf (W := W) (K0 []) C.warm w4 w3 hfr hlo) qa qc
    (g := mkF m pc Ls st) rfl (by rw [C.maxl]; exact hsz) (Steps.refl _) (argsL := argsL) (rest := rest) (lenOf hpd hlen) hst (by show 2 * 0 + _ ≤ _; rw [hW]; omega) (C.at hd) (fun _ _ => ⟨rfl, eT, hce, hsl⟩)
  dsimp only [Pt.U, Pt.locs, Pt.cells, Pt.slots] at X1 q1 q2 q3 st1 hQ
  subst q1 q2 q3
  exact go_trans st1 (K v T1 Lc X1 hQ)
theorem g_tsw (C : Cx p l s m meth c Z x0 code maxL ret) (X : Stand p l e R s m args below meth c T locs cells slots) {pc pc' : Nat} {Ls : Array Slot} {st : List Value} {dflt low high : Int} {offs : Array Int} {len : Nat} {o : Int} {i : Int32} (hd : decode code pc = .ok (.tableswitch dflt low high offs, len)) (hin : ¬ (i.toInt < low ∨ i.toInt > high)) (hoff : offs[(i.toInt - low).toNat]? = some o) (ho : 0 ≤ (pc : Int) + o) (hp : ((pc : Int) + o).toNat = pc')
    (K : Go p.tables e below G T (mkF m pc' Ls st)) : Go p.tables e below G T (mkF m pc Ls (.int i :: st)) :=
  Go.step (fun _ k => XS.tswIn X.here C.exec rfl rfl (C.at hd) rfl hin hoff ho hp k) K
end More2
end Jvm.OwnKit
namespace Jvm.OwnKit
open Sem ClassFile Op Lib Jvm.Stand Jvm.Free Jvm.LawKit Jvm.RoadKit Jvm.Free.Fl
section Grid
variable {p : Program} {l : Launch} {e : Env} {R : Room} {s : State} {m : MethodId} {args : Array Value} {below : List Frame} {meth : Method} {c : Code} {T : State} {locs : List Loc} {cells slots : Nat} {Z : State} {a0 : Array Value} {h : Heap} {G : Outcome → State → Prop}
variable {x0 : MethodName} {code : ByteArray} {maxL : Nat} {ret : Option FieldType}
theorem al0 {P : Addr → Prop} : ∀ x ∈ ([] : List Addr), P x := fun _ q => nomatch q
theorem alc {P : Addr → Prop} {b : Addr} {l : List Addr} (q : P b) (t : ∀ x ∈ l, P x) : ∀ x ∈ b :: l, P x := fun x hx => by
  rcases List.mem_cons.mp hx with rfl | hx
  · exact q
  · exact t x hx
theorem g_newRA (C : Cx p l s m meth c Z x0 code maxL ret) (X : Stand p l e R s m args below meth c T locs cells slots) {D ad : String} {ty : FieldType} {index : Nat} (hC : (FieldType.array ty).toString = D) (had : "[" ++ D = ad) (w1 : (Cond.classLink x0.cls index D).before a0 Z = true) (w2 : (Cond.arrayOver (.array ty)).before a0 Z = true) (eT : T.heap = h)
    {pc pc' : Nat} {Ls : Array Slot} {st : List Value} {z : Int32} (hd : decode code pc = .ok (.anewarray index, 3)) (hz : ¬ z < 0) (cap : Nat) (hcap : z.toNatClampNeg ≤ cap) (hb : cap * 8 ≤ 536870912) (hc : cells + 1 ≤ R.cells) (hl : slots + cap ≤ R.slots) (hp : pc + 3 = pc')
    (K : ∀ T' h' a k, a = h.size → Stand p l e R s m args below meth c T' locs (cells + 1) (slots + cap) → T'.heap = h' → Ext h h' → Arv Z h' a k (.array ty) z [] .null → Exa Z h' a ad → OvrA Z k ty D → Go p.tables e below G T' (mkF m pc' Ls (.ref a :: st))) :
    Go p.tables e below G T (mkF m pc Ls (.int z :: st)) := by
  subst hp
  obtain ⟨T1, h1, cA, X1, e1, E1, A1, B1, O1, st1⟩ := newRA X C.exec C.warm C.own hC w1 w2 eT (g := mkF m pc Ls (.int z :: st)) rfl (C.at hd) rfl hz hcap hb hc hl had
  exact Go.step st1 (K T1 h1 h.size cA rfl X1 e1 E1 (Arv.new A1 hz) B1 O1)
theorem g_grid (C : Cx p l s m meth c Z x0 code maxL ret) (X : Stand p l e R s m args below meth c T locs cells slots) {D ad : String} {ty : FieldType} {index : Nat} (hC : (FieldType.array ty).toString = D) (had : "[" ++ D = ad) (w1 : (Cond.classLink x0.cls index ad).before a0 Z = true) (w2 : (Cond.arrayOver (.array ty)).before a0 Z = true) (w3 : (Cond.arrayClass ty).before a0 Z = true) (eT : T.heap = h)
    {pc pc' : Nat} {Ls : Array Slot} {st : List Value} {n k : Int32} (hd : decode code pc = .ok (.multianewarray index 2, 4)) (hn : ¬ n < 0) (hk : ¬ k < 0) (N : Nat) (hN : n.toNatClampNeg = N) (cap : Nat) (hcap : k.toNatClampNeg ≤ cap) (hb : cap * 8 ≤ 536870912) (hb1 : N ≤ 1000) (hdf : fits ty (defaultValue ty) = true) (hdd : (defaultValue ty).isDefault = true) (hc : cells + (1 + N) ≤ R.cells) (hl : slots + (N + N * cap) ≤ R.slots) (hp : pc + 4 = pc')
    (K : ∀ T' h' a cA comp xs, a = h.size → xs = (List.range N).map (fun j => h.size + 1 + j) → Stand p l e R s m args below meth c T' locs (cells + (1 + N)) (slots + (N + N * cap)) → T'.heap = h' → Ext h h' → Arv Z h' a cA (.array ty) n (xs.map .ref) .null → Exa Z h' a ad → OvrA Z cA ty D → (∀ (j : Nat) (x : Addr), xs[j]? = some x → Arv Z h' x comp ty k [] (defaultValue ty) ∧ Exa Z h' x D) → Go p.tables e below G T' (mkF m pc' Ls (.ref a :: st))) :
    Go p.tables e below G T (mkF m pc Ls (.int k :: .int n :: st)) := by
  subst hp
  obtain ⟨T1, h1, cA, comp, X1, e1, E1, A1, O1, B1, I1, st1⟩ := gridM X C.exec C.warm C.own hC had w1 w2 w3 eT (g := mkF m pc Ls (.int k :: .int n :: st)) rfl (C.at hd) rfl hn hk hN rfl hcap hb hb1 hdf hdd hc hl
  exact Go.step st1 (K T1 h1 h.size cA comp _ rfl rfl X1 e1 E1 A1 B1 O1 fun j x q => ⟨Arv.new (I1 j x q).1 hk, (I1 j x q).2⟩)
theorem sto_of {a y : Addr} {k : ClassId} {t0 ty : FieldType} {z : Int32} {vs : List Value} {d : Value} {D : String} (A : Arv Z h a k t0 z vs d) (O : OvrA Z k ty D) (I : Ins Z h y D true) : Sto Z h a (.ref y) := by
  obtain ⟨cl, A1, q, -⟩ := A
  exact Sto.ofVA A1 q O I
theorem sto_null {a : Addr} : Sto Z h a .null := Or.inl rfl
theorem g_aastore (C : Cx p l s m meth c Z x0 code maxL ret) (X : Stand p l e R s m args below meth c T locs cells slots) {a : Addr} {k : ClassId} {z j : Int32} {x : Value} {ty : FieldType} {vs : List Value} {d : Value} (eT : T.heap = h) (A : Arv Z h a k ty z vs d) (hty : ty.isReference = true) (hx : fits ty x = true) (F : Sto Z h a x) (h0 : 0 ≤ j.toInt) (h1 : j.toInt < z.toInt) (i n : Nat) (hj : j.toNatClampNeg = i) (hi : i < vs.length + n) {pc pc' : Nat} {Ls : Array Slot} {st : List Value} (hd : decode code pc = .ok (.aastore, 1)) (hp : pc + 1 = pc')
    (K : ∀ T' h', Stand p l e R s m args below meth c T' (locs ++ [⟨a, j.toNatClampNeg⟩]) cells slots → T'.heap = h' → Wr h h' a j.toNatClampNeg x → Arv Z h' a k ty z ((vs ++ List.replicate n d).set i x) d → Go p.tables e below G T' (mkF m pc' Ls st)) : Go p.tables e below G T (mkF m pc Ls (x :: .int j :: .ref a :: st)) := by
  subst hp
  obtain ⟨cl, A1, S, N, H⟩ := Arv.cell A
  obtain ⟨T1, h2, X1, e1, W1, st1⟩ := stR X C.exec C.warm eT A1 (inb S h0 h1) hty F (g := mkF m pc Ls (x :: .int j :: .ref a :: st)) rfl rfl (C.at hd)
  exact Go.step st1 (K T1 h2 X1 e1 W1 (Arv.put A W1 hx i hj n hi))
theorem g_absD (C : Cx p l s m meth c Z x0 code maxL ret) (X : Stand p l e R s m args below meth c T locs cells slots) {index : Nat} (w1 : (Cond.methodLink x0.cls index Abs.absDN).before a0 Z = true) (w2 : (Cond.static Abs.absDN).before a0 Z = true) (w3 : (Cond.initialized Abs.absDN.cls).before a0 Z = true) (w4 : (Cond.code Abs.absDN Abs.absDCode 2 (some .double)).before a0 Z = true) (eT : T.heap = h)
    {x : UInt64} (hn : NoNaN64 x) {pc pc' : Nat} {Ls : Array Slot} {rest : List Value} (hd : decode code pc = .ok (.invokestatic index, 3)) (hsz : Ls.size = maxL) (W : Nat) (hW : (rest.map fun v => v.category).sum = W) (hfr : 1 ≤ R.frames) (hlo : W + 13 ≤ R.locals) (hc : cells ≤ R.cells) (hs : slots ≤ R.slots) (hp : pc + 3 = pc')
    (K : ∀ T', Stand p l e R s m args below meth c T' locs cells slots → T'.heap = h → Go p.tables e below G T' (mkF m pc' Ls (.double (x &&& 0x7fffffffffffffff) :: rest))) : Go p.tables e below G T (mkF m pc Ls (.double x :: rest)) := by
  subst hp
  obtain ⟨T1, X1, e1, st1⟩ := natS X C.exec C.warm C.own w1 w2 w3 w4 (by decide) eT (W := W) (fun hk => Abs.absD_pays (W := W) x hk hfr hlo) (g := mkF m pc Ls (.double x :: rest)) rfl (by rw [C.maxl]; exact hsz) (argsL := [.double x]) (rest := rest)
    (lenOf (show parseMethodDescriptor Abs.absDN.desc = some ⟨[.double], some .double⟩ from by decide +kernel) rfl) rfl (by show 2 * 0 + _ ≤ _; rw [hW]; omega) (C.at hd) hc hs ⟨rfl, hn⟩ rfl
  exact Go.step st1 (K T1 X1 e1)
theorem g_callP (C : Cx p l s m meth c Z x0 code maxL ret) (X : Stand p l e R s m args below meth c T locs cells slots) {index : Nat} {y y2 : MethodName} {cls : String} {bytes : ByteArray} {mL : Nat} {rt : Option FieldType} {rm : Room} {as : Array Value} {Q : Option Value → Heap → List Loc → Prop} (K0 : Con l Z y bytes mL rt rm as h Q)
    (w1 : (Cond.methodLink x0.cls index y).before a0 Z = true) (wp : (Cond.privateMethod y).before a0 Z = true) (w5 : (Cond.selects y2.cls y2 y2).before a0 Z = true) (hy2 : y2.cls = y.cls) (w6 : (Cond.instanceMethod y).before a0 Z = true) (w3 : (Cond.initialized y.cls).before a0 Z = true) (w4 : (Cond.code y bytes mL rt).before a0 Z = true)
    (hy : y.cls ≠ "java/lang/invoke/MethodHandle" ∧ y.cls ≠ "java/lang/invoke/VarHandle") (eT : T.heap = h) {a : Addr} (E : Exa Z h a cls) {pc pc' : Nat} {Ls : Array Slot} {st : List Value} (hd : decode code pc = .ok (.invokevirtual index, 3)) (hsz : Ls.size = maxL)
    {ps : List FieldType} {r : Option FieldType} (hpd : parseMethodDescriptor y.desc = some ⟨ps, r⟩) (argsL rest : List Value) (hlen : argsL.length = ps.length) (has : (.ref a :: argsL).toArray = as) (hst : st = argsL.reverse ++ .ref a :: rest) (W : Nat) (hW : (rest.map fun v => v.category).sum = W)
    (hfr : rm.frames + 1 ≤ R.frames) (hlo : W + (mL + 11) + rm.locals ≤ R.locals) (hce : cells + rm.cells ≤ R.cells) (hsl : slots + rm.slots ≤ R.slots) (hp : pc + 3 = pc')
    (K : ∀ v T' L, Stand p l e R s m args below meth c T' (locs ++ L) (cells + rm.cells) (slots + rm.slots) → Q v T'.heap L → Go p.tables e below G T' (mkF m pc' Ls (v.toList ++ rest))) : Go p.tables e below G T (mkF m pc Ls st) := by
  subst hp has
  have ws : (Cond.selects y2.cls y2 y2).before args s = true := mvT C.warm w5
  obtain ⟨c2, r2, m2, -, -, q3, -, kP, hkP, hkPi⟩ := Cond.selects_spec ws
  have hc := findClass_of_methodNamed q3
  rw [hy2] at hc
  have hpr := Cond.privateMethod_at (mvP (args := args) C.warm wp)
  have w6' : (Cond.instanceMethod y).before args s = true := mvT C.warm w6
  have hsel := selects_self_of_private hc hkP hkPi hpr w6' hy
  obtain ⟨cq, qa, qb⟩ := E.cell
  obtain ⟨v, _, ⟨T1, L1, k1, n1⟩, -, X1, ⟨Lc, hQ, q1, q2, q3'⟩, st1⟩ := X.privateBack C.exec (y := y) C.own (mvT C.warm w1) w6' hsel hpr (mvT C.warm w4) hy (backOf (W := W) (K0 []) C.warm w4 w3 hfr hlo)
    (g := mkF m pc Ls st) rfl (by rw [C.maxl]; exact hsz) (Steps.refl _) (by rw [eT]; exact qa) qb (argsL := argsL) (rest := rest) (lenOf hpd hlen) hst (by show 2 * 0 + _ ≤ _; rw [hW]; omega) (C.at hd) (fun _ _ => ⟨rfl, eT, hce, hsl⟩)
  dsimp only [Pt.U, Pt.locs, Pt.cells, Pt.slots] at X1 q1 q2 q3' st1 hQ
  subst q1 q2 q3'
  exact go_trans st1 (K v T1 Lc X1 hQ)
theorem g_callIN (C : Cx p l s m meth c Z x0 code maxL ret) (X : Stand p l e R s m args below meth c T locs cells slots) {index : Nat} {host : String} {y : MethodName} {bytes : ByteArray} {mL : Nat} {rm : Room} {as : Array Value} {Q : Option Value → Heap → List Loc → Prop} (K0 : Con l Z y bytes mL none rm as h Q) (hy1 : y.name = "<init>")
    (w1 : (Cond.methodLinkNest x0.cls index y host).before a0 Z = true) (w2 : (Cond.instanceMethod y).before a0 Z = true) (w3 : (Cond.initialized y.cls).before a0 Z = true) (w4 : (Cond.code y bytes mL none).before a0 Z = true)
    (hy : y.cls ≠ "java/lang/invoke/MethodHandle" ∧ y.cls ≠ "java/lang/invoke/VarHandle") (eT : T.heap = h) {pc pc' : Nat} {Ls : Array Slot} {st : List Value} (hd : decode code pc = .ok (.invokespecial index, 3)) (hsz : Ls.size = maxL)
    {ps : List FieldType} {r : Option FieldType} (hpd : parseMethodDescriptor y.desc = some ⟨ps, r⟩) (a : Addr) (argsL rest : List Value) (hlen : argsL.length = ps.length) (has : (.ref a :: argsL).toArray = as) (hst : st = argsL.reverse ++ .ref a :: rest) (W : Nat) (hW : (rest.map fun v => v.category).sum = W)
    (hfr : rm.frames + 1 ≤ R.frames) (hlo : W + (mL + 11) + rm.locals ≤ R.locals) (hce : cells + rm.cells ≤ R.cells) (hsl : slots + rm.slots ≤ R.slots) (hp : pc + 3 = pc')
    (K : ∀ v T' L, Stand p l e R s m args below meth c T' (locs ++ L) (cells + rm.cells) (slots + rm.slots) → Q v T'.heap L → Go p.tables e below G T' (mkF m pc' Ls (v.toList ++ rest))) : Go p.tables e below G T (mkF m pc Ls st) := by
  subst hp has
  have w1' : (Cond.methodLinkNest x0.cls index y host).before args s = true := (Cond.methodLinkNest_wide C.warm w1 :)
  obtain ⟨v, _, ⟨T1, L1, k1, n1⟩, -, X1, ⟨Lc, hQ, q1, q2, q3⟩, st1⟩ := X.specialBackNest C.exec (y := y) hy1 C.own w1' (mvT C.warm w2) (mvT C.warm w4) hy (backOf (W := W) (K0 []) C.warm w4 w3 hfr hlo)
    (g := mkF m pc Ls st) rfl (by rw [C.maxl]; exact hsz) (Steps.refl _) (a := a) (argsL := argsL) (rest := rest) (lenOf hpd hlen) hst (by show 2 * 0 + _ ≤ _; rw [hW]; omega) (C.at hd) (fun _ _ => ⟨rfl, eT, hce, hsl⟩)
  dsimp only [Pt.U, Pt.locs, Pt.cells, Pt.slots] at X1 q1 q2 q3 st1 hQ
  subst q1 q2 q3
  exact go_trans st1 (K v T1 Lc X1 hQ)
theorem bn_nneg {z : Int32} {lo hi : Int} (h : lo ≤ z.toInt ∧ z.toInt ≤ hi) (h0 : 0 ≤ lo) : ¬ z < 0 := fun q => by
  have q1 : z.toInt < (0 : Int32).toInt := Int32.lt_iff_toInt_lt.mp q
  have q2 : (0 : Int32).toInt = 0 := by decide
  omega
theorem bn_cap {z : Int32} {lo hi : Int} {n : Nat} (h : lo ≤ z.toInt ∧ z.toInt ≤ hi) (hn : hi ≤ n) : z.toNatClampNeg ≤ n := by
  show z.toInt.toNat ≤ n
  omega
theorem bn_in {z j : Int32} {lo hi : Int} (h : lo ≤ z.toInt ∧ z.toInt ≤ hi) (hj : j.toInt < lo) : j.toInt < z.toInt := by omega
theorem own_b32 (x : Int32) : -2147483648 ≤ x.toInt ∧ x.toInt ≤ 2147483647 := by
  have := rng32 x
  omega
end Grid
end Jvm.OwnKit
namespace Jvm.OwnKit
section Dbl
open Jvm.FP.Core Jvm.Free.Fl
theorem i2d_D (x : Int32) : DInt x.toInt (FP.i2d x) := i2d_int x
theorem l2d_D {x : Int64} (h : x.toInt.natAbs ≤ 2 ^ 53) : DInt x.toInt (FP.l2d x) := l2d_int h
theorem dadd_D {i j : Int} {a b : UInt64} (ha : DInt i a) (hb : DInt j b) (h : (i + j).natAbs ≤ 2 ^ 53) : DInt (i + j) (FP.dadd a b) := dadd_int ha hb h
theorem dsub_D {i j : Int} {a b : UInt64} (ha : DInt i a) (hb : DInt j b) (h : (i - j).natAbs ≤ 2 ^ 53) : DInt (i - j) (FP.dsub a b) := dsub_int ha hb h
theorem dmul_D {i j : Int} {a b : UInt64} (ha : DInt i a) (hb : DInt j b) (h : (i * j).natAbs ≤ 2 ^ 53) : DInt (i * j) (FP.dmul a b) := dmul_int ha hb h
theorem dint_one' : DInt 1 FP.dconst1 := dint_one
theorem dneg_int' {i : Int} {a : UInt64} (ha : DInt i a) : DInt (-i) (FP.dneg a) := by
  unfold DInt
  rw [FP.val64_dneg]
  exact whole_negate ha
theorem own_pow_cancel {c k d q1 q2 r1 r2 : Nat} {q r : Int} (hq : (q1 : Int) - q2 = q) (hr : (r1 : Int) - r2 = r) (h : c * 2 ^ (q1 + r2) = k * d * 2 ^ (q2 + r1)) : c * 2 ^ (q - r).toNat = k * d * 2 ^ (r - q).toNat := by
  obtain ⟨n, hn⟩ : ∃ n : Nat, n = min (q1 + r2) (q2 + r1) := ⟨_, rfl⟩
  have e1 : q1 + r2 = (q - r).toNat + n := by omega
  have e2 : q2 + r1 = (r - q).toNat + n := by omega
  rw [e1, e2, Nat.pow_add, Nat.pow_add, ← Nat.mul_assoc, ← Nat.mul_assoc] at h
  exact Nat.eq_of_mul_eq_mul_right (Nat.two_pow_pos n) h
theorem ddiv_int {i j k : Int} {a b : UInt64} (ha : DInt i a) (hb : DInt j b) (hj : j ≠ 0) (hk : i = k * j) (h : k.natAbs ≤ 2 ^ 53) : DInt k (FP.ddiv a b) := by
  unfold DInt at *
  show Whole k (val64 (ddiv a b))
  rw [val64_ddiv]
  cases hva : val64 a with
  | nan => rw [hva] at ha; exact ha.elim
  | inf => rw [hva] at ha; exact ha.elim
  | fin s c q =>
    cases hvb : val64 b with
    | nan => rw [hvb] at hb; exact hb.elim
    | inf => rw [hvb] at hb; exact hb.elim
    | fin t d r =>
      rw [hva] at ha
      rw [hvb] at hb
      have hd : d ≠ 0 := fun q => hj ((whole_zero hb).mp q)
      have h1 := whole_natAbs ha
      have h2 := whole_natAbs hb
      have e1 : quotient b64 (.fin s c q) (.fin t d r) = round b64 (.fin (s != t) k.natAbs 0) := by
        show (if d = 0 then _ else roundRatio b64 (s != t) c d (q - r)) = roundRatio b64 (s != t) k.natAbs 1 0
        rw [if_neg hd]
        refine roundRatio_congr (by omega) (by decide) ?_
        have e2 : c * 2 ^ (q.toNat + (-r).toNat) = k.natAbs * d * 2 ^ ((-q).toNat + r.toNat) := by
          rw [Nat.pow_add, Nat.pow_add, ← Nat.mul_assoc, h1, hk, Int.natAbs_mul]
          calc k.natAbs * j.natAbs * 2 ^ (-q).toNat * 2 ^ (-r).toNat = k.natAbs * 2 ^ (-q).toNat * (j.natAbs * 2 ^ (-r).toNat) := by ac_rfl
            _ = k.natAbs * 2 ^ (-q).toNat * (d * 2 ^ r.toNat) := by rw [h2]
            _ = k.natAbs * d * (2 ^ (-q).toNat * 2 ^ r.toNat) := by ac_rfl
        have e3 := own_pow_cancel (q := q) (r := r) (by omega) (by omega) e2
        rw [Nat.mul_one, show (q - r - 0).toNat = (q - r).toNat by omega, show (0 - (q - r)).toNat = (r - q).toNat by omega]
        exact e3
      rw [e1]
      refine whole_round good_b64 wide_b64 h ?_
      show signed (s != t) (k.natAbs * 2 ^ 0) = k * ((2 ^ 0 : Nat) : Int)
      rw [Nat.pow_zero, Nat.mul_one]
      by_cases hk0 : k = 0
      · subst hk0; exact signed_zero _
      · have hi : i ≠ 0 := by rw [hk]; exact Int.mul_ne_zero hk0 hj
        rw [whole_sign ha hi, whole_sign hb hj]
        unfold signed
        rcases Int.lt_or_gt_of_ne hj with q1 | q1 <;> rcases Int.lt_or_gt_of_ne hk0 with q2 | q2
        · have q3 := Int.mul_pos_of_neg_of_neg q2 q1
          rw [← hk] at q3
          simp [q1, show ¬ i < 0 by omega]; omega
        · have q3 := Int.mul_neg_of_pos_of_neg q2 q1
          rw [← hk] at q3
          simp [q1, q3]; omega
        · have q3 := Int.mul_neg_of_neg_of_pos q2 q1
          rw [← hk] at q3
          simp [show ¬ j < 0 by omega, q3]; omega
        · have q3 := Int.mul_pos q2 q1
          rw [← hk] at q3
          simp [show ¬ j < 0 by omega, show ¬ i < 0 by omega]; omega
end Dbl
end Jvm.OwnKit
namespace Jvm.OwnKit
section Num
open Jvm.RoadKit
theorem own_m {x y X Y : Int} (h1 : -X ≤ x) (h2 : x ≤ X) (h3 : -Y ≤ y) (h4 : y ≤ Y) : -(X * Y) ≤ x * y ∧ x * y ≤ X * Y := by
  have q := mc h1 h2 h3 h4
  have q1 := Int.mul_le_mul_of_nonneg_left h4 (show 0 ≤ X + x by omega)
  have q2 := Int.mul_le_mul_of_nonneg_left h4 (show 0 ≤ X - x by omega)
  have q3 := Int.mul_le_mul_of_nonneg_left h3 (show 0 ≤ X + x by omega)
  have q4 := Int.mul_le_mul_of_nonneg_left h3 (show 0 ≤ X - x by omega)
  simp only [Int.add_mul, Int.sub_mul, Int.mul_neg] at q1 q2 q3 q4
  omega
theorem own_add {x y : Int64} (h1 : -9223372036854775808 ≤ x.toInt + y.toInt) (h2 : x.toInt + y.toInt < 9223372036854775808) : (x + y).toInt = x.toInt + y.toInt := FP.Core.int64_add h1 h2
theorem own_sub {x y : Int64} (h1 : -9223372036854775808 ≤ x.toInt - y.toInt) (h2 : x.toInt - y.toInt < 9223372036854775808) : (x - y).toInt = x.toInt - y.toInt := FP.Core.int64_sub h1 h2
theorem own_mul {x y : Int64} (h1 : -9223372036854775808 ≤ x.toInt * y.toInt) (h2 : x.toInt * y.toInt < 9223372036854775808) : (x * y).toInt = x.toInt * y.toInt := FP.Core.int64_mul h1 h2
theorem own_neg {x : Int64} (h1 : -9223372036854775808 < x.toInt) : (-x).toInt = -x.toInt := FP.Core.int64_neg h1
theorem own_iadd {x y : Int32} (h1 : -2147483648 ≤ x.toInt + y.toInt) (h2 : x.toInt + y.toInt < 2147483648) : (x + y).toInt = x.toInt + y.toInt := by
  have := c_iadd x y; have := rng32 (x + y); omega
theorem own_isub {x y : Int32} (h1 : -2147483648 ≤ x.toInt - y.toInt) (h2 : x.toInt - y.toInt < 2147483648) : (x - y).toInt = x.toInt - y.toInt := by
  have := c_isub x y; have := rng32 (x - y); omega
theorem own_imul {x y : Int32} (h1 : -2147483648 ≤ x.toInt * y.toInt) (h2 : x.toInt * y.toInt < 2147483648) : (x * y).toInt = x.toInt * y.toInt := by
  have := c_imul x y; have := rng32 (x * y); omega
theorem own_ineg {x : Int32} (h1 : -2147483648 < x.toInt) : (-x).toInt = -x.toInt := by
  have := c_ineg x; have := rng32 (-x); have := rng32 x; omega
end Num
end Jvm.OwnKit
namespace Jvm.Pilot.@@N@@
open Jvm Jvm.ClassFile Sem Op Lib Jvm.Free Jvm.Stand Jvm.LawKit Jvm.RoadKit Jvm.OwnKit Bundle Jvm.Pilot.@@N@@.Jvm.D
theorem pn0 : plainName x.cls = true := by first | (simp [x, plainName, overriddenIn]; done) | decide +kernel
theorem ef0 (m : MethodId) (x0 x1 x2 x3 x4 x5 : Int32) : entryFrame m #[(.int x0), (.int x1), (.int x2), (.int x3), (.int x4), (.int x5)] maxLocals = mkF m 0 #[.val (.int x0), .val (.int x1), .val (.int x2), .val (.int x3), .val (.int x4), .val (.int x5), .unset, .unset, .unset, .unset, .unset, .unset, .unset, .unset, .unset] [] := by first | (simp [entryFrame, mkF, argsToLocals, Value.category, maxLocals]; done) | rfl
theorem d3_0 : decode jdk_29_method_65_code 0 = .ok (.iload_n 0, 1) := by decide +kernel
theorem d3_1 : decode jdk_29_method_65_code 1 = .ok (.iload_n 1, 1) := by decide +kernel
theorem d3_2 : decode jdk_29_method_65_code 2 = .ok (.if_icmp .lt 7, 3) := by decide +kernel
theorem d3_5 : decode jdk_29_method_65_code 5 = .ok (.iload_n 0, 1) := by decide +kernel
theorem d3_6 : decode jdk_29_method_65_code 6 = .ok (.goto 4, 3) := by decide +kernel
theorem d3_9 : decode jdk_29_method_65_code 9 = .ok (.iload_n 1, 1) := by decide +kernel
theorem d3_10 : decode jdk_29_method_65_code 10 = .ok (.ireturn, 1) := by decide +kernel
theorem pfM : plainFor (⟨"java/lang/Math", "max", "(II)I"⟩ : MethodName) = true := by decide +kernel
theorem pdM : parseMethodDescriptor "(II)I" = some ⟨[.int, .int], some .int⟩ := by decide +kernel
theorem efM (m : MethodId) (i j : Int32) : entryFrame m #[(.int i), (.int j)] 2 = mkF m 0 #[.val (.int i), .val (.int j)] [] := by first | (simp [entryFrame, mkF, argsToLocals, Value.category, maxLocals]; done) | rfl
set_option maxRecDepth 65536 in
set_option maxHeartbeats 40000000 in
theorem c_max (l : Launch) (Z : State) (h : Heap) (j : Int32) (bj : 0 ≤ j.toInt ∧ j.toInt ≤ 31) :
    Con l Z (⟨"java/lang/Math", "max", "(II)I"⟩ : MethodName) jdk_29_method_65_code 2 (some .int) ⟨0, 0, 0, 0⟩ #[.int (1 : Int32), .int j] h (fun v h' L => ∃ r : Int32, v = some (.int r) ∧ (1 ≤ r.toInt ∧ r.toInt ≤ 31) ∧ L = [] ∧ h' = h) := by
  have z1 : (1 : Int32).toInt = 1 := by decide
  refine con_of_goF pfM (fun m => efM m _ j) ?_
  intro p e s m below meth c T0 C X0 e0
  refine g_iloadN C X0 (pc' := 1) d3_0 rfl rfl ?_
  refine g_iloadN C X0 (pc' := 2) d3_1 rfl rfl ?_
  refine g_icmp C X0 d3_2 (pc' := 9) (pc'' := 5) (by decide) (by decide) rfl (fun c2 => ?_) (fun c2 => ?_)
  · have c2 : 1 < j.toInt := c2
    refine g_iloadN C X0 (pc' := 10) d3_9 rfl rfl ?_
    exact g_ireturn C X0 d3_10 ⟨_, rfl, by omega, rfl, e0⟩ (by decide) (by decide)
  · have c2 : ¬ (1 < j.toInt) := c2
    refine g_iloadN C X0 (pc' := 6) d3_5 rfl rfl ?_
    refine g_goto C X0 d3_6 (pc' := 10) (by decide) (by decide) ?_
    exact g_ireturn C X0 d3_10 ⟨_, rfl, by omega, rfl, e0⟩ (by decide) (by decide)
theorem d1_0 : decode prog_24_method_1_code 0 = .ok (.aload_n 0, 1) := by decide +kernel
theorem d1_1 : decode prog_24_method_1_code 1 = .ok (.invokespecial 1, 3) := by decide +kernel
theorem d1_4 : decode prog_24_method_1_code 4 = .ok (.aload_n 0, 1) := by decide +kernel
theorem d1_5 : decode prog_24_method_1_code 5 = .ok (.iconst 1, 1) := by decide +kernel
theorem d1_6 : decode prog_24_method_1_code 6 = .ok (.iload_n 1, 1) := by decide +kernel
theorem d1_7 : decode prog_24_method_1_code 7 = .ok (.invokestatic 7, 3) := by decide +kernel
theorem d1_10 : decode prog_24_method_1_code 10 = .ok (.newarray .int, 2) := by decide +kernel
theorem d1_12 : decode prog_24_method_1_code 12 = .ok (.putfield 13, 3) := by decide +kernel
theorem d1_15 : decode prog_24_method_1_code 15 = .ok (.aload_n 0, 1) := by decide +kernel
theorem d1_16 : decode prog_24_method_1_code 16 = .ok (.aload_n 0, 1) := by decide +kernel
theorem d1_17 : decode prog_24_method_1_code 17 = .ok (.getfield 13, 3) := by decide +kernel
theorem d1_20 : decode prog_24_method_1_code 20 = .ok (.arraylength, 1) := by decide +kernel
theorem d1_21 : decode prog_24_method_1_code 21 = .ok (.newarray .double, 2) := by decide +kernel
theorem d1_23 : decode prog_24_method_1_code 23 = .ok (.putfield 19, 3) := by decide +kernel
theorem d1_26 : decode prog_24_method_1_code 26 = .ok (.return_, 1) := by decide +kernel
theorem kk_0 (m : MethodId) (x0 : Addr) (x1 : Int32) : entryFrame m #[(.ref x0), (.int x1)] 2 = mkF m 0 #[.val (.ref x0), .val (.int x1)] [] := by first | (simp [entryFrame, mkF, argsToLocals, Value.category]; done) | rfl
theorem kk_1 : plainName "com/example/shared_weights/sharedweights/LinearExpression$Builder" = true := by first | (simp [plainName, overriddenIn]; done) | decide +kernel
set_option maxRecDepth 65536 in
set_option maxHeartbeats 40000000 in
theorem k1_init (l : Launch) (Z : State) (a0 : Array Value) (hw : ∀ d ∈ tables_1, d.before a0 Z = true) (h : Heap) (n0 : Nat) (Z0 : n0 ≤ h.size) (qa1 : Addr) (qi1 : Int32) (z_qa1 : n0 ≤ qa1) (B_qi1 : 0 ≤ qi1.toInt ∧ qi1.toInt ≤ 31) (H1 : Exa Z h qa1 "com/example/shared_weights/sharedweights/LinearExpression$Builder") (H2 : Fld Z h qa1 "com/example/shared_weights/sharedweights/LinearExpression$Builder" "targets" "[I" .null) (H3 : Fld Z h qa1 "com/example/shared_weights/sharedweights/LinearExpression$Builder" "sums" "[D" .null) (H4 : Fld Z h qa1 "com/example/shared_weights/sharedweights/LinearExpression$Builder" "constant" "D" (.double (0 : UInt64))) (H5 : Fld Z h qa1 "com/example/shared_weights/sharedweights/LinearExpression$Builder" "count" "I" (.int (0 : Int32))) (H6 : Fld Z h qa1 "com/example/shared_weights/sharedweights/LinearExpression$Builder" "places" "Ljava/util/Map;" .null) :
    Con l Z (⟨"com/example/shared_weights/sharedweights/LinearExpression$Builder", "<init>", "(I)V"⟩ : MethodName) prog_24_method_1_code 2 none ⟨1, 2, 62, 14⟩ #[(.ref qa1), (.int qi1)] h (fun v h' L => ∃ (uf1 : Addr) (uf2 : Addr) (uv3 : Int32) (uk4 : ClassId) (uk5 : ClassId), v = none ∧ Fr n0 L ∧ Keep h h' [qa1] ∧ (1 ≤ uv3.toInt ∧ uv3.toInt ≤ 31) ∧ h.size ≤ uf1 ∧ uf1 ≠ uf2 ∧ h.size ≤ uf2 ∧ Exa Z h' qa1 "com/example/shared_weights/sharedweights/LinearExpression$Builder" ∧ Fld Z h' qa1 "com/example/shared_weights/sharedweights/LinearExpression$Builder" "targets" "[I" (.ref uf1) ∧ Fld Z h' qa1 "com/example/shared_weights/sharedweights/LinearExpression$Builder" "sums" "[D" (.ref uf2) ∧ Fld Z h' qa1 "com/example/shared_weights/sharedweights/LinearExpression$Builder" "constant" "D" (.double (0 : UInt64)) ∧ Fld Z h' qa1 "com/example/shared_weights/sharedweights/LinearExpression$Builder" "count" "I" (.int (0 : Int32)) ∧ Fld Z h' qa1 "com/example/shared_weights/sharedweights/LinearExpression$Builder" "places" "Ljava/util/Map;" .null ∧ Arv Z h' uf1 uk4 .int uv3 [] (.int (0 : Int32)) ∧ Exa Z h' uf1 "[I" ∧ Arv Z h' uf2 uk5 .double uv3 [] (.double (0 : UInt64)) ∧ Exa Z h' uf2 "[D") := by
  refine con_of_go kk_1 (fun m => kk_0 m qa1 qi1) ?_
  intro p e s m below meth c T0 C X0 e0
  refine g_aloadN C X0 (pc' := 1) d1_0 rfl rfl rfl ?_
  refine g_initO C X0 (hw _ (List.mem_of_getElem? (i := 6) rfl)) (hw _ (List.mem_of_getElem? (i := 7) rfl)) (hw _ (List.mem_of_getElem? (i := 8) rfl)) e0 d1_1 rfl 0 rfl (by decide) (by decide) rfl ?_
  intro T1 X1 e1
  refine g_aloadN C X1 (pc' := 5) d1_4 rfl rfl rfl ?_
  refine g_iconst C X1 (pc' := 6) d1_5 (v := (1 : Int32)) (by decide) rfl ?_
  refine g_iloadN C X1 (pc' := 7) d1_6 rfl rfl ?_
  refine g_callS C X1 (c_max l Z h qi1 B_qi1) (hw _ (List.mem_of_getElem? (i := 9) rfl)) (hw _ (List.mem_of_getElem? (i := 10) rfl)) (hw _ (List.mem_of_getElem? (i := 11) rfl)) (hw _ (List.mem_of_getElem? (i := 12) rfl)) (by decide) e1 d1_7 rfl pdM [(.int (1 : Int32)), (.int qi1)] [(.ref qa1)] rfl rfl rfl 1 rfl (by decide) (by decide) (by decide) (by decide) rfl ?_
  rintro _ T2 _ X2 ⟨r2, rfl, b2, rfl, e2⟩
  rw [List.append_nil] at X2
  show Go p.tables e below _ T2 (mkF m 10 #[.val (.ref qa1), .val (.int qi1)] [(.int r2), (.ref qa1)])
  refine g_newPE C X2 (aty := .int) (ad := "[I") (by decide) (hw _ (List.mem_of_getElem? (i := 13) rfl)) e2 d1_10 (bn_nneg b2 (by decide)) 31 (bn_cap b2 (by decide)) (by decide) (by decide) (by decide) rfl ?_
  intro T3 h3 a3 k3 g3 X3 e3 E3 A3 B3
  have ne_qa1_a3 : qa1 ≠ a3 := Nat.ne_of_lt (by rw [g3]; exact H1.lt)
  have z_a3 : n0 ≤ a3 := by rw [g3]; exact Z0
  have y_a3 : h.size ≤ a3 := by rw [g3]; exact (Keep.refl h [qa1]).1
  have H1 := H1.ext E3
  have H2 := H2.ext E3
  have H3 := H3.ext E3
  have H4 := H4.ext E3
  have H5 := H5.ext E3
  have H6 := H6.ext E3
  have P3 := (Keep.refl h [qa1]).ext E3
  have Z3 : n0 ≤ h3.size := Nat.le_trans Z0 E3.1
  have A3 : Arv Z h3 a3 k3 .int r2 [] (.int (0 : Int32)) := A3
  refine g_putF C X3 (host := "") (Or.inl (hw _ (List.mem_of_getElem? (i := 14) rfl))) Via.refl e3 H2 H1 (Or.inl (hw _ (List.mem_of_getElem? (i := 15) rfl))) (hw _ (List.mem_of_getElem? (i := 1) rfl)) (ty := (.array .int)) (by decide) rfl rfl d1_12 rfl ?_
  intro T4 h4 X4 e4 W4
  have H1 := H1.wr W4
  have H2 := H2.same W4
  have H3 := H3.other W4 (Or.inr (slot_ne (Or.inl (hw _ (List.mem_of_getElem? (i := 18) rfl))) (Or.inl (hw _ (List.mem_of_getElem? (i := 15) rfl))) (by decide) rfl rfl))
  have H4 := H4.other W4 (Or.inr (slot_ne (Or.inl (hw _ (List.mem_of_getElem? (i := 25) rfl))) (Or.inl (hw _ (List.mem_of_getElem? (i := 15) rfl))) (by decide) rfl rfl))
  have H5 := H5.other W4 (Or.inr (slot_ne (Or.inl (hw _ (List.mem_of_getElem? (i := 32) rfl))) (Or.inl (hw _ (List.mem_of_getElem? (i := 15) rfl))) (by decide) rfl rfl))
  have H6 := H6.other W4 (Or.inr (slot_ne (Or.inl (hw _ (List.mem_of_getElem? (i := 86) rfl))) (Or.inl (hw _ (List.mem_of_getElem? (i := 15) rfl))) (by decide) rfl rfl))
  have A3 := A3.other W4 (Ne.symm ne_qa1_a3)
  have B3 := B3.wr W4
  have Z4 : n0 ≤ h4.size := by rw [W4.size]; exact Z3
  have N4 := Fr.snoc X4 (Fr.nil n0) z_qa1
  have P4 := P3.wr W4 (Or.inl (List.mem_of_getElem? (i := 0) rfl))
  refine g_aloadN C X4 (pc' := 16) d1_15 rfl rfl rfl ?_
  refine g_aloadN C X4 (pc' := 17) d1_16 rfl rfl rfl ?_
  refine g_getF C X4 (host := "") (Or.inl (hw _ (List.mem_of_getElem? (i := 14) rfl))) Via.refl e4 H2 d1_17 rfl ?_
  intro T5 X5 e5
  refine g_len C X5 (pc' := 21) e5 A3 d1_20 rfl ?_
  refine g_newPE C X5 (aty := .double) (ad := "[D") (by decide) (hw _ (List.mem_of_getElem? (i := 16) rfl)) e5 d1_21 (bn_nneg b2 (by decide)) 31 (bn_cap b2 (by decide)) (by decide) (by decide) (by decide) rfl ?_
  intro T6 h6 a6 k6 g6 X6 e6 E6 A6 B6
  have ne_a3_a6 : a3 ≠ a6 := Nat.ne_of_lt (by rw [g6]; exact A3.lt)
  have ne_qa1_a6 : qa1 ≠ a6 := Nat.ne_of_lt (by rw [g6]; exact H1.lt)
  have z_a6 : n0 ≤ a6 := by rw [g6]; exact Z4
  have y_a6 : h.size ≤ a6 := by rw [g6]; exact P4.1
  have H1 := H1.ext E6
  have H2 := H2.ext E6
  have H3 := H3.ext E6
  have H4 := H4.ext E6
  have H5 := H5.ext E6
  have H6 := H6.ext E6
  have A3 := A3.ext E6
  have B3 := B3.ext E6
  have P6 := P4.ext E6
  have Z6 : n0 ≤ h6.size := Nat.le_trans Z4 E6.1
  have A6 : Arv Z h6 a6 k6 .double r2 [] (.double (0 : UInt64)) := A6
  refine g_putF C X6 (host := "") (Or.inl (hw _ (List.mem_of_getElem? (i := 17) rfl))) Via.refl e6 H3 H1 (Or.inl (hw _ (List.mem_of_getElem? (i := 18) rfl))) (hw _ (List.mem_of_getElem? (i := 1) rfl)) (ty := (.array .double)) (by decide) rfl rfl d1_23 rfl ?_
  intro T7 h7 X7 e7 W7
  have H1 := H1.wr W7
  have H2 := H2.other W7 (Or.inr (slot_ne (Or.inl (hw _ (List.mem_of_getElem? (i := 15) rfl))) (Or.inl (hw _ (List.mem_of_getElem? (i := 18) rfl))) (by decide) rfl rfl))
  have H3 := H3.same W7
  have H4 := H4.other W7 (Or.inr (slot_ne (Or.inl (hw _ (List.mem_of_getElem? (i := 25) rfl))) (Or.inl (hw _ (List.mem_of_getElem? (i := 18) rfl))) (by decide) rfl rfl))
  have H5 := H5.other W7 (Or.inr (slot_ne (Or.inl (hw _ (List.mem_of_getElem? (i := 32) rfl))) (Or.inl (hw _ (List.mem_of_getElem? (i := 18) rfl))) (by decide) rfl rfl))
  have H6 := H6.other W7 (Or.inr (slot_ne (Or.inl (hw _ (List.mem_of_getElem? (i := 86) rfl))) (Or.inl (hw _ (List.mem_of_getElem? (i := 18) rfl))) (by decide) rfl rfl))
  have A3 := A3.other W7 (Ne.symm ne_qa1_a3)
  have B3 := B3.wr W7
  have A6 := A6.other W7 (Ne.symm ne_qa1_a6)
  have B6 := B6.wr W7
  have Z7 : n0 ≤ h7.size := by rw [W7.size]; exact Z6
  have N7 := Fr.snoc X7 N4 z_qa1
  have P7 := P6.wr W7 (Or.inl (List.mem_of_getElem? (i := 0) rfl))
  exact g_return C X7 d1_26 (⟨a3, a6, r2, k3, k6, rfl, N7, by rw [e7]; exact P7, b2, y_a3, ne_a3_a6, y_a6, by rw [e7]; exact H1, by rw [e7]; exact H2, by rw [e7]; exact H3, by rw [e7]; exact H4, by rw [e7]; exact H5, by rw [e7]; exact H6, by rw [e7]; exact A3, by rw [e7]; exact B3, by rw [e7]; exact A6, by rw [e7]; exact B6⟩) (by decide) (by decide)
theorem kk_2 : parseMethodDescriptor "(I)V" = some ⟨[.int], none⟩ := by decide +kernel
theorem d4_0 : decode prog_24_method_3_code 0 = .ok (.aload_n 0, 1) := by decide +kernel
theorem d4_1 : decode prog_24_method_3_code 1 = .ok (.dup, 1) := by decide +kernel
theorem d4_2 : decode prog_24_method_3_code 2 = .ok (.getfield 59, 3) := by decide +kernel
theorem d4_5 : decode prog_24_method_3_code 5 = .ok (.dload_n 1, 1) := by decide +kernel
theorem d4_6 : decode prog_24_method_3_code 6 = .ok (.dadd, 1) := by decide +kernel
theorem d4_7 : decode prog_24_method_3_code 7 = .ok (.putfield 59, 3) := by decide +kernel
theorem d4_10 : decode prog_24_method_3_code 10 = .ok (.aload_n 0, 1) := by decide +kernel
theorem d4_11 : decode prog_24_method_3_code 11 = .ok (.areturn, 1) := by decide +kernel
theorem kk_3 (m : MethodId) (x0 : Addr) (x1 : UInt64) : entryFrame m #[(.ref x0), (.double x1)] 3 = mkF m 0 #[.val (.ref x0), .val (.double x1), .second] [] := by first | (simp [entryFrame, mkF, argsToLocals, Value.category]; done) | rfl
set_option maxRecDepth 65536 in
set_option maxHeartbeats 40000000 in
theorem k2_addConstant (l : Launch) (Z : State) (a0 : Array Value) (hw : ∀ d ∈ tables_1, d.before a0 Z = true) (h : Heap) (n0 : Nat) (Z0 : n0 ≤ h.size) (qa1 : Addr) (qd1 : UInt64) (qz1 : Int) (qa2 : Addr) (qa3 : Addr) (qi1 : Int32) (qk1 : ClassId) (qk2 : ClassId) (z_qa1 : n0 ≤ qa1) (z_qa2 : n0 ≤ qa2) (z_qa3 : n0 ≤ qa3) (ne_qa1_qa2 : qa1 ≠ qa2) (ne_qa1_qa3 : qa1 ≠ qa3) (ne_qa2_qa3 : qa2 ≠ qa3) (D_qd1 : FP.Core.DInt qz1 qd1) (B_qd1 : -2147483648 ≤ qz1 ∧ qz1 ≤ 2147483647) (B_qi1 : 1 ≤ qi1.toInt ∧ qi1.toInt ≤ 31) (H1 : Exa Z h qa1 "com/example/shared_weights/sharedweights/LinearExpression$Builder") (H2 : Fld Z h qa1 "com/example/shared_weights/sharedweights/LinearExpression$Builder" "targets" "[I" (.ref qa2)) (H3 : Fld Z h qa1 "com/example/shared_weights/sharedweights/LinearExpression$Builder" "sums" "[D" (.ref qa3)) (H4 : Fld Z h qa1 "com/example/shared_weights/sharedweights/LinearExpression$Builder" "constant" "D" (.double (0 : UInt64))) (H5 : Fld Z h qa1 "com/example/shared_weights/sharedweights/LinearExpression$Builder" "count" "I" (.int (0 : Int32))) (H6 : Fld Z h qa1 "com/example/shared_weights/sharedweights/LinearExpression$Builder" "places" "Ljava/util/Map;" .null) (H7 : Arv Z h qa2 qk1 .int qi1 [] (.int (0 : Int32))) (H8 : Exa Z h qa2 "[I") (H9 : Arv Z h qa3 qk2 .double qi1 [] (.double (0 : UInt64))) (H10 : Exa Z h qa3 "[D") :
    Con l Z (⟨"com/example/shared_weights/sharedweights/LinearExpression$Builder", "addConstant", "(D)Lcom/example/shared_weights/sharedweights/LinearExpression$Builder;"⟩ : MethodName) prog_24_method_3_code 3 (some (.object "com/example/shared_weights/sharedweights/LinearExpression$Builder")) ⟨0, 0, 0, 0⟩ #[(.ref qa1), (.double qd1)] h (fun v h' L => ∃ (uv1 : UInt64), v = some (.ref qa1) ∧ Fr n0 L ∧ Keep h h' [qa1] ∧ FP.Core.DInt (0 + qz1) uv1 ∧ (-2147483648 ≤ (0 + qz1) ∧ (0 + qz1) ≤ 2147483647) ∧ Exa Z h' qa1 "com/example/shared_weights/sharedweights/LinearExpression$Builder" ∧ Fld Z h' qa1 "com/example/shared_weights/sharedweights/LinearExpression$Builder" "targets" "[I" (.ref qa2) ∧ Fld Z h' qa1 "com/example/shared_weights/sharedweights/LinearExpression$Builder" "sums" "[D" (.ref qa3) ∧ Fld Z h' qa1 "com/example/shared_weights/sharedweights/LinearExpression$Builder" "constant" "D" (.double uv1) ∧ Fld Z h' qa1 "com/example/shared_weights/sharedweights/LinearExpression$Builder" "count" "I" (.int (0 : Int32)) ∧ Fld Z h' qa1 "com/example/shared_weights/sharedweights/LinearExpression$Builder" "places" "Ljava/util/Map;" .null) := by
  refine con_of_go kk_1 (fun m => kk_3 m qa1 qd1) ?_
  intro p e s m below meth c T0 C X0 e0
  refine g_aloadN C X0 (pc' := 1) d4_0 rfl rfl rfl ?_
  refine g_dup C X0 (pc' := 2) d4_1 rfl rfl ?_
  refine g_getF C X0 (host := "") (Or.inl (hw _ (List.mem_of_getElem? (i := 24) rfl))) Via.refl e0 H4 d4_2 rfl ?_
  intro T1 X1 e1
  refine g_dloadN C X1 (pc' := 6) d4_5 rfl rfl ?_
  have Bq1 : -2147483648 ≤ 0 + qz1 ∧ 0 + qz1 ≤ 2147483647 := by have q1 := B_qd1; omega
  have D2 : FP.Core.DInt (0 + qz1) (FP.dadd (0 : UInt64) qd1) := dadd_D dint_zero D_qd1 (by have q1 := B_qd1; show _ ≤ 9007199254740992; omega)
  refine g_dadd C X1 (pc' := 7) d4_6 (nn_of_int D2) rfl ?_
  refine g_putF C X1 (host := "") (Or.inl (hw _ (List.mem_of_getElem? (i := 24) rfl))) Via.refl e1 H4 H1 (Or.inl (hw _ (List.mem_of_getElem? (i := 25) rfl))) (hw _ (List.mem_of_getElem? (i := 1) rfl)) (ty := .double) (by decide) rfl rfl d4_7 rfl ?_
  intro T2 h2 X2 e2 W2
  have H1 := H1.wr W2
  have H2 := H2.other W2 (Or.inr (slot_ne (Or.inl (hw _ (List.mem_of_getElem? (i := 15) rfl))) (Or.inl (hw _ (List.mem_of_getElem? (i := 25) rfl))) (by decide) rfl rfl))
  have H3 := H3.other W2 (Or.inr (slot_ne (Or.inl (hw _ (List.mem_of_getElem? (i := 18) rfl))) (Or.inl (hw _ (List.mem_of_getElem? (i := 25) rfl))) (by decide) rfl rfl))
  have H4 := H4.same W2
  have H5 := H5.other W2 (Or.inr (slot_ne (Or.inl (hw _ (List.mem_of_getElem? (i := 32) rfl))) (Or.inl (hw _ (List.mem_of_getElem? (i := 25) rfl))) (by decide) rfl rfl))
  have H6 := H6.other W2 (Or.inr (slot_ne (Or.inl (hw _ (List.mem_of_getElem? (i := 86) rfl))) (Or.inl (hw _ (List.mem_of_getElem? (i := 25) rfl))) (by decide) rfl rfl))
  have H7 := H7.other W2 (Ne.symm ne_qa1_qa2)
  have H8 := H8.wr W2
  have H9 := H9.other W2 (Ne.symm ne_qa1_qa3)
  have H10 := H10.wr W2
  have Z2 : n0 ≤ h2.size := by rw [W2.size]; exact Z0
  have N2 := Fr.snoc X2 (Fr.nil n0) z_qa1
  have P2 := (Keep.refl h [qa1]).wr W2 (Or.inl (List.mem_of_getElem? (i := 0) rfl))
  refine g_aloadN C X2 (pc' := 11) d4_10 rfl rfl rfl ?_
  exact g_areturn C X2 d4_11 rfl rfl rfl (⟨FP.dadd (0 : UInt64) qd1, rfl, N2, by rw [e2]; exact P2, D2, Bq1, by rw [e2]; exact H1, by rw [e2]; exact H2, by rw [e2]; exact H3, by rw [e2]; exact H4, by rw [e2]; exact H5, by rw [e2]; exact H6⟩) (by decide) (by decide)
theorem kk_4 : parseMethodDescriptor "(D)Lcom/example/shared_weights/sharedweights/LinearExpression$Builder;" = some ⟨[.double], (some (.object "com/example/shared_weights/sharedweights/LinearExpression$Builder"))⟩ := by decide +kernel
set_option maxRecDepth 65536 in
set_option maxHeartbeats 40000000 in
theorem k3_addConstant (l : Launch) (Z : State) (a0 : Array Value) (hw : ∀ d ∈ tables_1, d.before a0 Z = true) (h : Heap) (n0 : Nat) (Z0 : n0 ≤ h.size) (qa1 : Addr) (qd1 : UInt64) (qz1 : Int) (qa2 : Addr) (qa3 : Addr) (qd2 : UInt64) (qz2 : Int) (qi1 : Int32) (qk1 : ClassId) (qk2 : ClassId) (z_qa1 : n0 ≤ qa1) (z_qa2 : n0 ≤ qa2) (z_qa3 : n0 ≤ qa3) (ne_qa1_qa2 : qa1 ≠ qa2) (ne_qa1_qa3 : qa1 ≠ qa3) (ne_qa2_qa3 : qa2 ≠ qa3) (D_qd1 : FP.Core.DInt qz1 qd1) (B_qd1 : -2147483648 ≤ qz1 ∧ qz1 ≤ 2147483647) (D_qd2 : FP.Core.DInt qz2 qd2) (B_qd2 : -2147483648 ≤ qz2 ∧ qz2 ≤ 2147483647) (B_qi1 : 1 ≤ qi1.toInt ∧ qi1.toInt ≤ 31) (H1 : Exa Z h qa1 "com/example/shared_weights/sharedweights/LinearExpression$Builder") (H2 : Fld Z h qa1 "com/example/shared_weights/sharedweights/LinearExpression$Builder" "targets" "[I" (.ref qa2)) (H3 : Fld Z h qa1 "com/example/shared_weights/sharedweights/LinearExpression$Builder" "sums" "[D" (.ref qa3)) (H4 : Fld Z h qa1 "com/example/shared_weights/sharedweights/LinearExpression$Builder" "constant" "D" (.double qd2)) (H5 : Fld Z h qa1 "com/example/shared_weights/sharedweights/LinearExpression$Builder" "count" "I" (.int (0 : Int32))) (H6 : Fld Z h qa1 "com/example/shared_weights/sharedweights/LinearExpression$Builder" "places" "Ljava/util/Map;" .null) (H7 : Arv Z h qa2 qk1 .int qi1 [] (.int (0 : Int32))) (H8 : Exa Z h qa2 "[I") (H9 : Arv Z h qa3 qk2 .double qi1 [] (.double (0 : UInt64))) (H10 : Exa Z h qa3 "[D") :
    Con l Z (⟨"com/example/shared_weights/sharedweights/LinearExpression$Builder", "addConstant", "(D)Lcom/example/shared_weights/sharedweights/LinearExpression$Builder;"⟩ : MethodName) prog_24_method_3_code 3 (some (.object "com/example/shared_weights/sharedweights/LinearExpression$Builder")) ⟨0, 0, 0, 0⟩ #[(.ref qa1), (.double qd1)] h (fun v h' L => ∃ (uv1 : UInt64), v = some (.ref qa1) ∧ Fr n0 L ∧ Keep h h' [qa1] ∧ FP.Core.DInt (qz2 + qz1) uv1 ∧ (-4294967296 ≤ (qz2 + qz1) ∧ (qz2 + qz1) ≤ 4294967294) ∧ Exa Z h' qa1 "com/example/shared_weights/sharedweights/LinearExpression$Builder" ∧ Fld Z h' qa1 "com/example/shared_weights/sharedweights/LinearExpression$Builder" "targets" "[I" (.ref qa2) ∧ Fld Z h' qa1 "com/example/shared_weights/sharedweights/LinearExpression$Builder" "sums" "[D" (.ref qa3) ∧ Fld Z h' qa1 "com/example/shared_weights/sharedweights/LinearExpression$Builder" "constant" "D" (.double uv1) ∧ Fld Z h' qa1 "com/example/shared_weights/sharedweights/LinearExpression$Builder" "count" "I" (.int (0 : Int32)) ∧ Fld Z h' qa1 "com/example/shared_weights/sharedweights/LinearExpression$Builder" "places" "Ljava/util/Map;" .null) := by
  refine con_of_go kk_1 (fun m => kk_3 m qa1 qd1) ?_
  intro p e s m below meth c T0 C X0 e0
  refine g_aloadN C X0 (pc' := 1) d4_0 rfl rfl rfl ?_
  refine g_dup C X0 (pc' := 2) d4_1 rfl rfl ?_
  refine g_getF C X0 (host := "") (Or.inl (hw _ (List.mem_of_getElem? (i := 24) rfl))) Via.refl e0 H4 d4_2 rfl ?_
  intro T1 X1 e1
  refine g_dloadN C X1 (pc' := 6) d4_5 rfl rfl ?_
  have Bq1 : -4294967296 ≤ qz2 + qz1 ∧ qz2 + qz1 ≤ 4294967294 := by have q0 := B_qd2; have q1 := B_qd1; omega
  have D2 : FP.Core.DInt (qz2 + qz1) (FP.dadd qd2 qd1) := dadd_D D_qd2 D_qd1 (by have q0 := B_qd2; have q1 := B_qd1; show _ ≤ 9007199254740992; omega)
  refine g_dadd C X1 (pc' := 7) d4_6 (nn_of_int D2) rfl ?_
  refine g_putF C X1 (host := "") (Or.inl (hw _ (List.mem_of_getElem? (i := 24) rfl))) Via.refl e1 H4 H1 (Or.inl (hw _ (List.mem_of_getElem? (i := 25) rfl))) (hw _ (List.mem_of_getElem? (i := 1) rfl)) (ty := .double) (by decide) rfl rfl d4_7 rfl ?_
  intro T2 h2 X2 e2 W2
  have H1 := H1.wr W2
  have H2 := H2.other W2 (Or.inr (slot_ne (Or.inl (hw _ (List.mem_of_getElem? (i := 15) rfl))) (Or.inl (hw _ (List.mem_of_getElem? (i := 25) rfl))) (by decide) rfl rfl))
  have H3 := H3.other W2 (Or.inr (slot_ne (Or.inl (hw _ (List.mem_of_getElem? (i := 18) rfl))) (Or.inl (hw _ (List.mem_of_getElem? (i := 25) rfl))) (by decide) rfl rfl))
  have H4 := H4.same W2
  have H5 := H5.other W2 (Or.inr (slot_ne (Or.inl (hw _ (List.mem_of_getElem? (i := 32) rfl))) (Or.inl (hw _ (List.mem_of_getElem? (i := 25) rfl))) (by decide) rfl rfl))
  have H6 := H6.other W2 (Or.inr (slot_ne (Or.inl (hw _ (List.mem_of_getElem? (i := 86) rfl))) (Or.inl (hw _ (List.mem_of_getElem? (i := 25) rfl))) (by decide) rfl rfl))
  have H7 := H7.other W2 (Ne.symm ne_qa1_qa2)
  have H8 := H8.wr W2
  have H9 := H9.other W2 (Ne.symm ne_qa1_qa3)
  have H10 := H10.wr W2
  have Z2 : n0 ≤ h2.size := by rw [W2.size]; exact Z0
  have N2 := Fr.snoc X2 (Fr.nil n0) z_qa1
  have P2 := (Keep.refl h [qa1]).wr W2 (Or.inl (List.mem_of_getElem? (i := 0) rfl))
  refine g_aloadN C X2 (pc' := 11) d4_10 rfl rfl rfl ?_
  exact g_areturn C X2 d4_11 rfl rfl rfl (⟨FP.dadd qd2 qd1, rfl, N2, by rw [e2]; exact P2, D2, Bq1, by rw [e2]; exact H1, by rw [e2]; exact H2, by rw [e2]; exact H3, by rw [e2]; exact H4, by rw [e2]; exact H5, by rw [e2]; exact H6⟩) (by decide) (by decide)
set_option maxRecDepth 65536 in
set_option maxHeartbeats 40000000 in
theorem k4_addConstant (l : Launch) (Z : State) (a0 : Array Value) (hw : ∀ d ∈ tables_1, d.before a0 Z = true) (h : Heap) (n0 : Nat) (Z0 : n0 ≤ h.size) (qa1 : Addr) (qd1 : UInt64) (qz1 : Int) (qa2 : Addr) (qa3 : Addr) (qd2 : UInt64) (qz2 : Int) (qi1 : Int32) (qk1 : ClassId) (qk2 : ClassId) (z_qa1 : n0 ≤ qa1) (z_qa2 : n0 ≤ qa2) (z_qa3 : n0 ≤ qa3) (ne_qa1_qa2 : qa1 ≠ qa2) (ne_qa1_qa3 : qa1 ≠ qa3) (ne_qa2_qa3 : qa2 ≠ qa3) (D_qd1 : FP.Core.DInt qz1 qd1) (B_qd1 : -2147483648 ≤ qz1 ∧ qz1 ≤ 2147483647) (D_qd2 : FP.Core.DInt qz2 qd2) (B_qd2 : -4294967296 ≤ qz2 ∧ qz2 ≤ 4294967294) (B_qi1 : 1 ≤ qi1.toInt ∧ qi1.toInt ≤ 31) (H1 : Exa Z h qa1 "com/example/shared_weights/sharedweights/LinearExpression$Builder") (H2 : Fld Z h qa1 "com/example/shared_weights/sharedweights/LinearExpression$Builder" "targets" "[I" (.ref qa2)) (H3 : Fld Z h qa1 "com/example/shared_weights/sharedweights/LinearExpression$Builder" "sums" "[D" (.ref qa3)) (H4 : Fld Z h qa1 "com/example/shared_weights/sharedweights/LinearExpression$Builder" "constant" "D" (.double qd2)) (H5 : Fld Z h qa1 "com/example/shared_weights/sharedweights/LinearExpression$Builder" "count" "I" (.int (0 : Int32))) (H6 : Fld Z h qa1 "com/example/shared_weights/sharedweights/LinearExpression$Builder" "places" "Ljava/util/Map;" .null) (H7 : Arv Z h qa2 qk1 .int qi1 [] (.int (0 : Int32))) (H8 : Exa Z h qa2 "[I") (H9 : Arv Z h qa3 qk2 .double qi1 [] (.double (0 : UInt64))) (H10 : Exa Z h qa3 "[D") :
    Con l Z (⟨"com/example/shared_weights/sharedweights/LinearExpression$Builder", "addConstant", "(D)Lcom/example/shared_weights/sharedweights/LinearExpression$Builder;"⟩ : MethodName) prog_24_method_3_code 3 (some (.object "com/example/shared_weights/sharedweights/LinearExpression$Builder")) ⟨0, 0, 0, 0⟩ #[(.ref qa1), (.double qd1)] h (fun v h' L => ∃ (uv1 : UInt64), v = some (.ref qa1) ∧ Fr n0 L ∧ Keep h h' [qa1] ∧ FP.Core.DInt (qz2 + qz1) uv1 ∧ (-6442450944 ≤ (qz2 + qz1) ∧ (qz2 + qz1) ≤ 6442450941) ∧ Exa Z h' qa1 "com/example/shared_weights/sharedweights/LinearExpression$Builder" ∧ Fld Z h' qa1 "com/example/shared_weights/sharedweights/LinearExpression$Builder" "targets" "[I" (.ref qa2) ∧ Fld Z h' qa1 "com/example/shared_weights/sharedweights/LinearExpression$Builder" "sums" "[D" (.ref qa3) ∧ Fld Z h' qa1 "com/example/shared_weights/sharedweights/LinearExpression$Builder" "constant" "D" (.double uv1) ∧ Fld Z h' qa1 "com/example/shared_weights/sharedweights/LinearExpression$Builder" "count" "I" (.int (0 : Int32)) ∧ Fld Z h' qa1 "com/example/shared_weights/sharedweights/LinearExpression$Builder" "places" "Ljava/util/Map;" .null) := by
  refine con_of_go kk_1 (fun m => kk_3 m qa1 qd1) ?_
  intro p e s m below meth c T0 C X0 e0
  refine g_aloadN C X0 (pc' := 1) d4_0 rfl rfl rfl ?_
  refine g_dup C X0 (pc' := 2) d4_1 rfl rfl ?_
  refine g_getF C X0 (host := "") (Or.inl (hw _ (List.mem_of_getElem? (i := 24) rfl))) Via.refl e0 H4 d4_2 rfl ?_
  intro T1 X1 e1
  refine g_dloadN C X1 (pc' := 6) d4_5 rfl rfl ?_
  have Bq1 : -6442450944 ≤ qz2 + qz1 ∧ qz2 + qz1 ≤ 6442450941 := by have q0 := B_qd2; have q1 := B_qd1; omega
  have D2 : FP.Core.DInt (qz2 + qz1) (FP.dadd qd2 qd1) := dadd_D D_qd2 D_qd1 (by have q0 := B_qd2; have q1 := B_qd1; show _ ≤ 9007199254740992; omega)
  refine g_dadd C X1 (pc' := 7) d4_6 (nn_of_int D2) rfl ?_
  refine g_putF C X1 (host := "") (Or.inl (hw _ (List.mem_of_getElem? (i := 24) rfl))) Via.refl e1 H4 H1 (Or.inl (hw _ (List.mem_of_getElem? (i := 25) rfl))) (hw _ (List.mem_of_getElem? (i := 1) rfl)) (ty := .double) (by decide) rfl rfl d4_7 rfl ?_
  intro T2 h2 X2 e2 W2
  have H1 := H1.wr W2
  have H2 := H2.other W2 (Or.inr (slot_ne (Or.inl (hw _ (List.mem_of_getElem? (i := 15) rfl))) (Or.inl (hw _ (List.mem_of_getElem? (i := 25) rfl))) (by decide) rfl rfl))
  have H3 := H3.other W2 (Or.inr (slot_ne (Or.inl (hw _ (List.mem_of_getElem? (i := 18) rfl))) (Or.inl (hw _ (List.mem_of_getElem? (i := 25) rfl))) (by decide) rfl rfl))
  have H4 := H4.same W2
  have H5 := H5.other W2 (Or.inr (slot_ne (Or.inl (hw _ (List.mem_of_getElem? (i := 32) rfl))) (Or.inl (hw _ (List.mem_of_getElem? (i := 25) rfl))) (by decide) rfl rfl))
  have H6 := H6.other W2 (Or.inr (slot_ne (Or.inl (hw _ (List.mem_of_getElem? (i := 86) rfl))) (Or.inl (hw _ (List.mem_of_getElem? (i := 25) rfl))) (by decide) rfl rfl))
  have H7 := H7.other W2 (Ne.symm ne_qa1_qa2)
  have H8 := H8.wr W2
  have H9 := H9.other W2 (Ne.symm ne_qa1_qa3)
  have H10 := H10.wr W2
  have Z2 : n0 ≤ h2.size := by rw [W2.size]; exact Z0
  have N2 := Fr.snoc X2 (Fr.nil n0) z_qa1
  have P2 := (Keep.refl h [qa1]).wr W2 (Or.inl (List.mem_of_getElem? (i := 0) rfl))
  refine g_aloadN C X2 (pc' := 11) d4_10 rfl rfl rfl ?_
  exact g_areturn C X2 d4_11 rfl rfl rfl (⟨FP.dadd qd2 qd1, rfl, N2, by rw [e2]; exact P2, D2, Bq1, by rw [e2]; exact H1, by rw [e2]; exact H2, by rw [e2]; exact H3, by rw [e2]; exact H4, by rw [e2]; exact H5, by rw [e2]; exact H6⟩) (by decide) (by decide)
theorem d5_0 : decode prog_24_method_4_code 0 = .ok (.iconst 0, 1) := by decide +kernel
theorem d5_1 : decode prog_24_method_4_code 1 = .ok (.istore_n 1, 1) := by decide +kernel
theorem d5_2 : decode prog_24_method_4_code 2 = .ok (.iconst 0, 1) := by decide +kernel
theorem d5_3 : decode prog_24_method_4_code 3 = .ok (.istore_n 2, 1) := by decide +kernel
theorem d5_4 : decode prog_24_method_4_code 4 = .ok (.iload_n 2, 1) := by decide +kernel
theorem d5_5 : decode prog_24_method_4_code 5 = .ok (.aload_n 0, 1) := by decide +kernel
theorem d5_6 : decode prog_24_method_4_code 6 = .ok (.getfield 27, 3) := by decide +kernel
theorem d5_9 : decode prog_24_method_4_code 9 = .ok (.if_icmp .ge 28, 3) := by decide +kernel
theorem d5_12 : decode prog_24_method_4_code 12 = .ok (.iload_n 1, 1) := by decide +kernel
theorem d5_13 : decode prog_24_method_4_code 13 = .ok (.aload_n 0, 1) := by decide +kernel
theorem d5_14 : decode prog_24_method_4_code 14 = .ok (.getfield 19, 3) := by decide +kernel
theorem d5_17 : decode prog_24_method_4_code 17 = .ok (.iload_n 2, 1) := by decide +kernel
theorem d5_18 : decode prog_24_method_4_code 18 = .ok (.daload, 1) := by decide +kernel
theorem d5_19 : decode prog_24_method_4_code 19 = .ok (.dconst 0, 1) := by decide +kernel
theorem d5_20 : decode prog_24_method_4_code 20 = .ok (.dcmp .l, 1) := by decide +kernel
theorem d5_21 : decode prog_24_method_4_code 21 = .ok (.ifCond .eq 7, 3) := by decide +kernel
theorem d5_24 : decode prog_24_method_4_code 24 = .ok (.iconst 1, 1) := by decide +kernel
theorem d5_25 : decode prog_24_method_4_code 25 = .ok (.goto 4, 3) := by decide +kernel
theorem d5_28 : decode prog_24_method_4_code 28 = .ok (.iconst 0, 1) := by decide +kernel
theorem d5_29 : decode prog_24_method_4_code 29 = .ok (.iadd, 1) := by decide +kernel
theorem d5_30 : decode prog_24_method_4_code 30 = .ok (.istore_n 1, 1) := by decide +kernel
theorem d5_31 : decode prog_24_method_4_code 31 = .ok (.iinc 2 1, 3) := by decide +kernel
theorem d5_34 : decode prog_24_method_4_code 34 = .ok (.goto (-30), 3) := by decide +kernel
theorem d5_37 : decode prog_24_method_4_code 37 = .ok (.iload_n 1, 1) := by decide +kernel
theorem d5_38 : decode prog_24_method_4_code 38 = .ok (.newarray .int, 2) := by decide +kernel
theorem d5_40 : decode prog_24_method_4_code 40 = .ok (.astore_n 2, 1) := by decide +kernel
theorem d5_41 : decode prog_24_method_4_code 41 = .ok (.iload_n 1, 1) := by decide +kernel
theorem d5_42 : decode prog_24_method_4_code 42 = .ok (.newarray .double, 2) := by decide +kernel
theorem d5_44 : decode prog_24_method_4_code 44 = .ok (.astore_n 3, 1) := by decide +kernel
theorem d5_45 : decode prog_24_method_4_code 45 = .ok (.iconst 0, 1) := by decide +kernel
theorem d5_46 : decode prog_24_method_4_code 46 = .ok (.istore 4, 2) := by decide +kernel
theorem d5_48 : decode prog_24_method_4_code 48 = .ok (.iconst 0, 1) := by decide +kernel
theorem d5_49 : decode prog_24_method_4_code 49 = .ok (.istore 5, 2) := by decide +kernel
theorem d5_51 : decode prog_24_method_4_code 51 = .ok (.iload 5, 2) := by decide +kernel
theorem d5_53 : decode prog_24_method_4_code 53 = .ok (.aload_n 0, 1) := by decide +kernel
theorem d5_54 : decode prog_24_method_4_code 54 = .ok (.getfield 27, 3) := by decide +kernel
theorem d5_57 : decode prog_24_method_4_code 57 = .ok (.if_icmp .ge 46, 3) := by decide +kernel
theorem d5_60 : decode prog_24_method_4_code 60 = .ok (.aload_n 0, 1) := by decide +kernel
theorem d5_61 : decode prog_24_method_4_code 61 = .ok (.getfield 19, 3) := by decide +kernel
theorem d5_64 : decode prog_24_method_4_code 64 = .ok (.iload 5, 2) := by decide +kernel
theorem d5_66 : decode prog_24_method_4_code 66 = .ok (.daload, 1) := by decide +kernel
theorem d5_67 : decode prog_24_method_4_code 67 = .ok (.dconst 0, 1) := by decide +kernel
theorem d5_68 : decode prog_24_method_4_code 68 = .ok (.dcmp .l, 1) := by decide +kernel
theorem d5_69 : decode prog_24_method_4_code 69 = .ok (.ifCond .eq 28, 3) := by decide +kernel
theorem d5_72 : decode prog_24_method_4_code 72 = .ok (.aload_n 2, 1) := by decide +kernel
theorem d5_73 : decode prog_24_method_4_code 73 = .ok (.iload 4, 2) := by decide +kernel
theorem d5_75 : decode prog_24_method_4_code 75 = .ok (.aload_n 0, 1) := by decide +kernel
theorem d5_76 : decode prog_24_method_4_code 76 = .ok (.getfield 13, 3) := by decide +kernel
theorem d5_79 : decode prog_24_method_4_code 79 = .ok (.iload 5, 2) := by decide +kernel
theorem d5_81 : decode prog_24_method_4_code 81 = .ok (.iaload, 1) := by decide +kernel
theorem d5_82 : decode prog_24_method_4_code 82 = .ok (.iastore, 1) := by decide +kernel
theorem d5_83 : decode prog_24_method_4_code 83 = .ok (.aload_n 3, 1) := by decide +kernel
theorem d5_84 : decode prog_24_method_4_code 84 = .ok (.iload 4, 2) := by decide +kernel
theorem d5_86 : decode prog_24_method_4_code 86 = .ok (.aload_n 0, 1) := by decide +kernel
theorem d5_87 : decode prog_24_method_4_code 87 = .ok (.getfield 19, 3) := by decide +kernel
theorem d5_90 : decode prog_24_method_4_code 90 = .ok (.iload 5, 2) := by decide +kernel
theorem d5_92 : decode prog_24_method_4_code 92 = .ok (.daload, 1) := by decide +kernel
theorem d5_93 : decode prog_24_method_4_code 93 = .ok (.dastore, 1) := by decide +kernel
theorem d5_94 : decode prog_24_method_4_code 94 = .ok (.iinc 4 1, 3) := by decide +kernel
theorem d5_97 : decode prog_24_method_4_code 97 = .ok (.iinc 5 1, 3) := by decide +kernel
theorem d5_100 : decode prog_24_method_4_code 100 = .ok (.goto (-49), 3) := by decide +kernel
theorem d5_103 : decode prog_24_method_4_code 103 = .ok (.new 63, 3) := by decide +kernel
theorem d5_106 : decode prog_24_method_4_code 106 = .ok (.dup, 1) := by decide +kernel
theorem d5_107 : decode prog_24_method_4_code 107 = .ok (.aload_n 2, 1) := by decide +kernel
theorem d5_108 : decode prog_24_method_4_code 108 = .ok (.aload_n 3, 1) := by decide +kernel
theorem d5_109 : decode prog_24_method_4_code 109 = .ok (.aload_n 0, 1) := by decide +kernel
theorem d5_110 : decode prog_24_method_4_code 110 = .ok (.getfield 59, 3) := by decide +kernel
theorem d5_113 : decode prog_24_method_4_code 113 = .ok (.invokespecial 65, 3) := by decide +kernel
theorem d5_116 : decode prog_24_method_4_code 116 = .ok (.areturn, 1) := by decide +kernel
theorem d6_0 : decode prog_23_method_1_code 0 = .ok (.aload_n 0, 1) := by decide +kernel
theorem d6_1 : decode prog_23_method_1_code 1 = .ok (.invokespecial 1, 3) := by decide +kernel
theorem d6_4 : decode prog_23_method_1_code 4 = .ok (.aload_n 0, 1) := by decide +kernel
theorem d6_5 : decode prog_23_method_1_code 5 = .ok (.aload_n 1, 1) := by decide +kernel
theorem d6_6 : decode prog_23_method_1_code 6 = .ok (.putfield 7, 3) := by decide +kernel
theorem d6_9 : decode prog_23_method_1_code 9 = .ok (.aload_n 0, 1) := by decide +kernel
theorem d6_10 : decode prog_23_method_1_code 10 = .ok (.aload_n 2, 1) := by decide +kernel
theorem d6_11 : decode prog_23_method_1_code 11 = .ok (.putfield 13, 3) := by decide +kernel
theorem d6_14 : decode prog_23_method_1_code 14 = .ok (.aload_n 0, 1) := by decide +kernel
theorem d6_15 : decode prog_23_method_1_code 15 = .ok (.dload_n 3, 1) := by decide +kernel
theorem d6_16 : decode prog_23_method_1_code 16 = .ok (.putfield 17, 3) := by decide +kernel
theorem d6_19 : decode prog_23_method_1_code 19 = .ok (.return_, 1) := by decide +kernel
theorem kk_5 (m : MethodId) (x0 : Addr) (x1 : Addr) (x2 : Addr) (x3 : UInt64) : entryFrame m #[(.ref x0), (.ref x1), (.ref x2), (.double x3)] 5 = mkF m 0 #[.val (.ref x0), .val (.ref x1), .val (.ref x2), .val (.double x3), .second] [] := by first | (simp [entryFrame, mkF, argsToLocals, Value.category]; done) | rfl
theorem kk_6 : plainName "com/example/shared_weights/sharedweights/LinearExpression" = true := by first | (simp [plainName, overriddenIn]; done) | decide +kernel
set_option maxRecDepth 65536 in
set_option maxHeartbeats 40000000 in
theorem k5_init (l : Launch) (Z : State) (a0 : Array Value) (hw : ∀ d ∈ tables_1, d.before a0 Z = true) (h : Heap) (n0 : Nat) (Z0 : n0 ≤ h.size) (qa1 : Addr) (qa2 : Addr) (qa3 : Addr) (qd1 : UInt64) (qz1 : Int) (qk1 : ClassId) (qk2 : ClassId) (z_qa1 : n0 ≤ qa1) (z_qa2 : n0 ≤ qa2) (z_qa3 : n0 ≤ qa3) (ne_qa1_qa2 : qa1 ≠ qa2) (ne_qa1_qa3 : qa1 ≠ qa3) (ne_qa2_qa3 : qa2 ≠ qa3) (D_qd1 : FP.Core.DInt qz1 qd1) (B_qd1 : -6442450944 ≤ qz1 ∧ qz1 ≤ 6442450941) (H1 : Exa Z h qa1 "com/example/shared_weights/sharedweights/LinearExpression") (H2 : Fld Z h qa1 "com/example/shared_weights/sharedweights/LinearExpression" "variables" "[I" .null) (H3 : Fld Z h qa1 "com/example/shared_weights/sharedweights/LinearExpression" "coefficients" "[D" .null) (H4 : Fld Z h qa1 "com/example/shared_weights/sharedweights/LinearExpression" "constant" "D" (.double (0 : UInt64))) (H5 : Arv Z h qa2 qk1 .int (0 : Int32) [] (.int (0 : Int32))) (H6 : Exa Z h qa2 "[I") (H7 : Arv Z h qa3 qk2 .double (0 : Int32) [] (.double (0 : UInt64))) (H8 : Exa Z h qa3 "[D") :
    Con l Z (⟨"com/example/shared_weights/sharedweights/LinearExpression", "<init>", "([I[DD)V"⟩ : MethodName) prog_23_method_1_code 5 none ⟨1, 0, 0, 12⟩ #[(.ref qa1), (.ref qa2), (.ref qa3), (.double qd1)] h (fun v h' L => v = none ∧ Fr n0 L ∧ Keep h h' [qa1] ∧ Exa Z h' qa1 "com/example/shared_weights/sharedweights/LinearExpression" ∧ Fld Z h' qa1 "com/example/shared_weights/sharedweights/LinearExpression" "variables" "[I" (.ref qa2) ∧ Fld Z h' qa1 "com/example/shared_weights/sharedweights/LinearExpression" "coefficients" "[D" (.ref qa3) ∧ Fld Z h' qa1 "com/example/shared_weights/sharedweights/LinearExpression" "constant" "D" (.double qd1)) := by
  refine con_of_go kk_6 (fun m => kk_5 m qa1 qa2 qa3 qd1) ?_
  intro p e s m below meth c T0 C X0 e0
  refine g_aloadN C X0 (pc' := 1) d6_0 rfl rfl rfl ?_
  refine g_initO C X0 (hw _ (List.mem_of_getElem? (i := 39) rfl)) (hw _ (List.mem_of_getElem? (i := 7) rfl)) (hw _ (List.mem_of_getElem? (i := 8) rfl)) e0 d6_1 rfl 0 rfl (by decide) (by decide) rfl ?_
  intro T1 X1 e1
  refine g_aloadN C X1 (pc' := 5) d6_4 rfl rfl rfl ?_
  refine g_aloadN C X1 (pc' := 6) d6_5 rfl rfl rfl ?_
  refine g_putF C X1 (host := "") (Or.inl (hw _ (List.mem_of_getElem? (i := 40) rfl))) Via.refl e1 H2 H1 (Or.inr ⟨(hw _ (List.mem_of_getElem? (i := 41) rfl)), rfl, rfl⟩) (hw _ (List.mem_of_getElem? (i := 34) rfl)) (ty := (.array .int)) (by decide) rfl rfl d6_6 rfl ?_
  intro T2 h2 X2 e2 W2
  have H1 := H1.wr W2
  have H2 := H2.same W2
  have H3 := H3.other W2 (Or.inr (slot_ne (Or.inr (hw _ (List.mem_of_getElem? (i := 43) rfl))) (Or.inr (hw _ (List.mem_of_getElem? (i := 41) rfl))) (by decide) rfl rfl))
  have H4 := H4.other W2 (Or.inr (slot_ne (Or.inr (hw _ (List.mem_of_getElem? (i := 45) rfl))) (Or.inr (hw _ (List.mem_of_getElem? (i := 41) rfl))) (by decide) rfl rfl))
  have H5 := H5.other W2 (Ne.symm ne_qa1_qa2)
  have H6 := H6.wr W2
  have H7 := H7.other W2 (Ne.symm ne_qa1_qa3)
  have H8 := H8.wr W2
  have Z2 : n0 ≤ h2.size := by rw [W2.size]; exact Z0
  have N2 := Fr.snoc X2 (Fr.nil n0) z_qa1
  have P2 := (Keep.refl h [qa1]).wr W2 (Or.inl (List.mem_of_getElem? (i := 0) rfl))
  refine g_aloadN C X2 (pc' := 10) d6_9 rfl rfl rfl ?_
  refine g_aloadN C X2 (pc' := 11) d6_10 rfl rfl rfl ?_
  refine g_putF C X2 (host := "") (Or.inl (hw _ (List.mem_of_getElem? (i := 42) rfl))) Via.refl e2 H3 H1 (Or.inr ⟨(hw _ (List.mem_of_getElem? (i := 43) rfl)), rfl, rfl⟩) (hw _ (List.mem_of_getElem? (i := 34) rfl)) (ty := (.array .double)) (by decide) rfl rfl d6_11 rfl ?_
  intro T3 h3 X3 e3 W3
  have H1 := H1.wr W3
  have H2 := H2.other W3 (Or.inr (slot_ne (Or.inr (hw _ (List.mem_of_getElem? (i := 41) rfl))) (Or.inr (hw _ (List.mem_of_getElem? (i := 43) rfl))) (by decide) rfl rfl))
  have H3 := H3.same W3
  have H4 := H4.other W3 (Or.inr (slot_ne (Or.inr (hw _ (List.mem_of_getElem? (i := 45) rfl))) (Or.inr (hw _ (List.mem_of_getElem? (i := 43) rfl))) (by decide) rfl rfl))
  have H5 := H5.other W3 (Ne.symm ne_qa1_qa2)
  have H6 := H6.wr W3
  have H7 := H7.other W3 (Ne.symm ne_qa1_qa3)
  have H8 := H8.wr W3
  have Z3 : n0 ≤ h3.size := by rw [W3.size]; exact Z2
  have N3 := Fr.snoc X3 N2 z_qa1
  have P3 := P2.wr W3 (Or.inl (List.mem_of_getElem? (i := 0) rfl))
  refine g_aloadN C X3 (pc' := 15) d6_14 rfl rfl rfl ?_
  refine g_dloadN C X3 (pc' := 16) d6_15 rfl rfl ?_
  refine g_putF C X3 (host := "") (Or.inl (hw _ (List.mem_of_getElem? (i := 44) rfl))) Via.refl e3 H4 H1 (Or.inr ⟨(hw _ (List.mem_of_getElem? (i := 45) rfl)), rfl, rfl⟩) (hw _ (List.mem_of_getElem? (i := 34) rfl)) (ty := .double) (by decide) rfl rfl d6_16 rfl ?_
  intro T4 h4 X4 e4 W4
  have H1 := H1.wr W4
  have H2 := H2.other W4 (Or.inr (slot_ne (Or.inr (hw _ (List.mem_of_getElem? (i := 41) rfl))) (Or.inr (hw _ (List.mem_of_getElem? (i := 45) rfl))) (by decide) rfl rfl))
  have H3 := H3.other W4 (Or.inr (slot_ne (Or.inr (hw _ (List.mem_of_getElem? (i := 43) rfl))) (Or.inr (hw _ (List.mem_of_getElem? (i := 45) rfl))) (by decide) rfl rfl))
  have H4 := H4.same W4
  have H5 := H5.other W4 (Ne.symm ne_qa1_qa2)
  have H6 := H6.wr W4
  have H7 := H7.other W4 (Ne.symm ne_qa1_qa3)
  have H8 := H8.wr W4
  have Z4 : n0 ≤ h4.size := by rw [W4.size]; exact Z3
  have N4 := Fr.snoc X4 N3 z_qa1
  have P4 := P3.wr W4 (Or.inl (List.mem_of_getElem? (i := 0) rfl))
  exact g_return C X4 d6_19 (⟨rfl, N4, by rw [e4]; exact P4, by rw [e4]; exact H1, by rw [e4]; exact H2, by rw [e4]; exact H3, by rw [e4]; exact H4⟩) (by decide) (by decide)
theorem kk_7 : parseMethodDescriptor "([I[DD)V" = some ⟨[(.array .int), (.array .double), .double], none⟩ := by decide +kernel
theorem kk_8 (m : MethodId) (x0 : Addr) : entryFrame m #[(.ref x0)] 6 = mkF m 0 #[.val (.ref x0), .unset, .unset, .unset, .unset, .unset] [] := by first | (simp [entryFrame, mkF, argsToLocals, Value.category]; done) | rfl
set_option maxRecDepth 65536 in
set_option maxHeartbeats 40000000 in
theorem k6_build (l : Launch) (Z : State) (a0 : Array Value) (hw : ∀ d ∈ tables_1, d.before a0 Z = true) (h : Heap) (n0 : Nat) (Z0 : n0 ≤ h.size) (qa1 : Addr) (qa2 : Addr) (qa3 : Addr) (qd1 : UInt64) (qz1 : Int) (qi1 : Int32) (qk1 : ClassId) (qk2 : ClassId) (z_qa1 : n0 ≤ qa1) (z_qa2 : n0 ≤ qa2) (z_qa3 : n0 ≤ qa3) (ne_qa1_qa2 : qa1 ≠ qa2) (ne_qa1_qa3 : qa1 ≠ qa3) (ne_qa2_qa3 : qa2 ≠ qa3) (D_qd1 : FP.Core.DInt qz1 qd1) (B_qd1 : -6442450944 ≤ qz1 ∧ qz1 ≤ 6442450941) (B_qi1 : 1 ≤ qi1.toInt ∧ qi1.toInt ≤ 31) (H1 : Exa Z h qa1 "com/example/shared_weights/sharedweights/LinearExpression$Builder") (H2 : Fld Z h qa1 "com/example/shared_weights/sharedweights/LinearExpression$Builder" "targets" "[I" (.ref qa2)) (H3 : Fld Z h qa1 "com/example/shared_weights/sharedweights/LinearExpression$Builder" "sums" "[D" (.ref qa3)) (H4 : Fld Z h qa1 "com/example/shared_weights/sharedweights/LinearExpression$Builder" "constant" "D" (.double qd1)) (H5 : Fld Z h qa1 "com/example/shared_weights/sharedweights/LinearExpression$Builder" "count" "I" (.int (0 : Int32))) (H6 : Fld Z h qa1 "com/example/shared_weights/sharedweights/LinearExpression$Builder" "places" "Ljava/util/Map;" .null) (H7 : Arv Z h qa2 qk1 .int qi1 [] (.int (0 : Int32))) (H8 : Exa Z h qa2 "[I") (H9 : Arv Z h qa3 qk2 .double qi1 [] (.double (0 : UInt64))) (H10 : Exa Z h qa3 "[D") :
    Con l Z (⟨"com/example/shared_weights/sharedweights/LinearExpression$Builder", "build", "()Lcom/example/shared_weights/sharedweights/LinearExpression;"⟩ : MethodName) prog_24_method_4_code 6 (some (.object "com/example/shared_weights/sharedweights/LinearExpression")) ⟨2, 3, 3, 29⟩ #[(.ref qa1)] h (fun v h' L => ∃ (uf1 : Addr) (uf2 : Addr) (uf3 : Addr) (uk4 : ClassId) (uk5 : ClassId), v = some (.ref uf1) ∧ Fr n0 L ∧ Keep h h' [] ∧ h.size ≤ uf1 ∧ uf1 ≠ uf2 ∧ uf1 ≠ uf3 ∧ h.size ≤ uf2 ∧ uf2 ≠ uf3 ∧ h.size ≤ uf3 ∧ Exa Z h' uf1 "com/example/shared_weights/sharedweights/LinearExpression" ∧ Fld Z h' uf1 "com/example/shared_weights/sharedweights/LinearExpression" "variables" "[I" (.ref uf2) ∧ Fld Z h' uf1 "com/example/shared_weights/sharedweights/LinearExpression" "coefficients" "[D" (.ref uf3) ∧ Fld Z h' uf1 "com/example/shared_weights/sharedweights/LinearExpression" "constant" "D" (.double qd1) ∧ Arv Z h' uf2 uk4 .int (0 : Int32) [] (.int (0 : Int32)) ∧ Exa Z h' uf2 "[I" ∧ Arv Z h' uf3 uk5 .double (0 : Int32) [] (.double (0 : UInt64)) ∧ Exa Z h' uf3 "[D") := by
  refine con_of_go kk_1 (fun m => kk_8 m qa1) ?_
  intro p e s m below meth c T0 C X0 e0
  refine g_iconst C X0 (pc' := 1) d5_0 (v := (0 : Int32)) (by decide) rfl ?_
  refine g_istoreN C X0 (pc' := 2) d5_1 (x := (0 : Int32)) rfl (l' := #[.val (.ref qa1), .val (.int (0 : Int32)), .unset, .unset, .unset, .unset]) rfl rfl ?_
  refine g_iconst C X0 (pc' := 3) d5_2 (v := (0 : Int32)) (by decide) rfl ?_
  refine g_istoreN C X0 (pc' := 4) d5_3 (x := (0 : Int32)) rfl (l' := #[.val (.ref qa1), .val (.int (0 : Int32)), .val (.int (0 : Int32)), .unset, .unset, .unset]) rfl rfl ?_
  refine g_iloadN C X0 (pc' := 5) d5_4 rfl rfl ?_
  refine g_aloadN C X0 (pc' := 6) d5_5 rfl rfl rfl ?_
  refine g_getF C X0 (host := "") (Or.inl (hw _ (List.mem_of_getElem? (i := 31) rfl))) Via.refl e0 H5 d5_6 rfl ?_
  intro T1 X1 e1
  refine g_icmpY C X1 d5_9 (pc' := 37) (by decide) (by decide) (by decide) ?_
  refine g_iloadN C X1 (pc' := 38) d5_37 rfl rfl ?_
  refine g_newPE C X1 (aty := .int) (ad := "[I") (by decide) (hw _ (List.mem_of_getElem? (i := 13) rfl)) e1 d5_38 (by decide) 0 (by decide) (by decide) (by decide) (by decide) rfl ?_
  intro T2 h2 a2 k2 g2 X2 e2 E2 A2 B2
  have ne_qa1_a2 : qa1 ≠ a2 := Nat.ne_of_lt (by rw [g2]; exact H1.lt)
  have ne_qa2_a2 : qa2 ≠ a2 := Nat.ne_of_lt (by rw [g2]; exact H7.lt)
  have ne_qa3_a2 : qa3 ≠ a2 := Nat.ne_of_lt (by rw [g2]; exact H9.lt)
  have z_a2 : n0 ≤ a2 := by rw [g2]; exact Z0
  have y_a2 : h.size ≤ a2 := by rw [g2]; exact (Keep.refl h []).1
  have H1 := H1.ext E2
  have H2 := H2.ext E2
  have H3 := H3.ext E2
  have H4 := H4.ext E2
  have H5 := H5.ext E2
  have H6 := H6.ext E2
  have H7 := H7.ext E2
  have H8 := H8.ext E2
  have H9 := H9.ext E2
  have H10 := H10.ext E2
  have P2 := (Keep.refl h []).ext E2
  have Z2 : n0 ≤ h2.size := Nat.le_trans Z0 E2.1
  have A2 : Arv Z h2 a2 k2 .int (0 : Int32) [] (.int (0 : Int32)) := A2
  refine g_astoreN C X2 (pc' := 41) d5_40 rfl (l' := #[.val (.ref qa1), .val (.int (0 : Int32)), .val (.ref a2), .unset, .unset, .unset]) rfl rfl ?_
  refine g_iloadN C X2 (pc' := 42) d5_41 rfl rfl ?_
  refine g_newPE C X2 (aty := .double) (ad := "[D") (by decide) (hw _ (List.mem_of_getElem? (i := 16) rfl)) e2 d5_42 (by decide) 0 (by decide) (by decide) (by decide) (by decide) rfl ?_
  intro T3 h3 a3 k3 g3 X3 e3 E3 A3 B3
  have ne_a2_a3 : a2 ≠ a3 := Nat.ne_of_lt (by rw [g3]; exact A2.lt)
  have ne_qa1_a3 : qa1 ≠ a3 := Nat.ne_of_lt (by rw [g3]; exact H1.lt)
  have ne_qa2_a3 : qa2 ≠ a3 := Nat.ne_of_lt (by rw [g3]; exact H7.lt)
  have ne_qa3_a3 : qa3 ≠ a3 := Nat.ne_of_lt (by rw [g3]; exact H9.lt)
  have z_a3 : n0 ≤ a3 := by rw [g3]; exact Z2
  have y_a3 : h.size ≤ a3 := by rw [g3]; exact P2.1
  have H1 := H1.ext E3
  have H2 := H2.ext E3
  have H3 := H3.ext E3
  have H4 := H4.ext E3
  have H5 := H5.ext E3
  have H6 := H6.ext E3
  have H7 := H7.ext E3
  have H8 := H8.ext E3
  have H9 := H9.ext E3
  have H10 := H10.ext E3
  have A2 := A2.ext E3
  have B2 := B2.ext E3
  have P3 := P2.ext E3
  have Z3 : n0 ≤ h3.size := Nat.le_trans Z2 E3.1
  have A3 : Arv Z h3 a3 k3 .double (0 : Int32) [] (.double (0 : UInt64)) := A3
  refine g_astoreN C X3 (pc' := 45) d5_44 rfl (l' := #[.val (.ref qa1), .val (.int (0 : Int32)), .val (.ref a2), .val (.ref a3), .unset, .unset]) rfl rfl ?_
  refine g_iconst C X3 (pc' := 46) d5_45 (v := (0 : Int32)) (by decide) rfl ?_
  refine g_istore C X3 (pc' := 48) d5_46 (x := (0 : Int32)) rfl (l' := #[.val (.ref qa1), .val (.int (0 : Int32)), .val (.ref a2), .val (.ref a3), .val (.int (0 : Int32)), .unset]) rfl rfl ?_
  refine g_iconst C X3 (pc' := 49) d5_48 (v := (0 : Int32)) (by decide) rfl ?_
  refine g_istore C X3 (pc' := 51) d5_49 (x := (0 : Int32)) rfl (l' := #[.val (.ref qa1), .val (.int (0 : Int32)), .val (.ref a2), .val (.ref a3), .val (.int (0 : Int32)), .val (.int (0 : Int32))]) rfl rfl ?_
  refine g_iload C X3 (pc' := 53) d5_51 rfl rfl ?_
  refine g_aloadN C X3 (pc' := 54) d5_53 rfl rfl rfl ?_
  refine g_getF C X3 (host := "") (Or.inl (hw _ (List.mem_of_getElem? (i := 31) rfl))) Via.refl e3 H5 d5_54 rfl ?_
  intro T4 X4 e4
  refine g_icmpY C X4 d5_57 (pc' := 103) (by decide) (by decide) (by decide) ?_
  refine g_new C X4 (hw _ (List.mem_of_getElem? (i := 33) rfl)) (hw _ (List.mem_of_getElem? (i := 34) rfl)) (hw _ (List.mem_of_getElem? (i := 35) rfl)) e4 d5_103 (by decide) (by decide) rfl ?_
  intro T5 h5 a5 g5 X5 e5 E5 A5 D5
  have ne_a2_a5 : a2 ≠ a5 := Nat.ne_of_lt (by rw [g5]; exact A2.lt)
  have ne_a3_a5 : a3 ≠ a5 := Nat.ne_of_lt (by rw [g5]; exact A3.lt)
  have ne_qa1_a5 : qa1 ≠ a5 := Nat.ne_of_lt (by rw [g5]; exact H1.lt)
  have ne_qa2_a5 : qa2 ≠ a5 := Nat.ne_of_lt (by rw [g5]; exact H7.lt)
  have ne_qa3_a5 : qa3 ≠ a5 := Nat.ne_of_lt (by rw [g5]; exact H9.lt)
  have z_a5 : n0 ≤ a5 := by rw [g5]; exact Z3
  have y_a5 : h.size ≤ a5 := by rw [g5]; exact P3.1
  have H1 := H1.ext E5
  have H2 := H2.ext E5
  have H3 := H3.ext E5
  have H4 := H4.ext E5
  have H5 := H5.ext E5
  have H6 := H6.ext E5
  have H7 := H7.ext E5
  have H8 := H8.ext E5
  have H9 := H9.ext E5
  have H10 := H10.ext E5
  have A2 := A2.ext E5
  have B2 := B2.ext E5
  have A3 := A3.ext E5
  have B3 := B3.ext E5
  have P5 := P3.ext E5
  have Z5 : n0 ≤ h5.size := Nat.le_trans Z3 E5.1
  have F5_1 : Fld Z h5 a5 "com/example/shared_weights/sharedweights/LinearExpression" "variables" "[I" .null := D5 (Or.inr (hw _ (List.mem_of_getElem? (i := 41) rfl))) (ty := (.array .int)) (by decide)
  have F5_2 : Fld Z h5 a5 "com/example/shared_weights/sharedweights/LinearExpression" "coefficients" "[D" .null := D5 (Or.inr (hw _ (List.mem_of_getElem? (i := 43) rfl))) (ty := (.array .double)) (by decide)
  have F5_3 : Fld Z h5 a5 "com/example/shared_weights/sharedweights/LinearExpression" "constant" "D" (.double (0 : UInt64)) := D5 (Or.inr (hw _ (List.mem_of_getElem? (i := 45) rfl))) (ty := .double) (by decide)
  refine g_dup C X5 (pc' := 107) d5_106 rfl rfl ?_
  refine g_aloadN C X5 (pc' := 108) d5_107 rfl rfl rfl ?_
  refine g_aloadN C X5 (pc' := 109) d5_108 rfl rfl rfl ?_
  refine g_aloadN C X5 (pc' := 110) d5_109 rfl rfl rfl ?_
  refine g_getF C X5 (host := "") (Or.inl (hw _ (List.mem_of_getElem? (i := 24) rfl))) Via.refl e5 H4 d5_110 rfl ?_
  intro T6 X6 e6
  refine g_callIN C X6 (k5_init l Z a0 hw h5 n0 Z5 a5 a2 a3 qd1 qz1 k2 k3 z_a5 z_a2 z_a3 (Ne.symm ne_a2_a5) (Ne.symm ne_a3_a5) ne_a2_a3 D_qd1 B_qd1 A5 F5_1 F5_2 F5_3 A2 B2 A3 B3) rfl (hw _ (List.mem_of_getElem? (i := 36) rfl)) (hw _ (List.mem_of_getElem? (i := 37) rfl)) (hw _ (List.mem_of_getElem? (i := 35) rfl)) (hw _ (List.mem_of_getElem? (i := 38) rfl)) (by decide) e6 d5_113 rfl kk_7 a5 [(.ref a2), (.ref a3), (.double qd1)] [(.ref a5)] rfl rfl rfl 1 rfl (by decide) (by decide) (by decide) (by decide) rfl ?_
  rintro _ T7 L7 X7 ⟨rfl, M7, K7, FF1, FF2, FF3, FF4⟩
  have H1 := H1.keep K7
  have H2 := H2.keep K7 (ninS ne_qa1_a5 nin0)
  have H3 := H3.keep K7 (ninS ne_qa1_a5 nin0)
  have H4 := H4.keep K7 (ninS ne_qa1_a5 nin0)
  have H5 := H5.keep K7 (ninS ne_qa1_a5 nin0)
  have H6 := H6.keep K7 (ninS ne_qa1_a5 nin0)
  have H7 := H7.keep K7 (ninS ne_qa2_a5 nin0)
  have H8 := H8.keep K7
  have H9 := H9.keep K7 (ninS ne_qa3_a5 nin0)
  have H10 := H10.keep K7
  have A2 := A2.keep K7 (ninS ne_a2_a5 nin0)
  have B2 := B2.keep K7
  have A3 := A3.keep K7 (ninS ne_a3_a5 nin0)
  have B3 := B3.keep K7
  have Z7 : n0 ≤ T7.heap.size := Nat.le_trans Z5 K7.1
  have P7 := P5.trans K7 (alc (Or.inr y_a5) al0)
  have N7 := Fr.app (Fr.nil n0) M7
  obtain ⟨h7, e7⟩ : ∃ z, T7.heap = z := ⟨_, rfl⟩
  rw [e7] at H1 H2 H3 H4 H5 H6 H7 H8 H9 H10 A2 B2 A3 B3 FF1 FF2 FF3 FF4 Z7 P7
  show Go p.tables e below _ T7 (mkF m 116 #[.val (.ref qa1), .val (.int (0 : Int32)), .val (.ref a2), .val (.ref a3), .val (.int (0 : Int32)), .val (.int (0 : Int32))] [(.ref a5)])
  exact g_areturn C X7 d5_116 rfl rfl rfl (⟨a5, a2, a3, k2, k3, rfl, N7, by rw [e7]; exact P7, y_a5, (Ne.symm ne_a2_a5), (Ne.symm ne_a3_a5), y_a2, ne_a2_a3, y_a3, by rw [e7]; exact FF1, by rw [e7]; exact FF2, by rw [e7]; exact FF3, by rw [e7]; exact FF4, by rw [e7]; exact A2, by rw [e7]; exact B2, by rw [e7]; exact A3, by rw [e7]; exact B3⟩) (by decide) (by decide)
theorem kk_9 : parseMethodDescriptor "()Lcom/example/shared_weights/sharedweights/LinearExpression;" = some ⟨[], (some (.object "com/example/shared_weights/sharedweights/LinearExpression"))⟩ := by decide +kernel
theorem d7_0 : decode prog_23_method_4_code 0 = .ok (.aload_n 0, 1) := by decide +kernel
theorem d7_1 : decode prog_23_method_4_code 1 = .ok (.getfield 17, 3) := by decide +kernel
theorem d7_4 : decode prog_23_method_4_code 4 = .ok (.dreturn, 1) := by decide +kernel
theorem kk_10 (m : MethodId) (x0 : Addr) : entryFrame m #[(.ref x0)] 1 = mkF m 0 #[.val (.ref x0)] [] := by first | (simp [entryFrame, mkF, argsToLocals, Value.category]; done) | rfl
set_option maxRecDepth 65536 in
set_option maxHeartbeats 40000000 in
theorem k7_constant (l : Launch) (Z : State) (a0 : Array Value) (hw : ∀ d ∈ tables_1, d.before a0 Z = true) (h : Heap) (n0 : Nat) (Z0 : n0 ≤ h.size) (qa1 : Addr) (qa2 : Addr) (qa3 : Addr) (qd1 : UInt64) (qz1 : Int) (qk1 : ClassId) (qk2 : ClassId) (z_qa1 : n0 ≤ qa1) (z_qa2 : n0 ≤ qa2) (z_qa3 : n0 ≤ qa3) (ne_qa1_qa2 : qa1 ≠ qa2) (ne_qa1_qa3 : qa1 ≠ qa3) (ne_qa2_qa3 : qa2 ≠ qa3) (D_qd1 : FP.Core.DInt qz1 qd1) (B_qd1 : -6442450944 ≤ qz1 ∧ qz1 ≤ 6442450941) (H1 : Exa Z h qa1 "com/example/shared_weights/sharedweights/LinearExpression") (H2 : Fld Z h qa1 "com/example/shared_weights/sharedweights/LinearExpression" "variables" "[I" (.ref qa2)) (H3 : Fld Z h qa1 "com/example/shared_weights/sharedweights/LinearExpression" "coefficients" "[D" (.ref qa3)) (H4 : Fld Z h qa1 "com/example/shared_weights/sharedweights/LinearExpression" "constant" "D" (.double qd1)) (H5 : Arv Z h qa2 qk1 .int (0 : Int32) [] (.int (0 : Int32))) (H6 : Exa Z h qa2 "[I") (H7 : Arv Z h qa3 qk2 .double (0 : Int32) [] (.double (0 : UInt64))) (H8 : Exa Z h qa3 "[D") :
    Con l Z (⟨"com/example/shared_weights/sharedweights/LinearExpression", "constant", "()D"⟩ : MethodName) prog_23_method_4_code 1 (some .double) ⟨0, 0, 0, 0⟩ #[(.ref qa1)] h (fun v h' L => v = some (.double qd1) ∧ L = [] ∧ h' = h) := by
  refine con_of_go kk_6 (fun m => kk_10 m qa1) ?_
  intro p e s m below meth c T0 C X0 e0
  refine g_aloadN C X0 (pc' := 1) d7_0 rfl rfl rfl ?_
  refine g_getF C X0 (host := "") (Or.inl (hw _ (List.mem_of_getElem? (i := 44) rfl))) Via.refl e0 H4 d7_1 rfl ?_
  intro T1 X1 e1
  exact g_dreturn C X1 d7_4 (⟨rfl, rfl, e1⟩) (by decide) (by decide)
theorem kk_11 : parseMethodDescriptor "()D" = some ⟨[], (some .double)⟩ := by decide +kernel
theorem d8_0 : decode prog_23_method_2_code 0 = .ok (.aload_n 0, 1) := by decide +kernel
theorem d8_1 : decode prog_23_method_2_code 1 = .ok (.getfield 7, 3) := by decide +kernel
theorem d8_4 : decode prog_23_method_2_code 4 = .ok (.invokevirtual 21, 3) := by decide +kernel
theorem d8_7 : decode prog_23_method_2_code 7 = .ok (.checkcast 22, 3) := by decide +kernel
theorem d8_10 : decode prog_23_method_2_code 10 = .ok (.areturn, 1) := by decide +kernel
theorem kk_12 (m : MethodId) (x0 : Addr) : entryFrame m #[(.ref x0)] 1 = mkF m 0 #[.val (.ref x0)] [] := by first | (simp [entryFrame, mkF, argsToLocals, Value.category]; done) | rfl
set_option maxRecDepth 65536 in
set_option maxHeartbeats 40000000 in
theorem k8_variables (l : Launch) (Z : State) (a0 : Array Value) (hw : ∀ d ∈ tables_1, d.before a0 Z = true) (h : Heap) (n0 : Nat) (Z0 : n0 ≤ h.size) (qa1 : Addr) (qa2 : Addr) (qa3 : Addr) (qd1 : UInt64) (qz1 : Int) (qk1 : ClassId) (qk2 : ClassId) (z_qa1 : n0 ≤ qa1) (z_qa2 : n0 ≤ qa2) (z_qa3 : n0 ≤ qa3) (ne_qa1_qa2 : qa1 ≠ qa2) (ne_qa1_qa3 : qa1 ≠ qa3) (ne_qa2_qa3 : qa2 ≠ qa3) (D_qd1 : FP.Core.DInt qz1 qd1) (B_qd1 : -6442450944 ≤ qz1 ∧ qz1 ≤ 6442450941) (H1 : Exa Z h qa1 "com/example/shared_weights/sharedweights/LinearExpression") (H2 : Fld Z h qa1 "com/example/shared_weights/sharedweights/LinearExpression" "variables" "[I" (.ref qa2)) (H3 : Fld Z h qa1 "com/example/shared_weights/sharedweights/LinearExpression" "coefficients" "[D" (.ref qa3)) (H4 : Fld Z h qa1 "com/example/shared_weights/sharedweights/LinearExpression" "constant" "D" (.double qd1)) (H5 : Arv Z h qa2 qk1 .int (0 : Int32) [] (.int (0 : Int32))) (H6 : Exa Z h qa2 "[I") (H7 : Arv Z h qa3 qk2 .double (0 : Int32) [] (.double (0 : UInt64))) (H8 : Exa Z h qa3 "[D") :
    Con l Z (⟨"com/example/shared_weights/sharedweights/LinearExpression", "variables", "()[I"⟩ : MethodName) prog_23_method_2_code 1 (some (.array .int)) ⟨1, 1, 0, 14⟩ #[(.ref qa1)] h (fun v h' L => ∃ (uf1 : Addr), v = some (.ref uf1) ∧ Fr n0 L ∧ Keep h h' [] ∧ h.size ≤ uf1 ∧ Arv Z h' uf1 qk1 .int (0 : Int32) [] (.int (0 : Int32)) ∧ Exa Z h' uf1 "[I") := by
  refine con_of_go kk_6 (fun m => kk_12 m qa1) ?_
  intro p e s m below meth c T0 C X0 e0
  refine g_aloadN C X0 (pc' := 1) d8_0 rfl rfl rfl ?_
  refine g_getF C X0 (host := "") (Or.inl (hw _ (List.mem_of_getElem? (i := 40) rfl))) Via.refl e0 H2 d8_1 rfl ?_
  intro T1 X1 e1
  refine g_clone C X1 (hw _ (List.mem_of_getElem? (i := 56) rfl)) (hw _ (List.mem_of_getElem? (i := 57) rfl)) (hw _ (List.mem_of_getElem? (i := 61) rfl)) (hw _ (List.mem_of_getElem? (i := 59) rfl)) (hw _ (List.mem_of_getElem? (i := 60) rfl)) (hw _ (List.mem_of_getElem? (i := 62) rfl)) e1 H5 H6 d8_4 rfl 0 rfl (by decide) (by decide) 0 (by decide) (by decide) (by decide) rfl ?_
  intro T2 h2 a2 g2 X2 e2 E2 A2 B2
  have ne_qa1_a2 : qa1 ≠ a2 := Nat.ne_of_lt (by rw [g2]; exact H1.lt)
  have ne_qa2_a2 : qa2 ≠ a2 := Nat.ne_of_lt (by rw [g2]; exact H5.lt)
  have ne_qa3_a2 : qa3 ≠ a2 := Nat.ne_of_lt (by rw [g2]; exact H7.lt)
  have z_a2 : n0 ≤ a2 := by rw [g2]; exact Z0
  have y_a2 : h.size ≤ a2 := by rw [g2]; exact (Keep.refl h []).1
  have H1 := H1.ext E2
  have H2 := H2.ext E2
  have H3 := H3.ext E2
  have H4 := H4.ext E2
  have H5 := H5.ext E2
  have H6 := H6.ext E2
  have H7 := H7.ext E2
  have H8 := H8.ext E2
  have P2 := (Keep.refl h []).ext E2
  have Z2 : n0 ≤ h2.size := Nat.le_trans Z0 E2.1
  refine g_cast C X2 (hw _ (List.mem_of_getElem? (i := 63) rfl)) e2 (Ins.of_exa B2 (hw _ (List.mem_of_getElem? (i := 64) rfl))) d8_7 rfl ?_
  intro T3 X3 e3
  exact g_areturn C X3 d8_10 rfl rfl rfl (⟨a2, rfl, (Fr.nil n0), by rw [e3]; exact P2, y_a2, by rw [e3]; exact A2, by rw [e3]; exact B2⟩) (by decide) (by decide)
theorem kk_13 : parseMethodDescriptor "()[I" = some ⟨[], (some (.array .int))⟩ := by decide +kernel
theorem d9_0 : decode prog_23_method_3_code 0 = .ok (.aload_n 0, 1) := by decide +kernel
theorem d9_1 : decode prog_23_method_3_code 1 = .ok (.getfield 13, 3) := by decide +kernel
theorem d9_4 : decode prog_23_method_3_code 4 = .ok (.invokevirtual 26, 3) := by decide +kernel
theorem d9_7 : decode prog_23_method_3_code 7 = .ok (.checkcast 27, 3) := by decide +kernel
theorem d9_10 : decode prog_23_method_3_code 10 = .ok (.areturn, 1) := by decide +kernel
theorem kk_14 (m : MethodId) (x0 : Addr) : entryFrame m #[(.ref x0)] 1 = mkF m 0 #[.val (.ref x0)] [] := by first | (simp [entryFrame, mkF, argsToLocals, Value.category]; done) | rfl
set_option maxRecDepth 65536 in
set_option maxHeartbeats 40000000 in
theorem k9_coefficients (l : Launch) (Z : State) (a0 : Array Value) (hw : ∀ d ∈ tables_1, d.before a0 Z = true) (h : Heap) (n0 : Nat) (Z0 : n0 ≤ h.size) (qa1 : Addr) (qa2 : Addr) (qa3 : Addr) (qd1 : UInt64) (qz1 : Int) (qk1 : ClassId) (qk2 : ClassId) (z_qa1 : n0 ≤ qa1) (z_qa2 : n0 ≤ qa2) (z_qa3 : n0 ≤ qa3) (ne_qa1_qa2 : qa1 ≠ qa2) (ne_qa1_qa3 : qa1 ≠ qa3) (ne_qa2_qa3 : qa2 ≠ qa3) (D_qd1 : FP.Core.DInt qz1 qd1) (B_qd1 : -6442450944 ≤ qz1 ∧ qz1 ≤ 6442450941) (H1 : Exa Z h qa1 "com/example/shared_weights/sharedweights/LinearExpression") (H2 : Fld Z h qa1 "com/example/shared_weights/sharedweights/LinearExpression" "variables" "[I" (.ref qa2)) (H3 : Fld Z h qa1 "com/example/shared_weights/sharedweights/LinearExpression" "coefficients" "[D" (.ref qa3)) (H4 : Fld Z h qa1 "com/example/shared_weights/sharedweights/LinearExpression" "constant" "D" (.double qd1)) (H5 : Arv Z h qa2 qk1 .int (0 : Int32) [] (.int (0 : Int32))) (H6 : Exa Z h qa2 "[I") (H7 : Arv Z h qa3 qk2 .double (0 : Int32) [] (.double (0 : UInt64))) (H8 : Exa Z h qa3 "[D") :
    Con l Z (⟨"com/example/shared_weights/sharedweights/LinearExpression", "coefficients", "()[D"⟩ : MethodName) prog_23_method_3_code 1 (some (.array .double)) ⟨1, 1, 0, 14⟩ #[(.ref qa1)] h (fun v h' L => ∃ (uf1 : Addr), v = some (.ref uf1) ∧ Fr n0 L ∧ Keep h h' [] ∧ h.size ≤ uf1 ∧ Arv Z h' uf1 qk2 .double (0 : Int32) [] (.double (0 : UInt64)) ∧ Exa Z h' uf1 "[D") := by
  refine con_of_go kk_6 (fun m => kk_14 m qa1) ?_
  intro p e s m below meth c T0 C X0 e0
  refine g_aloadN C X0 (pc' := 1) d9_0 rfl rfl rfl ?_
  refine g_getF C X0 (host := "") (Or.inl (hw _ (List.mem_of_getElem? (i := 42) rfl))) Via.refl e0 H3 d9_1 rfl ?_
  intro T1 X1 e1
  refine g_clone C X1 (hw _ (List.mem_of_getElem? (i := 70) rfl)) (hw _ (List.mem_of_getElem? (i := 71) rfl)) (hw _ (List.mem_of_getElem? (i := 61) rfl)) (hw _ (List.mem_of_getElem? (i := 59) rfl)) (hw _ (List.mem_of_getElem? (i := 72) rfl)) (hw _ (List.mem_of_getElem? (i := 73) rfl)) e1 H7 H8 d9_4 rfl 0 rfl (by decide) (by decide) 0 (by decide) (by decide) (by decide) rfl ?_
  intro T2 h2 a2 g2 X2 e2 E2 A2 B2
  have ne_qa1_a2 : qa1 ≠ a2 := Nat.ne_of_lt (by rw [g2]; exact H1.lt)
  have ne_qa2_a2 : qa2 ≠ a2 := Nat.ne_of_lt (by rw [g2]; exact H5.lt)
  have ne_qa3_a2 : qa3 ≠ a2 := Nat.ne_of_lt (by rw [g2]; exact H7.lt)
  have z_a2 : n0 ≤ a2 := by rw [g2]; exact Z0
  have y_a2 : h.size ≤ a2 := by rw [g2]; exact (Keep.refl h []).1
  have H1 := H1.ext E2
  have H2 := H2.ext E2
  have H3 := H3.ext E2
  have H4 := H4.ext E2
  have H5 := H5.ext E2
  have H6 := H6.ext E2
  have H7 := H7.ext E2
  have H8 := H8.ext E2
  have P2 := (Keep.refl h []).ext E2
  have Z2 : n0 ≤ h2.size := Nat.le_trans Z0 E2.1
  refine g_cast C X2 (hw _ (List.mem_of_getElem? (i := 74) rfl)) e2 (Ins.of_exa B2 (hw _ (List.mem_of_getElem? (i := 75) rfl))) d9_7 rfl ?_
  intro T3 X3 e3
  exact g_areturn C X3 d9_10 rfl rfl rfl (⟨a2, rfl, (Fr.nil n0), by rw [e3]; exact P2, y_a2, by rw [e3]; exact A2, by rw [e3]; exact B2⟩) (by decide) (by decide)
theorem kk_15 : parseMethodDescriptor "()[D" = some ⟨[], (some (.array .double))⟩ := by decide +kernel
theorem d10_0 : decode prog_24_method_2_code 0 = .ok (.aload_n 0, 1) := by decide +kernel
theorem d10_1 : decode prog_24_method_2_code 1 = .ok (.iload_n 1, 1) := by decide +kernel
theorem d10_2 : decode prog_24_method_2_code 2 = .ok (.invokevirtual 23, 3) := by decide +kernel
theorem d10_5 : decode prog_24_method_2_code 5 = .ok (.istore 4, 2) := by decide +kernel
theorem d10_7 : decode prog_24_method_2_code 7 = .ok (.iload 4, 2) := by decide +kernel
theorem d10_9 : decode prog_24_method_2_code 9 = .ok (.ifCond .lt 16, 3) := by decide +kernel
theorem d10_12 : decode prog_24_method_2_code 12 = .ok (.aload_n 0, 1) := by decide +kernel
theorem d10_13 : decode prog_24_method_2_code 13 = .ok (.getfield 19, 3) := by decide +kernel
theorem d10_16 : decode prog_24_method_2_code 16 = .ok (.iload 4, 2) := by decide +kernel
theorem d10_18 : decode prog_24_method_2_code 18 = .ok (.dup2, 1) := by decide +kernel
theorem d10_19 : decode prog_24_method_2_code 19 = .ok (.daload, 1) := by decide +kernel
theorem d10_20 : decode prog_24_method_2_code 20 = .ok (.dload_n 2, 1) := by decide +kernel
theorem d10_21 : decode prog_24_method_2_code 21 = .ok (.dadd, 1) := by decide +kernel
theorem d10_22 : decode prog_24_method_2_code 22 = .ok (.dastore, 1) := by decide +kernel
theorem d10_23 : decode prog_24_method_2_code 23 = .ok (.aload_n 0, 1) := by decide +kernel
theorem d10_24 : decode prog_24_method_2_code 24 = .ok (.areturn, 1) := by decide +kernel
theorem d10_25 : decode prog_24_method_2_code 25 = .ok (.aload_n 0, 1) := by decide +kernel
theorem d10_26 : decode prog_24_method_2_code 26 = .ok (.getfield 27, 3) := by decide +kernel
theorem d10_29 : decode prog_24_method_2_code 29 = .ok (.aload_n 0, 1) := by decide +kernel
theorem d10_30 : decode prog_24_method_2_code 30 = .ok (.getfield 13, 3) := by decide +kernel
theorem d10_33 : decode prog_24_method_2_code 33 = .ok (.arraylength, 1) := by decide +kernel
theorem d10_34 : decode prog_24_method_2_code 34 = .ok (.if_icmp .ne 37, 3) := by decide +kernel
theorem d10_37 : decode prog_24_method_2_code 37 = .ok (.aload_n 0, 1) := by decide +kernel
theorem d10_38 : decode prog_24_method_2_code 38 = .ok (.aload_n 0, 1) := by decide +kernel
theorem d10_39 : decode prog_24_method_2_code 39 = .ok (.getfield 13, 3) := by decide +kernel
theorem d10_42 : decode prog_24_method_2_code 42 = .ok (.iconst 2, 1) := by decide +kernel
theorem d10_43 : decode prog_24_method_2_code 43 = .ok (.aload_n 0, 1) := by decide +kernel
theorem d10_44 : decode prog_24_method_2_code 44 = .ok (.getfield 27, 3) := by decide +kernel
theorem d10_47 : decode prog_24_method_2_code 47 = .ok (.imul, 1) := by decide +kernel
theorem d10_48 : decode prog_24_method_2_code 48 = .ok (.invokestatic 31, 3) := by decide +kernel
theorem d10_51 : decode prog_24_method_2_code 51 = .ok (.putfield 13, 3) := by decide +kernel
theorem d10_54 : decode prog_24_method_2_code 54 = .ok (.aload_n 0, 1) := by decide +kernel
theorem d10_55 : decode prog_24_method_2_code 55 = .ok (.aload_n 0, 1) := by decide +kernel
theorem d10_56 : decode prog_24_method_2_code 56 = .ok (.getfield 19, 3) := by decide +kernel
theorem d10_59 : decode prog_24_method_2_code 59 = .ok (.iconst 2, 1) := by decide +kernel
theorem d10_60 : decode prog_24_method_2_code 60 = .ok (.aload_n 0, 1) := by decide +kernel
theorem d10_61 : decode prog_24_method_2_code 61 = .ok (.getfield 27, 3) := by decide +kernel
theorem d10_64 : decode prog_24_method_2_code 64 = .ok (.imul, 1) := by decide +kernel
theorem d10_65 : decode prog_24_method_2_code 65 = .ok (.invokestatic 37, 3) := by decide +kernel
theorem d10_68 : decode prog_24_method_2_code 68 = .ok (.putfield 19, 3) := by decide +kernel
theorem d10_71 : decode prog_24_method_2_code 71 = .ok (.aload_n 0, 1) := by decide +kernel
theorem d10_72 : decode prog_24_method_2_code 72 = .ok (.getfield 13, 3) := by decide +kernel
theorem d10_75 : decode prog_24_method_2_code 75 = .ok (.aload_n 0, 1) := by decide +kernel
theorem d10_76 : decode prog_24_method_2_code 76 = .ok (.getfield 27, 3) := by decide +kernel
theorem d10_79 : decode prog_24_method_2_code 79 = .ok (.iload_n 1, 1) := by decide +kernel
theorem d10_80 : decode prog_24_method_2_code 80 = .ok (.iastore, 1) := by decide +kernel
theorem d10_81 : decode prog_24_method_2_code 81 = .ok (.aload_n 0, 1) := by decide +kernel
theorem d10_82 : decode prog_24_method_2_code 82 = .ok (.getfield 19, 3) := by decide +kernel
theorem d10_85 : decode prog_24_method_2_code 85 = .ok (.aload_n 0, 1) := by decide +kernel
theorem d10_86 : decode prog_24_method_2_code 86 = .ok (.getfield 27, 3) := by decide +kernel
theorem d10_89 : decode prog_24_method_2_code 89 = .ok (.dload_n 2, 1) := by decide +kernel
theorem d10_90 : decode prog_24_method_2_code 90 = .ok (.dastore, 1) := by decide +kernel
theorem d10_91 : decode prog_24_method_2_code 91 = .ok (.aload_n 0, 1) := by decide +kernel
theorem d10_92 : decode prog_24_method_2_code 92 = .ok (.getfield 40, 3) := by decide +kernel
theorem d10_95 : decode prog_24_method_2_code 95 = .ok (.ifnull 27, 3) := by decide +kernel
theorem d10_98 : decode prog_24_method_2_code 98 = .ok (.aload_n 0, 1) := by decide +kernel
theorem d10_99 : decode prog_24_method_2_code 99 = .ok (.getfield 40, 3) := by decide +kernel
theorem d10_102 : decode prog_24_method_2_code 102 = .ok (.iload_n 1, 1) := by decide +kernel
theorem d10_103 : decode prog_24_method_2_code 103 = .ok (.invokestatic 44, 3) := by decide +kernel
theorem d10_106 : decode prog_24_method_2_code 106 = .ok (.aload_n 0, 1) := by decide +kernel
theorem d10_107 : decode prog_24_method_2_code 107 = .ok (.getfield 27, 3) := by decide +kernel
theorem d10_110 : decode prog_24_method_2_code 110 = .ok (.invokestatic 44, 3) := by decide +kernel
theorem d10_113 : decode prog_24_method_2_code 113 = .ok (.invokeinterface 50 3, 5) := by decide +kernel
theorem d10_118 : decode prog_24_method_2_code 118 = .ok (.pop, 1) := by decide +kernel
theorem d10_119 : decode prog_24_method_2_code 119 = .ok (.goto 66, 3) := by decide +kernel
theorem d10_122 : decode prog_24_method_2_code 122 = .ok (.aload_n 0, 1) := by decide +kernel
theorem d10_123 : decode prog_24_method_2_code 123 = .ok (.getfield 27, 3) := by decide +kernel
theorem d10_126 : decode prog_24_method_2_code 126 = .ok (.bipush 16, 2) := by decide +kernel
theorem d10_128 : decode prog_24_method_2_code 128 = .ok (.if_icmp .ne 57, 3) := by decide +kernel
theorem d10_131 : decode prog_24_method_2_code 131 = .ok (.aload_n 0, 1) := by decide +kernel
theorem d10_132 : decode prog_24_method_2_code 132 = .ok (.new 56, 3) := by decide +kernel
theorem d10_135 : decode prog_24_method_2_code 135 = .ok (.dup, 1) := by decide +kernel
theorem d10_136 : decode prog_24_method_2_code 136 = .ok (.invokespecial 58, 3) := by decide +kernel
theorem d10_139 : decode prog_24_method_2_code 139 = .ok (.putfield 40, 3) := by decide +kernel
theorem d10_142 : decode prog_24_method_2_code 142 = .ok (.iconst 0, 1) := by decide +kernel
theorem d10_143 : decode prog_24_method_2_code 143 = .ok (.istore 5, 2) := by decide +kernel
theorem d10_145 : decode prog_24_method_2_code 145 = .ok (.iload 5, 2) := by decide +kernel
theorem d10_147 : decode prog_24_method_2_code 147 = .ok (.aload_n 0, 1) := by decide +kernel
theorem d10_148 : decode prog_24_method_2_code 148 = .ok (.getfield 27, 3) := by decide +kernel
theorem d10_151 : decode prog_24_method_2_code 151 = .ok (.if_icmp .gt 34, 3) := by decide +kernel
theorem d10_154 : decode prog_24_method_2_code 154 = .ok (.aload_n 0, 1) := by decide +kernel
theorem d10_155 : decode prog_24_method_2_code 155 = .ok (.getfield 40, 3) := by decide +kernel
theorem d10_158 : decode prog_24_method_2_code 158 = .ok (.aload_n 0, 1) := by decide +kernel
theorem d10_159 : decode prog_24_method_2_code 159 = .ok (.getfield 13, 3) := by decide +kernel
theorem d10_162 : decode prog_24_method_2_code 162 = .ok (.iload 5, 2) := by decide +kernel
theorem d10_164 : decode prog_24_method_2_code 164 = .ok (.iaload, 1) := by decide +kernel
theorem d10_165 : decode prog_24_method_2_code 165 = .ok (.invokestatic 44, 3) := by decide +kernel
theorem d10_168 : decode prog_24_method_2_code 168 = .ok (.iload 5, 2) := by decide +kernel
theorem d10_170 : decode prog_24_method_2_code 170 = .ok (.invokestatic 44, 3) := by decide +kernel
theorem d10_173 : decode prog_24_method_2_code 173 = .ok (.invokeinterface 50 3, 5) := by decide +kernel
theorem d10_178 : decode prog_24_method_2_code 178 = .ok (.pop, 1) := by decide +kernel
theorem d10_179 : decode prog_24_method_2_code 179 = .ok (.iinc 5 1, 3) := by decide +kernel
theorem d10_182 : decode prog_24_method_2_code 182 = .ok (.goto (-37), 3) := by decide +kernel
theorem d10_185 : decode prog_24_method_2_code 185 = .ok (.aload_n 0, 1) := by decide +kernel
theorem d10_186 : decode prog_24_method_2_code 186 = .ok (.dup, 1) := by decide +kernel
theorem d10_187 : decode prog_24_method_2_code 187 = .ok (.getfield 27, 3) := by decide +kernel
theorem d10_190 : decode prog_24_method_2_code 190 = .ok (.iconst 1, 1) := by decide +kernel
theorem d10_191 : decode prog_24_method_2_code 191 = .ok (.iadd, 1) := by decide +kernel
theorem d10_192 : decode prog_24_method_2_code 192 = .ok (.putfield 27, 3) := by decide +kernel
theorem d10_195 : decode prog_24_method_2_code 195 = .ok (.aload_n 0, 1) := by decide +kernel
theorem d10_196 : decode prog_24_method_2_code 196 = .ok (.areturn, 1) := by decide +kernel
theorem d11_0 : decode prog_24_method_5_code 0 = .ok (.aload_n 0, 1) := by decide +kernel
theorem d11_1 : decode prog_24_method_5_code 1 = .ok (.getfield 40, 3) := by decide +kernel
theorem d11_4 : decode prog_24_method_5_code 4 = .ok (.ifnull 27, 3) := by decide +kernel
theorem d11_7 : decode prog_24_method_5_code 7 = .ok (.aload_n 0, 1) := by decide +kernel
theorem d11_8 : decode prog_24_method_5_code 8 = .ok (.getfield 40, 3) := by decide +kernel
theorem d11_11 : decode prog_24_method_5_code 11 = .ok (.iload_n 1, 1) := by decide +kernel
theorem d11_12 : decode prog_24_method_5_code 12 = .ok (.invokestatic 44, 3) := by decide +kernel
theorem d11_15 : decode prog_24_method_5_code 15 = .ok (.iconst (-1), 1) := by decide +kernel
theorem d11_16 : decode prog_24_method_5_code 16 = .ok (.invokestatic 44, 3) := by decide +kernel
theorem d11_19 : decode prog_24_method_5_code 19 = .ok (.invokeinterface 68 3, 5) := by decide +kernel
theorem d11_24 : decode prog_24_method_5_code 24 = .ok (.checkcast 45, 3) := by decide +kernel
theorem d11_27 : decode prog_24_method_5_code 27 = .ok (.invokevirtual 71, 3) := by decide +kernel
theorem d11_30 : decode prog_24_method_5_code 30 = .ok (.ireturn, 1) := by decide +kernel
theorem d11_31 : decode prog_24_method_5_code 31 = .ok (.iconst 0, 1) := by decide +kernel
theorem d11_32 : decode prog_24_method_5_code 32 = .ok (.istore_n 2, 1) := by decide +kernel
theorem d11_33 : decode prog_24_method_5_code 33 = .ok (.iload_n 2, 1) := by decide +kernel
theorem d11_34 : decode prog_24_method_5_code 34 = .ok (.aload_n 0, 1) := by decide +kernel
theorem d11_35 : decode prog_24_method_5_code 35 = .ok (.getfield 27, 3) := by decide +kernel
theorem d11_38 : decode prog_24_method_5_code 38 = .ok (.if_icmp .ge 21, 3) := by decide +kernel
theorem d11_41 : decode prog_24_method_5_code 41 = .ok (.aload_n 0, 1) := by decide +kernel
theorem d11_42 : decode prog_24_method_5_code 42 = .ok (.getfield 13, 3) := by decide +kernel
theorem d11_45 : decode prog_24_method_5_code 45 = .ok (.iload_n 2, 1) := by decide +kernel
theorem d11_46 : decode prog_24_method_5_code 46 = .ok (.iaload, 1) := by decide +kernel
theorem d11_47 : decode prog_24_method_5_code 47 = .ok (.iload_n 1, 1) := by decide +kernel
theorem d11_48 : decode prog_24_method_5_code 48 = .ok (.if_icmp .ne 5, 3) := by decide +kernel
theorem d11_51 : decode prog_24_method_5_code 51 = .ok (.iload_n 2, 1) := by decide +kernel
theorem d11_52 : decode prog_24_method_5_code 52 = .ok (.ireturn, 1) := by decide +kernel
theorem d11_53 : decode prog_24_method_5_code 53 = .ok (.iinc 2 1, 3) := by decide +kernel
theorem d11_56 : decode prog_24_method_5_code 56 = .ok (.goto (-23), 3) := by decide +kernel
theorem d11_59 : decode prog_24_method_5_code 59 = .ok (.iconst (-1), 1) := by decide +kernel
theorem d11_60 : decode prog_24_method_5_code 60 = .ok (.ireturn, 1) := by decide +kernel
theorem kk_16 (m : MethodId) (x0 : Addr) (x1 : Int32) : entryFrame m #[(.ref x0), (.int x1)] 3 = mkF m 0 #[.val (.ref x0), .val (.int x1), .unset] [] := by first | (simp [entryFrame, mkF, argsToLocals, Value.category]; done) | rfl
set_option maxRecDepth 65536 in
set_option maxHeartbeats 40000000 in
theorem k10_placeOf (l : Launch) (Z : State) (a0 : Array Value) (hw : ∀ d ∈ tables_1, d.before a0 Z = true) (h : Heap) (n0 : Nat) (Z0 : n0 ≤ h.size) (qa1 : Addr) (qi1 : Int32) (qa2 : Addr) (qa3 : Addr) (qd1 : UInt64) (qz1 : Int) (qi2 : Int32) (qk1 : ClassId) (qk2 : ClassId) (z_qa1 : n0 ≤ qa1) (z_qa2 : n0 ≤ qa2) (z_qa3 : n0 ≤ qa3) (ne_qa1_qa2 : qa1 ≠ qa2) (ne_qa1_qa3 : qa1 ≠ qa3) (ne_qa2_qa3 : qa2 ≠ qa3) (D_qd1 : FP.Core.DInt qz1 qd1) (B_qd1 : -2147483648 ≤ qz1 ∧ qz1 ≤ 2147483647) (B_qi2 : 1 ≤ qi2.toInt ∧ qi2.toInt ≤ 31) (H1 : Exa Z h qa1 "com/example/shared_weights/sharedweights/LinearExpression$Builder") (H2 : Fld Z h qa1 "com/example/shared_weights/sharedweights/LinearExpression$Builder" "targets" "[I" (.ref qa2)) (H3 : Fld Z h qa1 "com/example/shared_weights/sharedweights/LinearExpression$Builder" "sums" "[D" (.ref qa3)) (H4 : Fld Z h qa1 "com/example/shared_weights/sharedweights/LinearExpression$Builder" "constant" "D" (.double qd1)) (H5 : Fld Z h qa1 "com/example/shared_weights/sharedweights/LinearExpression$Builder" "count" "I" (.int (0 : Int32))) (H6 : Fld Z h qa1 "com/example/shared_weights/sharedweights/LinearExpression$Builder" "places" "Ljava/util/Map;" .null) (H7 : Arv Z h qa2 qk1 .int qi2 [] (.int (0 : Int32))) (H8 : Exa Z h qa2 "[I") (H9 : Arv Z h qa3 qk2 .double qi2 [] (.double (0 : UInt64))) (H10 : Exa Z h qa3 "[D") :
    Con l Z (⟨"com/example/shared_weights/sharedweights/LinearExpression$Builder", "placeOf", "(I)I"⟩ : MethodName) prog_24_method_5_code 3 (some .int) ⟨0, 0, 0, 0⟩ #[(.ref qa1), (.int qi1)] h (fun v h' L => v = some (.int (-1 : Int32)) ∧ L = [] ∧ h' = h) := by
  refine con_of_go kk_1 (fun m => kk_16 m qa1 qi1) ?_
  intro p e s m below meth c T0 C X0 e0
  refine g_aloadN C X0 (pc' := 1) d11_0 rfl rfl rfl ?_
  refine g_getF C X0 (host := "") (Or.inl (hw _ (List.mem_of_getElem? (i := 85) rfl))) Via.refl e0 H6 d11_1 rfl ?_
  intro T1 X1 e1
  refine g_ifnullY C X1 d11_4 (pc' := 31) (by decide) (by decide) ?_
  refine g_iconst C X1 (pc' := 32) d11_31 (v := (0 : Int32)) (by decide) rfl ?_
  refine g_istoreN C X1 (pc' := 33) d11_32 (x := (0 : Int32)) rfl (l' := #[.val (.ref qa1), .val (.int qi1), .val (.int (0 : Int32))]) rfl rfl ?_
  refine g_iloadN C X1 (pc' := 34) d11_33 rfl rfl ?_
  refine g_aloadN C X1 (pc' := 35) d11_34 rfl rfl rfl ?_
  refine g_getF C X1 (host := "") (Or.inl (hw _ (List.mem_of_getElem? (i := 31) rfl))) Via.refl e1 H5 d11_35 rfl ?_
  intro T2 X2 e2
  refine g_icmpY C X2 d11_38 (pc' := 59) (by decide) (by decide) (by decide) ?_
  refine g_iconst C X2 (pc' := 60) d11_59 (v := (-1 : Int32)) (by decide) rfl ?_
  exact g_ireturn C X2 d11_60 (⟨rfl, rfl, e2⟩) (by decide) (by decide)
theorem kk_17 : parseMethodDescriptor "(I)I" = some ⟨[.int], (some .int)⟩ := by decide +kernel
theorem kk_18 (m : MethodId) (x0 : Addr) (x1 : Int32) (x2 : UInt64) : entryFrame m #[(.ref x0), (.int x1), (.double x2)] 6 = mkF m 0 #[.val (.ref x0), .val (.int x1), .val (.double x2), .second, .unset, .unset] [] := by first | (simp [entryFrame, mkF, argsToLocals, Value.category]; done) | rfl
set_option maxRecDepth 65536 in
set_option maxHeartbeats 40000000 in
theorem k11_add (l : Launch) (Z : State) (a0 : Array Value) (hw : ∀ d ∈ tables_1, d.before a0 Z = true) (h : Heap) (n0 : Nat) (Z0 : n0 ≤ h.size) (qa1 : Addr) (qi1 : Int32) (qd1 : UInt64) (qz1 : Int) (qa2 : Addr) (qa3 : Addr) (qd2 : UInt64) (qz2 : Int) (qi2 : Int32) (qk1 : ClassId) (qk2 : ClassId) (z_qa1 : n0 ≤ qa1) (z_qa2 : n0 ≤ qa2) (z_qa3 : n0 ≤ qa3) (ne_qa1_qa2 : qa1 ≠ qa2) (ne_qa1_qa3 : qa1 ≠ qa3) (ne_qa2_qa3 : qa2 ≠ qa3) (D_qd1 : FP.Core.DInt qz1 qd1) (B_qd1 : -2147483648 ≤ qz1 ∧ qz1 ≤ 2147483647) (D_qd2 : FP.Core.DInt qz2 qd2) (B_qd2 : -2147483648 ≤ qz2 ∧ qz2 ≤ 2147483647) (B_qi2 : 1 ≤ qi2.toInt ∧ qi2.toInt ≤ 31) (H1 : Exa Z h qa1 "com/example/shared_weights/sharedweights/LinearExpression$Builder") (H2 : Fld Z h qa1 "com/example/shared_weights/sharedweights/LinearExpression$Builder" "targets" "[I" (.ref qa2)) (H3 : Fld Z h qa1 "com/example/shared_weights/sharedweights/LinearExpression$Builder" "sums" "[D" (.ref qa3)) (H4 : Fld Z h qa1 "com/example/shared_weights/sharedweights/LinearExpression$Builder" "constant" "D" (.double qd2)) (H5 : Fld Z h qa1 "com/example/shared_weights/sharedweights/LinearExpression$Builder" "count" "I" (.int (0 : Int32))) (H6 : Fld Z h qa1 "com/example/shared_weights/sharedweights/LinearExpression$Builder" "places" "Ljava/util/Map;" .null) (H7 : Arv Z h qa2 qk1 .int qi2 [] (.int (0 : Int32))) (H8 : Exa Z h qa2 "[I") (H9 : Arv Z h qa3 qk2 .double qi2 [] (.double (0 : UInt64))) (H10 : Exa Z h qa3 "[D") :
    Con l Z (⟨"com/example/shared_weights/sharedweights/LinearExpression$Builder", "add", "(ID)Lcom/example/shared_weights/sharedweights/LinearExpression$Builder;"⟩ : MethodName) prog_24_method_2_code 6 (some (.object "com/example/shared_weights/sharedweights/LinearExpression$Builder")) ⟨1, 0, 0, 14⟩ #[(.ref qa1), (.int qi1), (.double qd1)] h (fun v h' L => v = some (.ref qa1) ∧ Fr n0 L ∧ Keep h h' [qa1, qa2, qa3] ∧ Exa Z h' qa1 "com/example/shared_weights/sharedweights/LinearExpression$Builder" ∧ Fld Z h' qa1 "com/example/shared_weights/sharedweights/LinearExpression$Builder" "targets" "[I" (.ref qa2) ∧ Fld Z h' qa1 "com/example/shared_weights/sharedweights/LinearExpression$Builder" "sums" "[D" (.ref qa3) ∧ Fld Z h' qa1 "com/example/shared_weights/sharedweights/LinearExpression$Builder" "constant" "D" (.double qd2) ∧ Fld Z h' qa1 "com/example/shared_weights/sharedweights/LinearExpression$Builder" "count" "I" (.int ((0 : Int32) + (1 : Int32))) ∧ Fld Z h' qa1 "com/example/shared_weights/sharedweights/LinearExpression$Builder" "places" "Ljava/util/Map;" .null ∧ Arv Z h' qa2 qk1 .int qi2 [(.int qi1)] (.int (0 : Int32)) ∧ Exa Z h' qa2 "[I" ∧ Arv Z h' qa3 qk2 .double qi2 [(.double qd1)] (.double (0 : UInt64)) ∧ Exa Z h' qa3 "[D") := by
  refine con_of_go kk_1 (fun m => kk_18 m qa1 qi1 qd1) ?_
  intro p e s m below meth c T0 C X0 e0
  refine g_aloadN C X0 (pc' := 1) d10_0 rfl rfl rfl ?_
  refine g_iloadN C X0 (pc' := 2) d10_1 rfl rfl ?_
  refine g_callP C (y2 := ⟨"com/example/shared_weights/sharedweights/LinearExpression$Builder", "addConstant", "(D)Lcom/example/shared_weights/sharedweights/LinearExpression$Builder;"⟩) X0 (k10_placeOf l Z a0 hw h n0 Z0 qa1 qi1 qa2 qa3 qd2 qz2 qi2 qk1 qk2 z_qa1 z_qa2 z_qa3 ne_qa1_qa2 ne_qa1_qa3 ne_qa2_qa3 D_qd2 B_qd2 B_qi2 H1 H2 H3 H4 H5 H6 H7 H8 H9 H10) (hw _ (List.mem_of_getElem? (i := 81) rfl)) (hw _ (List.mem_of_getElem? (i := 83) rfl)) (hw _ (List.mem_of_getElem? (i := 22) rfl)) rfl (hw _ (List.mem_of_getElem? (i := 82) rfl)) (hw _ (List.mem_of_getElem? (i := 2) rfl)) (hw _ (List.mem_of_getElem? (i := 84) rfl)) (by decide) e0 H1 d10_2 rfl kk_17 [(.int qi1)] [] rfl rfl rfl 0 rfl (by decide) (by decide) (by decide) (by decide) rfl ?_
  rintro _ T1 _ X1 ⟨rfl, rfl, e1⟩
  rw [List.append_nil] at X1
  show Go p.tables e below _ T1 (mkF m 5 #[.val (.ref qa1), .val (.int qi1), .val (.double qd1), .second, .unset, .unset] [(.int (-1 : Int32))])
  refine g_istore C X1 (pc' := 7) d10_5 (x := (-1 : Int32)) rfl (l' := #[.val (.ref qa1), .val (.int qi1), .val (.double qd1), .second, .val (.int (-1 : Int32)), .unset]) rfl rfl ?_
  refine g_iload C X1 (pc' := 9) d10_7 rfl rfl ?_
  refine g_ifY C X1 d10_9 (pc' := 25) (by decide) (by decide) (by decide) ?_
  refine g_aloadN C X1 (pc' := 26) d10_25 rfl rfl rfl ?_
  refine g_getF C X1 (host := "") (Or.inl (hw _ (List.mem_of_getElem? (i := 31) rfl))) Via.refl e1 H5 d10_26 rfl ?_
  intro T2 X2 e2
  refine g_aloadN C X2 (pc' := 30) d10_29 rfl rfl rfl ?_
  refine g_getF C X2 (host := "") (Or.inl (hw _ (List.mem_of_getElem? (i := 14) rfl))) Via.refl e2 H2 d10_30 rfl ?_
  intro T3 X3 e3
  refine g_len C X3 (pc' := 34) e3 H7 d10_33 rfl ?_
  refine g_icmpY C X3 d10_34 (pc' := 71) (by decide) (by decide) (by have q0 : (0 : Int32).toInt = 0 := (by decide); have q1 := B_qi2; unfold cpI; omega) ?_
  refine g_aloadN C X3 (pc' := 72) d10_71 rfl rfl rfl ?_
  refine g_getF C X3 (host := "") (Or.inl (hw _ (List.mem_of_getElem? (i := 14) rfl))) Via.refl e3 H2 d10_72 rfl ?_
  intro T4 X4 e4
  refine g_aloadN C X4 (pc' := 76) d10_75 rfl rfl rfl ?_
  refine g_getF C X4 (host := "") (Or.inl (hw _ (List.mem_of_getElem? (i := 31) rfl))) Via.refl e4 H5 d10_76 rfl ?_
  intro T5 X5 e5
  refine g_iloadN C X5 (pc' := 80) d10_79 rfl rfl ?_
  refine g_iastore C X5 (pc' := 81) e5 H7 (by decide) (bn_in B_qi2 (by decide)) 0 1 (by decide) (of_decide_eq_true rfl) d10_80 rfl ?_
  intro T6 h6 X6 e6 W6 Aq
  have H1 := H1.wr W6
  have H2 := H2.other W6 (Or.inl ne_qa1_qa2)
  have H3 := H3.other W6 (Or.inl ne_qa1_qa2)
  have H4 := H4.other W6 (Or.inl ne_qa1_qa2)
  have H5 := H5.other W6 (Or.inl ne_qa1_qa2)
  have H6 := H6.other W6 (Or.inl ne_qa1_qa2)
  have H8 := H8.wr W6
  have H9 := H9.other W6 (Ne.symm ne_qa2_qa3)
  have H10 := H10.wr W6
  have Z6 : n0 ≤ h6.size := by rw [W6.size]; exact Z0
  have N6 := Fr.snoc X6 (Fr.nil n0) z_qa2
  have P6 := (Keep.refl h [qa1, qa2, qa3]).wr W6 (Or.inl (List.mem_of_getElem? (i := 1) rfl))
  have H7 : Arv Z h6 qa2 qk1 .int qi2 [(.int qi1)] (.int (0 : Int32)) := Aq
  refine g_aloadN C X6 (pc' := 82) d10_81 rfl rfl rfl ?_
  refine g_getF C X6 (host := "") (Or.inl (hw _ (List.mem_of_getElem? (i := 17) rfl))) Via.refl e6 H3 d10_82 rfl ?_
  intro T7 X7 e7
  refine g_aloadN C X7 (pc' := 86) d10_85 rfl rfl rfl ?_
  refine g_getF C X7 (host := "") (Or.inl (hw _ (List.mem_of_getElem? (i := 31) rfl))) Via.refl e7 H5 d10_86 rfl ?_
  intro T8 X8 e8
  refine g_dloadN C X8 (pc' := 90) d10_89 rfl rfl ?_
  refine g_dastore C X8 (pc' := 91) e8 H9 (by decide) (bn_in B_qi2 (by decide)) 0 1 (by decide) (of_decide_eq_true rfl) d10_90 rfl ?_
  intro T9 h9 X9 e9 W9 Aq
  have H1 := H1.wr W9
  have H2 := H2.other W9 (Or.inl ne_qa1_qa3)
  have H3 := H3.other W9 (Or.inl ne_qa1_qa3)
  have H4 := H4.other W9 (Or.inl ne_qa1_qa3)
  have H5 := H5.other W9 (Or.inl ne_qa1_qa3)
  have H6 := H6.other W9 (Or.inl ne_qa1_qa3)
  have H7 := H7.other W9 ne_qa2_qa3
  have H8 := H8.wr W9
  have H10 := H10.wr W9
  have Z9 : n0 ≤ h9.size := by rw [W9.size]; exact Z6
  have N9 := Fr.snoc X9 N6 z_qa3
  have P9 := P6.wr W9 (Or.inl (List.mem_of_getElem? (i := 2) rfl))
  have H9 : Arv Z h9 qa3 qk2 .double qi2 [(.double qd1)] (.double (0 : UInt64)) := Aq
  refine g_aloadN C X9 (pc' := 92) d10_91 rfl rfl rfl ?_
  refine g_getF C X9 (host := "") (Or.inl (hw _ (List.mem_of_getElem? (i := 85) rfl))) Via.refl e9 H6 d10_92 rfl ?_
  intro T10 X10 e10
  refine g_ifnullY C X10 d10_95 (pc' := 122) (by decide) (by decide) ?_
  refine g_aloadN C X10 (pc' := 123) d10_122 rfl rfl rfl ?_
  refine g_getF C X10 (host := "") (Or.inl (hw _ (List.mem_of_getElem? (i := 31) rfl))) Via.refl e10 H5 d10_123 rfl ?_
  intro T11 X11 e11
  refine g_bipush C X11 (pc' := 128) d10_126 (v := (16 : Int32)) (by decide) rfl ?_
  refine g_icmpY C X11 d10_128 (pc' := 185) (by decide) (by decide) (by decide) ?_
  refine g_aloadN C X11 (pc' := 186) d10_185 rfl rfl rfl ?_
  refine g_dup C X11 (pc' := 187) d10_186 rfl rfl ?_
  refine g_getF C X11 (host := "") (Or.inl (hw _ (List.mem_of_getElem? (i := 31) rfl))) Via.refl e11 H5 d10_187 rfl ?_
  intro T12 X12 e12
  refine g_iconst C X12 (pc' := 191) d10_190 (v := (1 : Int32)) (by decide) rfl ?_
  refine g_iadd C X12 (pc' := 192) d10_191 rfl ?_
  refine g_putF C X12 (host := "") (Or.inl (hw _ (List.mem_of_getElem? (i := 31) rfl))) Via.refl e12 H5 H1 (Or.inl (hw _ (List.mem_of_getElem? (i := 32) rfl))) (hw _ (List.mem_of_getElem? (i := 1) rfl)) (ty := .int) (by decide) rfl rfl d10_192 rfl ?_
  intro T13 h13 X13 e13 W13
  have H1 := H1.wr W13
  have H2 := H2.other W13 (Or.inr (slot_ne (Or.inl (hw _ (List.mem_of_getElem? (i := 15) rfl))) (Or.inl (hw _ (List.mem_of_getElem? (i := 32) rfl))) (by decide) rfl rfl))
  have H3 := H3.other W13 (Or.inr (slot_ne (Or.inl (hw _ (List.mem_of_getElem? (i := 18) rfl))) (Or.inl (hw _ (List.mem_of_getElem? (i := 32) rfl))) (by decide) rfl rfl))
  have H4 := H4.other W13 (Or.inr (slot_ne (Or.inl (hw _ (List.mem_of_getElem? (i := 25) rfl))) (Or.inl (hw _ (List.mem_of_getElem? (i := 32) rfl))) (by decide) rfl rfl))
  have H5 := H5.same W13
  have H6 := H6.other W13 (Or.inr (slot_ne (Or.inl (hw _ (List.mem_of_getElem? (i := 86) rfl))) (Or.inl (hw _ (List.mem_of_getElem? (i := 32) rfl))) (by decide) rfl rfl))
  have H7 := H7.other W13 (Ne.symm ne_qa1_qa2)
  have H8 := H8.wr W13
  have H9 := H9.other W13 (Ne.symm ne_qa1_qa3)
  have H10 := H10.wr W13
  have Z13 : n0 ≤ h13.size := by rw [W13.size]; exact Z9
  have N13 := Fr.snoc X13 N9 z_qa1
  have P13 := P9.wr W13 (Or.inl (List.mem_of_getElem? (i := 0) rfl))
  refine g_aloadN C X13 (pc' := 196) d10_195 rfl rfl rfl ?_
  exact g_areturn C X13 d10_196 rfl rfl rfl (⟨rfl, N13, by rw [e13]; exact P13, by rw [e13]; exact H1, by rw [e13]; exact H2, by rw [e13]; exact H3, by rw [e13]; exact H4, by rw [e13]; exact H5, by rw [e13]; exact H6, by rw [e13]; exact H7, by rw [e13]; exact H8, by rw [e13]; exact H9, by rw [e13]; exact H10⟩) (by decide) (by decide)
theorem kk_19 : parseMethodDescriptor "(ID)Lcom/example/shared_weights/sharedweights/LinearExpression$Builder;" = some ⟨[.int, .double], (some (.object "com/example/shared_weights/sharedweights/LinearExpression$Builder"))⟩ := by decide +kernel
set_option maxRecDepth 65536 in
set_option maxHeartbeats 40000000 in
theorem k12_addConstant (l : Launch) (Z : State) (a0 : Array Value) (hw : ∀ d ∈ tables_1, d.before a0 Z = true) (h : Heap) (n0 : Nat) (Z0 : n0 ≤ h.size) (qa1 : Addr) (qd1 : UInt64) (qz1 : Int) (qa2 : Addr) (qa3 : Addr) (qd2 : UInt64) (qz2 : Int) (qi1 : Int32) (qi2 : Int32) (qk1 : ClassId) (qd3 : UInt64) (qz3 : Int) (qk2 : ClassId) (z_qa1 : n0 ≤ qa1) (z_qa2 : n0 ≤ qa2) (z_qa3 : n0 ≤ qa3) (ne_qa1_qa2 : qa1 ≠ qa2) (ne_qa1_qa3 : qa1 ≠ qa3) (ne_qa2_qa3 : qa2 ≠ qa3) (D_qd1 : FP.Core.DInt qz1 qd1) (B_qd1 : -2147483648 ≤ qz1 ∧ qz1 ≤ 2147483647) (D_qd2 : FP.Core.DInt qz2 qd2) (B_qd2 : -2147483648 ≤ qz2 ∧ qz2 ≤ 2147483647) (B_qi1 : 1 ≤ qi1.toInt ∧ qi1.toInt ≤ 31) (D_qd3 : FP.Core.DInt qz3 qd3) (B_qd3 : -2147483648 ≤ qz3 ∧ qz3 ≤ 2147483647) (H1 : Exa Z h qa1 "com/example/shared_weights/sharedweights/LinearExpression$Builder") (H2 : Fld Z h qa1 "com/example/shared_weights/sharedweights/LinearExpression$Builder" "targets" "[I" (.ref qa2)) (H3 : Fld Z h qa1 "com/example/shared_weights/sharedweights/LinearExpression$Builder" "sums" "[D" (.ref qa3)) (H4 : Fld Z h qa1 "com/example/shared_weights/sharedweights/LinearExpression$Builder" "constant" "D" (.double qd2)) (H5 : Fld Z h qa1 "com/example/shared_weights/sharedweights/LinearExpression$Builder" "count" "I" (.int (1 : Int32))) (H6 : Fld Z h qa1 "com/example/shared_weights/sharedweights/LinearExpression$Builder" "places" "Ljava/util/Map;" .null) (H7 : Arv Z h qa2 qk1 .int qi1 [(.int qi2)] (.int (0 : Int32))) (H8 : Exa Z h qa2 "[I") (H9 : Arv Z h qa3 qk2 .double qi1 [(.double qd3)] (.double (0 : UInt64))) (H10 : Exa Z h qa3 "[D") :
    Con l Z (⟨"com/example/shared_weights/sharedweights/LinearExpression$Builder", "addConstant", "(D)Lcom/example/shared_weights/sharedweights/LinearExpression$Builder;"⟩ : MethodName) prog_24_method_3_code 3 (some (.object "com/example/shared_weights/sharedweights/LinearExpression$Builder")) ⟨0, 0, 0, 0⟩ #[(.ref qa1), (.double qd1)] h (fun v h' L => ∃ (uv1 : UInt64), v = some (.ref qa1) ∧ Fr n0 L ∧ Keep h h' [qa1] ∧ FP.Core.DInt (qz2 + qz1) uv1 ∧ (-4294967296 ≤ (qz2 + qz1) ∧ (qz2 + qz1) ≤ 4294967294) ∧ Exa Z h' qa1 "com/example/shared_weights/sharedweights/LinearExpression$Builder" ∧ Fld Z h' qa1 "com/example/shared_weights/sharedweights/LinearExpression$Builder" "targets" "[I" (.ref qa2) ∧ Fld Z h' qa1 "com/example/shared_weights/sharedweights/LinearExpression$Builder" "sums" "[D" (.ref qa3) ∧ Fld Z h' qa1 "com/example/shared_weights/sharedweights/LinearExpression$Builder" "constant" "D" (.double uv1) ∧ Fld Z h' qa1 "com/example/shared_weights/sharedweights/LinearExpression$Builder" "count" "I" (.int (1 : Int32)) ∧ Fld Z h' qa1 "com/example/shared_weights/sharedweights/LinearExpression$Builder" "places" "Ljava/util/Map;" .null) := by
  refine con_of_go kk_1 (fun m => kk_3 m qa1 qd1) ?_
  intro p e s m below meth c T0 C X0 e0
  refine g_aloadN C X0 (pc' := 1) d4_0 rfl rfl rfl ?_
  refine g_dup C X0 (pc' := 2) d4_1 rfl rfl ?_
  refine g_getF C X0 (host := "") (Or.inl (hw _ (List.mem_of_getElem? (i := 24) rfl))) Via.refl e0 H4 d4_2 rfl ?_
  intro T1 X1 e1
  refine g_dloadN C X1 (pc' := 6) d4_5 rfl rfl ?_
  have Bq1 : -4294967296 ≤ qz2 + qz1 ∧ qz2 + qz1 ≤ 4294967294 := by have q0 := B_qd2; have q1 := B_qd1; omega
  have D2 : FP.Core.DInt (qz2 + qz1) (FP.dadd qd2 qd1) := dadd_D D_qd2 D_qd1 (by have q0 := B_qd2; have q1 := B_qd1; show _ ≤ 9007199254740992; omega)
  refine g_dadd C X1 (pc' := 7) d4_6 (nn_of_int D2) rfl ?_
  refine g_putF C X1 (host := "") (Or.inl (hw _ (List.mem_of_getElem? (i := 24) rfl))) Via.refl e1 H4 H1 (Or.inl (hw _ (List.mem_of_getElem? (i := 25) rfl))) (hw _ (List.mem_of_getElem? (i := 1) rfl)) (ty := .double) (by decide) rfl rfl d4_7 rfl ?_
  intro T2 h2 X2 e2 W2
  have H1 := H1.wr W2
  have H2 := H2.other W2 (Or.inr (slot_ne (Or.inl (hw _ (List.mem_of_getElem? (i := 15) rfl))) (Or.inl (hw _ (List.mem_of_getElem? (i := 25) rfl))) (by decide) rfl rfl))
  have H3 := H3.other W2 (Or.inr (slot_ne (Or.inl (hw _ (List.mem_of_getElem? (i := 18) rfl))) (Or.inl (hw _ (List.mem_of_getElem? (i := 25) rfl))) (by decide) rfl rfl))
  have H4 := H4.same W2
  have H5 := H5.other W2 (Or.inr (slot_ne (Or.inl (hw _ (List.mem_of_getElem? (i := 32) rfl))) (Or.inl (hw _ (List.mem_of_getElem? (i := 25) rfl))) (by decide) rfl rfl))
  have H6 := H6.other W2 (Or.inr (slot_ne (Or.inl (hw _ (List.mem_of_getElem? (i := 86) rfl))) (Or.inl (hw _ (List.mem_of_getElem? (i := 25) rfl))) (by decide) rfl rfl))
  have H7 := H7.other W2 (Ne.symm ne_qa1_qa2)
  have H8 := H8.wr W2
  have H9 := H9.other W2 (Ne.symm ne_qa1_qa3)
  have H10 := H10.wr W2
  have Z2 : n0 ≤ h2.size := by rw [W2.size]; exact Z0
  have N2 := Fr.snoc X2 (Fr.nil n0) z_qa1
  have P2 := (Keep.refl h [qa1]).wr W2 (Or.inl (List.mem_of_getElem? (i := 0) rfl))
  refine g_aloadN C X2 (pc' := 11) d4_10 rfl rfl rfl ?_
  exact g_areturn C X2 d4_11 rfl rfl rfl (⟨FP.dadd qd2 qd1, rfl, N2, by rw [e2]; exact P2, D2, Bq1, by rw [e2]; exact H1, by rw [e2]; exact H2, by rw [e2]; exact H3, by rw [e2]; exact H4, by rw [e2]; exact H5, by rw [e2]; exact H6⟩) (by decide) (by decide)
set_option maxRecDepth 65536 in
set_option maxHeartbeats 40000000 in
theorem k13_addConstant (l : Launch) (Z : State) (a0 : Array Value) (hw : ∀ d ∈ tables_1, d.before a0 Z = true) (h : Heap) (n0 : Nat) (Z0 : n0 ≤ h.size) (qa1 : Addr) (qd1 : UInt64) (qz1 : Int) (qa2 : Addr) (qa3 : Addr) (qd2 : UInt64) (qz2 : Int) (qi1 : Int32) (qi2 : Int32) (qk1 : ClassId) (qd3 : UInt64) (qz3 : Int) (qk2 : ClassId) (z_qa1 : n0 ≤ qa1) (z_qa2 : n0 ≤ qa2) (z_qa3 : n0 ≤ qa3) (ne_qa1_qa2 : qa1 ≠ qa2) (ne_qa1_qa3 : qa1 ≠ qa3) (ne_qa2_qa3 : qa2 ≠ qa3) (D_qd1 : FP.Core.DInt qz1 qd1) (B_qd1 : -2147483648 ≤ qz1 ∧ qz1 ≤ 2147483647) (D_qd2 : FP.Core.DInt qz2 qd2) (B_qd2 : -4294967296 ≤ qz2 ∧ qz2 ≤ 4294967294) (B_qi1 : 1 ≤ qi1.toInt ∧ qi1.toInt ≤ 31) (D_qd3 : FP.Core.DInt qz3 qd3) (B_qd3 : -2147483648 ≤ qz3 ∧ qz3 ≤ 2147483647) (H1 : Exa Z h qa1 "com/example/shared_weights/sharedweights/LinearExpression$Builder") (H2 : Fld Z h qa1 "com/example/shared_weights/sharedweights/LinearExpression$Builder" "targets" "[I" (.ref qa2)) (H3 : Fld Z h qa1 "com/example/shared_weights/sharedweights/LinearExpression$Builder" "sums" "[D" (.ref qa3)) (H4 : Fld Z h qa1 "com/example/shared_weights/sharedweights/LinearExpression$Builder" "constant" "D" (.double qd2)) (H5 : Fld Z h qa1 "com/example/shared_weights/sharedweights/LinearExpression$Builder" "count" "I" (.int (1 : Int32))) (H6 : Fld Z h qa1 "com/example/shared_weights/sharedweights/LinearExpression$Builder" "places" "Ljava/util/Map;" .null) (H7 : Arv Z h qa2 qk1 .int qi1 [(.int qi2)] (.int (0 : Int32))) (H8 : Exa Z h qa2 "[I") (H9 : Arv Z h qa3 qk2 .double qi1 [(.double qd3)] (.double (0 : UInt64))) (H10 : Exa Z h qa3 "[D") :
    Con l Z (⟨"com/example/shared_weights/sharedweights/LinearExpression$Builder", "addConstant", "(D)Lcom/example/shared_weights/sharedweights/LinearExpression$Builder;"⟩ : MethodName) prog_24_method_3_code 3 (some (.object "com/example/shared_weights/sharedweights/LinearExpression$Builder")) ⟨0, 0, 0, 0⟩ #[(.ref qa1), (.double qd1)] h (fun v h' L => ∃ (uv1 : UInt64), v = some (.ref qa1) ∧ Fr n0 L ∧ Keep h h' [qa1] ∧ FP.Core.DInt (qz2 + qz1) uv1 ∧ (-6442450944 ≤ (qz2 + qz1) ∧ (qz2 + qz1) ≤ 6442450941) ∧ Exa Z h' qa1 "com/example/shared_weights/sharedweights/LinearExpression$Builder" ∧ Fld Z h' qa1 "com/example/shared_weights/sharedweights/LinearExpression$Builder" "targets" "[I" (.ref qa2) ∧ Fld Z h' qa1 "com/example/shared_weights/sharedweights/LinearExpression$Builder" "sums" "[D" (.ref qa3) ∧ Fld Z h' qa1 "com/example/shared_weights/sharedweights/LinearExpression$Builder" "constant" "D" (.double uv1) ∧ Fld Z h' qa1 "com/example/shared_weights/sharedweights/LinearExpression$Builder" "count" "I" (.int (1 : Int32)) ∧ Fld Z h' qa1 "com/example/shared_weights/sharedweights/LinearExpression$Builder" "places" "Ljava/util/Map;" .null) := by
  refine con_of_go kk_1 (fun m => kk_3 m qa1 qd1) ?_
  intro p e s m below meth c T0 C X0 e0
  refine g_aloadN C X0 (pc' := 1) d4_0 rfl rfl rfl ?_
  refine g_dup C X0 (pc' := 2) d4_1 rfl rfl ?_
  refine g_getF C X0 (host := "") (Or.inl (hw _ (List.mem_of_getElem? (i := 24) rfl))) Via.refl e0 H4 d4_2 rfl ?_
  intro T1 X1 e1
  refine g_dloadN C X1 (pc' := 6) d4_5 rfl rfl ?_
  have Bq1 : -6442450944 ≤ qz2 + qz1 ∧ qz2 + qz1 ≤ 6442450941 := by have q0 := B_qd2; have q1 := B_qd1; omega
  have D2 : FP.Core.DInt (qz2 + qz1) (FP.dadd qd2 qd1) := dadd_D D_qd2 D_qd1 (by have q0 := B_qd2; have q1 := B_qd1; show _ ≤ 9007199254740992; omega)
  refine g_dadd C X1 (pc' := 7) d4_6 (nn_of_int D2) rfl ?_
  refine g_putF C X1 (host := "") (Or.inl (hw _ (List.mem_of_getElem? (i := 24) rfl))) Via.refl e1 H4 H1 (Or.inl (hw _ (List.mem_of_getElem? (i := 25) rfl))) (hw _ (List.mem_of_getElem? (i := 1) rfl)) (ty := .double) (by decide) rfl rfl d4_7 rfl ?_
  intro T2 h2 X2 e2 W2
  have H1 := H1.wr W2
  have H2 := H2.other W2 (Or.inr (slot_ne (Or.inl (hw _ (List.mem_of_getElem? (i := 15) rfl))) (Or.inl (hw _ (List.mem_of_getElem? (i := 25) rfl))) (by decide) rfl rfl))
  have H3 := H3.other W2 (Or.inr (slot_ne (Or.inl (hw _ (List.mem_of_getElem? (i := 18) rfl))) (Or.inl (hw _ (List.mem_of_getElem? (i := 25) rfl))) (by decide) rfl rfl))
  have H4 := H4.same W2
  have H5 := H5.other W2 (Or.inr (slot_ne (Or.inl (hw _ (List.mem_of_getElem? (i := 32) rfl))) (Or.inl (hw _ (List.mem_of_getElem? (i := 25) rfl))) (by decide) rfl rfl))
  have H6 := H6.other W2 (Or.inr (slot_ne (Or.inl (hw _ (List.mem_of_getElem? (i := 86) rfl))) (Or.inl (hw _ (List.mem_of_getElem? (i := 25) rfl))) (by decide) rfl rfl))
  have H7 := H7.other W2 (Ne.symm ne_qa1_qa2)
  have H8 := H8.wr W2
  have H9 := H9.other W2 (Ne.symm ne_qa1_qa3)
  have H10 := H10.wr W2
  have Z2 : n0 ≤ h2.size := by rw [W2.size]; exact Z0
  have N2 := Fr.snoc X2 (Fr.nil n0) z_qa1
  have P2 := (Keep.refl h [qa1]).wr W2 (Or.inl (List.mem_of_getElem? (i := 0) rfl))
  refine g_aloadN C X2 (pc' := 11) d4_10 rfl rfl rfl ?_
  exact g_areturn C X2 d4_11 rfl rfl rfl (⟨FP.dadd qd2 qd1, rfl, N2, by rw [e2]; exact P2, D2, Bq1, by rw [e2]; exact H1, by rw [e2]; exact H2, by rw [e2]; exact H3, by rw [e2]; exact H4, by rw [e2]; exact H5, by rw [e2]; exact H6⟩) (by decide) (by decide)
theorem kk_20 : FP.dconst0 = (0 : UInt64) := by decide +kernel
set_option maxRecDepth 65536 in
set_option maxHeartbeats 40000000 in
theorem k14_init (l : Launch) (Z : State) (a0 : Array Value) (hw : ∀ d ∈ tables_1, d.before a0 Z = true) (h : Heap) (n0 : Nat) (Z0 : n0 ≤ h.size) (qa1 : Addr) (qa2 : Addr) (qa3 : Addr) (qd1 : UInt64) (qz1 : Int) (qi1 : Int32) (qk1 : ClassId) (qd2 : UInt64) (qz2 : Int) (qk2 : ClassId) (z_qa1 : n0 ≤ qa1) (z_qa2 : n0 ≤ qa2) (z_qa3 : n0 ≤ qa3) (ne_qa1_qa2 : qa1 ≠ qa2) (ne_qa1_qa3 : qa1 ≠ qa3) (ne_qa2_qa3 : qa2 ≠ qa3) (D_qd1 : FP.Core.DInt qz1 qd1) (B_qd1 : -6442450944 ≤ qz1 ∧ qz1 ≤ 6442450941) (D_qd2 : FP.Core.DInt qz2 qd2) (B_qd2 : -2147483648 ≤ qz2 ∧ qz2 ≤ 2147483647) (H1 : Exa Z h qa1 "com/example/shared_weights/sharedweights/LinearExpression") (H2 : Fld Z h qa1 "com/example/shared_weights/sharedweights/LinearExpression" "variables" "[I" .null) (H3 : Fld Z h qa1 "com/example/shared_weights/sharedweights/LinearExpression" "coefficients" "[D" .null) (H4 : Fld Z h qa1 "com/example/shared_weights/sharedweights/LinearExpression" "constant" "D" (.double (0 : UInt64))) (H5 : Arv Z h qa2 qk1 .int (1 : Int32) [(.int qi1)] (.int (0 : Int32))) (H6 : Exa Z h qa2 "[I") (H7 : Arv Z h qa3 qk2 .double (1 : Int32) [(.double qd2)] (.double (0 : UInt64))) (H8 : Exa Z h qa3 "[D") :
    Con l Z (⟨"com/example/shared_weights/sharedweights/LinearExpression", "<init>", "([I[DD)V"⟩ : MethodName) prog_23_method_1_code 5 none ⟨1, 0, 0, 12⟩ #[(.ref qa1), (.ref qa2), (.ref qa3), (.double qd1)] h (fun v h' L => v = none ∧ Fr n0 L ∧ Keep h h' [qa1] ∧ Exa Z h' qa1 "com/example/shared_weights/sharedweights/LinearExpression" ∧ Fld Z h' qa1 "com/example/shared_weights/sharedweights/LinearExpression" "variables" "[I" (.ref qa2) ∧ Fld Z h' qa1 "com/example/shared_weights/sharedweights/LinearExpression" "coefficients" "[D" (.ref qa3) ∧ Fld Z h' qa1 "com/example/shared_weights/sharedweights/LinearExpression" "constant" "D" (.double qd1)) := by
  refine con_of_go kk_6 (fun m => kk_5 m qa1 qa2 qa3 qd1) ?_
  intro p e s m below meth c T0 C X0 e0
  refine g_aloadN C X0 (pc' := 1) d6_0 rfl rfl rfl ?_
  refine g_initO C X0 (hw _ (List.mem_of_getElem? (i := 39) rfl)) (hw _ (List.mem_of_getElem? (i := 7) rfl)) (hw _ (List.mem_of_getElem? (i := 8) rfl)) e0 d6_1 rfl 0 rfl (by decide) (by decide) rfl ?_
  intro T1 X1 e1
  refine g_aloadN C X1 (pc' := 5) d6_4 rfl rfl rfl ?_
  refine g_aloadN C X1 (pc' := 6) d6_5 rfl rfl rfl ?_
  refine g_putF C X1 (host := "") (Or.inl (hw _ (List.mem_of_getElem? (i := 40) rfl))) Via.refl e1 H2 H1 (Or.inr ⟨(hw _ (List.mem_of_getElem? (i := 41) rfl)), rfl, rfl⟩) (hw _ (List.mem_of_getElem? (i := 34) rfl)) (ty := (.array .int)) (by decide) rfl rfl d6_6 rfl ?_
  intro T2 h2 X2 e2 W2
  have H1 := H1.wr W2
  have H2 := H2.same W2
  have H3 := H3.other W2 (Or.inr (slot_ne (Or.inr (hw _ (List.mem_of_getElem? (i := 43) rfl))) (Or.inr (hw _ (List.mem_of_getElem? (i := 41) rfl))) (by decide) rfl rfl))
  have H4 := H4.other W2 (Or.inr (slot_ne (Or.inr (hw _ (List.mem_of_getElem? (i := 45) rfl))) (Or.inr (hw _ (List.mem_of_getElem? (i := 41) rfl))) (by decide) rfl rfl))
  have H5 := H5.other W2 (Ne.symm ne_qa1_qa2)
  have H6 := H6.wr W2
  have H7 := H7.other W2 (Ne.symm ne_qa1_qa3)
  have H8 := H8.wr W2
  have Z2 : n0 ≤ h2.size := by rw [W2.size]; exact Z0
  have N2 := Fr.snoc X2 (Fr.nil n0) z_qa1
  have P2 := (Keep.refl h [qa1]).wr W2 (Or.inl (List.mem_of_getElem? (i := 0) rfl))
  refine g_aloadN C X2 (pc' := 10) d6_9 rfl rfl rfl ?_
  refine g_aloadN C X2 (pc' := 11) d6_10 rfl rfl rfl ?_
  refine g_putF C X2 (host := "") (Or.inl (hw _ (List.mem_of_getElem? (i := 42) rfl))) Via.refl e2 H3 H1 (Or.inr ⟨(hw _ (List.mem_of_getElem? (i := 43) rfl)), rfl, rfl⟩) (hw _ (List.mem_of_getElem? (i := 34) rfl)) (ty := (.array .double)) (by decide) rfl rfl d6_11 rfl ?_
  intro T3 h3 X3 e3 W3
  have H1 := H1.wr W3
  have H2 := H2.other W3 (Or.inr (slot_ne (Or.inr (hw _ (List.mem_of_getElem? (i := 41) rfl))) (Or.inr (hw _ (List.mem_of_getElem? (i := 43) rfl))) (by decide) rfl rfl))
  have H3 := H3.same W3
  have H4 := H4.other W3 (Or.inr (slot_ne (Or.inr (hw _ (List.mem_of_getElem? (i := 45) rfl))) (Or.inr (hw _ (List.mem_of_getElem? (i := 43) rfl))) (by decide) rfl rfl))
  have H5 := H5.other W3 (Ne.symm ne_qa1_qa2)
  have H6 := H6.wr W3
  have H7 := H7.other W3 (Ne.symm ne_qa1_qa3)
  have H8 := H8.wr W3
  have Z3 : n0 ≤ h3.size := by rw [W3.size]; exact Z2
  have N3 := Fr.snoc X3 N2 z_qa1
  have P3 := P2.wr W3 (Or.inl (List.mem_of_getElem? (i := 0) rfl))
  refine g_aloadN C X3 (pc' := 15) d6_14 rfl rfl rfl ?_
  refine g_dloadN C X3 (pc' := 16) d6_15 rfl rfl ?_
  refine g_putF C X3 (host := "") (Or.inl (hw _ (List.mem_of_getElem? (i := 44) rfl))) Via.refl e3 H4 H1 (Or.inr ⟨(hw _ (List.mem_of_getElem? (i := 45) rfl)), rfl, rfl⟩) (hw _ (List.mem_of_getElem? (i := 34) rfl)) (ty := .double) (by decide) rfl rfl d6_16 rfl ?_
  intro T4 h4 X4 e4 W4
  have H1 := H1.wr W4
  have H2 := H2.other W4 (Or.inr (slot_ne (Or.inr (hw _ (List.mem_of_getElem? (i := 41) rfl))) (Or.inr (hw _ (List.mem_of_getElem? (i := 45) rfl))) (by decide) rfl rfl))
  have H3 := H3.other W4 (Or.inr (slot_ne (Or.inr (hw _ (List.mem_of_getElem? (i := 43) rfl))) (Or.inr (hw _ (List.mem_of_getElem? (i := 45) rfl))) (by decide) rfl rfl))
  have H4 := H4.same W4
  have H5 := H5.other W4 (Ne.symm ne_qa1_qa2)
  have H6 := H6.wr W4
  have H7 := H7.other W4 (Ne.symm ne_qa1_qa3)
  have H8 := H8.wr W4
  have Z4 : n0 ≤ h4.size := by rw [W4.size]; exact Z3
  have N4 := Fr.snoc X4 N3 z_qa1
  have P4 := P3.wr W4 (Or.inl (List.mem_of_getElem? (i := 0) rfl))
  exact g_return C X4 d6_19 (⟨rfl, N4, by rw [e4]; exact P4, by rw [e4]; exact H1, by rw [e4]; exact H2, by rw [e4]; exact H3, by rw [e4]; exact H4⟩) (by decide) (by decide)
set_option maxRecDepth 65536 in
set_option maxHeartbeats 40000000 in
theorem k15_build (l : Launch) (Z : State) (a0 : Array Value) (hw : ∀ d ∈ tables_1, d.before a0 Z = true) (h : Heap) (n0 : Nat) (Z0 : n0 ≤ h.size) (qa1 : Addr) (qa2 : Addr) (qa3 : Addr) (qd1 : UInt64) (qz1 : Int) (qi1 : Int32) (qi2 : Int32) (qk1 : ClassId) (qd2 : UInt64) (qz2 : Int) (qk2 : ClassId) (z_qa1 : n0 ≤ qa1) (z_qa2 : n0 ≤ qa2) (z_qa3 : n0 ≤ qa3) (ne_qa1_qa2 : qa1 ≠ qa2) (ne_qa1_qa3 : qa1 ≠ qa3) (ne_qa2_qa3 : qa2 ≠ qa3) (D_qd1 : FP.Core.DInt qz1 qd1) (B_qd1 : -6442450944 ≤ qz1 ∧ qz1 ≤ 6442450941) (B_qi1 : 1 ≤ qi1.toInt ∧ qi1.toInt ≤ 31) (D_qd2 : FP.Core.DInt qz2 qd2) (B_qd2 : -2147483648 ≤ qz2 ∧ qz2 ≤ 2147483647) (H1 : Exa Z h qa1 "com/example/shared_weights/sharedweights/LinearExpression$Builder") (H2 : Fld Z h qa1 "com/example/shared_weights/sharedweights/LinearExpression$Builder" "targets" "[I" (.ref qa2)) (H3 : Fld Z h qa1 "com/example/shared_weights/sharedweights/LinearExpression$Builder" "sums" "[D" (.ref qa3)) (H4 : Fld Z h qa1 "com/example/shared_weights/sharedweights/LinearExpression$Builder" "constant" "D" (.double qd1)) (H5 : Fld Z h qa1 "com/example/shared_weights/sharedweights/LinearExpression$Builder" "count" "I" (.int (1 : Int32))) (H6 : Fld Z h qa1 "com/example/shared_weights/sharedweights/LinearExpression$Builder" "places" "Ljava/util/Map;" .null) (H7 : Arv Z h qa2 qk1 .int qi1 [(.int qi2)] (.int (0 : Int32))) (H8 : Exa Z h qa2 "[I") (H9 : Arv Z h qa3 qk2 .double qi1 [(.double qd2)] (.double (0 : UInt64))) (H10 : Exa Z h qa3 "[D") :
    Con l Z (⟨"com/example/shared_weights/sharedweights/LinearExpression$Builder", "build", "()Lcom/example/shared_weights/sharedweights/LinearExpression;"⟩ : MethodName) prog_24_method_4_code 6 (some (.object "com/example/shared_weights/sharedweights/LinearExpression")) ⟨2, 3, 5, 29⟩ #[(.ref qa1)] h (fun v h' L => (∃ (uf1 : Addr) (uf2 : Addr) (uf3 : Addr) (uk4 : ClassId) (uk5 : ClassId), v = some (.ref uf1) ∧ Fr n0 L ∧ Keep h h' [] ∧ qz2 = 0 ∧ h.size ≤ uf1 ∧ uf1 ≠ uf2 ∧ uf1 ≠ uf3 ∧ h.size ≤ uf2 ∧ uf2 ≠ uf3 ∧ h.size ≤ uf3 ∧ Exa Z h' uf1 "com/example/shared_weights/sharedweights/LinearExpression" ∧ Fld Z h' uf1 "com/example/shared_weights/sharedweights/LinearExpression" "variables" "[I" (.ref uf2) ∧ Fld Z h' uf1 "com/example/shared_weights/sharedweights/LinearExpression" "coefficients" "[D" (.ref uf3) ∧ Fld Z h' uf1 "com/example/shared_weights/sharedweights/LinearExpression" "constant" "D" (.double qd1) ∧ Arv Z h' uf2 uk4 .int (0 : Int32) [] (.int (0 : Int32)) ∧ Exa Z h' uf2 "[I" ∧ Arv Z h' uf3 uk5 .double (0 : Int32) [] (.double (0 : UInt64)) ∧ Exa Z h' uf3 "[D") ∨ (∃ (uf1 : Addr) (uf2 : Addr) (uf3 : Addr) (uk4 : ClassId) (uk5 : ClassId), v = some (.ref uf1) ∧ Fr n0 L ∧ Keep h h' [] ∧ (¬ (qz2 = 0)) ∧ h.size ≤ uf1 ∧ uf1 ≠ uf2 ∧ uf1 ≠ uf3 ∧ h.size ≤ uf2 ∧ uf2 ≠ uf3 ∧ h.size ≤ uf3 ∧ Exa Z h' uf1 "com/example/shared_weights/sharedweights/LinearExpression" ∧ Fld Z h' uf1 "com/example/shared_weights/sharedweights/LinearExpression" "variables" "[I" (.ref uf2) ∧ Fld Z h' uf1 "com/example/shared_weights/sharedweights/LinearExpression" "coefficients" "[D" (.ref uf3) ∧ Fld Z h' uf1 "com/example/shared_weights/sharedweights/LinearExpression" "constant" "D" (.double qd1) ∧ Arv Z h' uf2 uk4 .int (1 : Int32) [(.int qi2)] (.int (0 : Int32)) ∧ Exa Z h' uf2 "[I" ∧ Arv Z h' uf3 uk5 .double (1 : Int32) [(.double qd2)] (.double (0 : UInt64)) ∧ Exa Z h' uf3 "[D")) := by
  refine con_of_go kk_1 (fun m => kk_8 m qa1) ?_
  intro p e s m below meth c T0 C X0 e0
  refine g_iconst C X0 (pc' := 1) d5_0 (v := (0 : Int32)) (by decide) rfl ?_
  refine g_istoreN C X0 (pc' := 2) d5_1 (x := (0 : Int32)) rfl (l' := #[.val (.ref qa1), .val (.int (0 : Int32)), .unset, .unset, .unset, .unset]) rfl rfl ?_
  refine g_iconst C X0 (pc' := 3) d5_2 (v := (0 : Int32)) (by decide) rfl ?_
  refine g_istoreN C X0 (pc' := 4) d5_3 (x := (0 : Int32)) rfl (l' := #[.val (.ref qa1), .val (.int (0 : Int32)), .val (.int (0 : Int32)), .unset, .unset, .unset]) rfl rfl ?_
  refine g_iloadN C X0 (pc' := 5) d5_4 rfl rfl ?_
  refine g_aloadN C X0 (pc' := 6) d5_5 rfl rfl rfl ?_
  refine g_getF C X0 (host := "") (Or.inl (hw _ (List.mem_of_getElem? (i := 31) rfl))) Via.refl e0 H5 d5_6 rfl ?_
  intro T1 X1 e1
  refine g_icmpN C X1 d5_9 (by decide) rfl ?_
  refine g_iloadN C X1 (pc' := 13) d5_12 rfl rfl ?_
  refine g_aloadN C X1 (pc' := 14) d5_13 rfl rfl rfl ?_
  refine g_getF C X1 (host := "") (Or.inl (hw _ (List.mem_of_getElem? (i := 17) rfl))) Via.refl e1 H3 d5_14 rfl ?_
  intro T2 X2 e2
  refine g_iloadN C X2 (pc' := 18) d5_17 rfl rfl ?_
  refine g_daload C X2 (pc' := 19) e2 H9 (by decide) (bn_in B_qi1 (by decide)) 0 (by decide) rfl d5_18 rfl ?_
  refine g_dconst0 C X2 (pc' := 20) d5_19 rfl rfl ?_
  rw [kk_20]
  refine g_dcmpV C X2 (pc' := 21) d5_20 (dcmp_cmpI D_qd2 dint_zero _) rfl ?_
  refine g_if C X2 d5_21 (pc' := 28) (pc'' := 24) (by decide) (by decide) rfl (fun c21 => ?_) (fun c21 => ?_)
  · have c21 : (cmpI qz2 0).toInt = 0 := c21
    have c21 : qz2 = 0 := (cmpI_eq _ _).mp c21
    refine g_iconst C X2 (pc' := 29) d5_28 (v := (0 : Int32)) (by decide) rfl ?_
    refine g_iadd C X2 (pc' := 30) d5_29 rfl ?_
    refine g_istoreN C X2 (pc' := 31) d5_30 (x := (0 : Int32)) (by decide) (l' := #[.val (.ref qa1), .val (.int (0 : Int32)), .val (.int (0 : Int32)), .unset, .unset, .unset]) rfl rfl ?_
    refine g_iinc C X2 (pc' := 34) d5_31 rfl (z := (1 : Int32)) (by decide) (l' := #[.val (.ref qa1), .val (.int (0 : Int32)), .val (.int (1 : Int32)), .unset, .unset, .unset]) rfl rfl ?_
    refine g_goto C X2 d5_34 (pc' := 4) (by decide) (by decide) ?_
    refine g_iloadN C X2 (pc' := 5) d5_4 rfl rfl ?_
    refine g_aloadN C X2 (pc' := 6) d5_5 rfl rfl rfl ?_
    refine g_getF C X2 (host := "") (Or.inl (hw _ (List.mem_of_getElem? (i := 31) rfl))) Via.refl e2 H5 d5_6 rfl ?_
    intro T3 X3 e3
    refine g_icmpY C X3 d5_9 (pc' := 37) (by decide) (by decide) (by decide) ?_
    refine g_iloadN C X3 (pc' := 38) d5_37 rfl rfl ?_
    refine g_newPE C X3 (aty := .int) (ad := "[I") (by decide) (hw _ (List.mem_of_getElem? (i := 13) rfl)) e3 d5_38 (by decide) 0 (by decide) (by decide) (by decide) (by decide) rfl ?_
    intro T4 h4 a4 k4 g4 X4 e4 E4 A4 B4
    have ne_qa1_a4 : qa1 ≠ a4 := Nat.ne_of_lt (by rw [g4]; exact H1.lt)
    have ne_qa2_a4 : qa2 ≠ a4 := Nat.ne_of_lt (by rw [g4]; exact H7.lt)
    have ne_qa3_a4 : qa3 ≠ a4 := Nat.ne_of_lt (by rw [g4]; exact H9.lt)
    have z_a4 : n0 ≤ a4 := by rw [g4]; exact Z0
    have y_a4 : h.size ≤ a4 := by rw [g4]; exact (Keep.refl h []).1
    have H1 := H1.ext E4
    have H2 := H2.ext E4
    have H3 := H3.ext E4
    have H4 := H4.ext E4
    have H5 := H5.ext E4
    have H6 := H6.ext E4
    have H7 := H7.ext E4
    have H8 := H8.ext E4
    have H9 := H9.ext E4
    have H10 := H10.ext E4
    have P4 := (Keep.refl h []).ext E4
    have Z4 : n0 ≤ h4.size := Nat.le_trans Z0 E4.1
    have A4 : Arv Z h4 a4 k4 .int (0 : Int32) [] (.int (0 : Int32)) := A4
    refine g_astoreN C X4 (pc' := 41) d5_40 rfl (l' := #[.val (.ref qa1), .val (.int (0 : Int32)), .val (.ref a4), .unset, .unset, .unset]) rfl rfl ?_
    refine g_iloadN C X4 (pc' := 42) d5_41 rfl rfl ?_
    refine g_newPE C X4 (aty := .double) (ad := "[D") (by decide) (hw _ (List.mem_of_getElem? (i := 16) rfl)) e4 d5_42 (by decide) 0 (by decide) (by decide) (by decide) (by decide) rfl ?_
    intro T5 h5 a5 k5 g5 X5 e5 E5 A5 B5
    have ne_a4_a5 : a4 ≠ a5 := Nat.ne_of_lt (by rw [g5]; exact A4.lt)
    have ne_qa1_a5 : qa1 ≠ a5 := Nat.ne_of_lt (by rw [g5]; exact H1.lt)
    have ne_qa2_a5 : qa2 ≠ a5 := Nat.ne_of_lt (by rw [g5]; exact H7.lt)
    have ne_qa3_a5 : qa3 ≠ a5 := Nat.ne_of_lt (by rw [g5]; exact H9.lt)
    have z_a5 : n0 ≤ a5 := by rw [g5]; exact Z4
    have y_a5 : h.size ≤ a5 := by rw [g5]; exact P4.1
    have H1 := H1.ext E5
    have H2 := H2.ext E5
    have H3 := H3.ext E5
    have H4 := H4.ext E5
    have H5 := H5.ext E5
    have H6 := H6.ext E5
    have H7 := H7.ext E5
    have H8 := H8.ext E5
    have H9 := H9.ext E5
    have H10 := H10.ext E5
    have A4 := A4.ext E5
    have B4 := B4.ext E5
    have P5 := P4.ext E5
    have Z5 : n0 ≤ h5.size := Nat.le_trans Z4 E5.1
    have A5 : Arv Z h5 a5 k5 .double (0 : Int32) [] (.double (0 : UInt64)) := A5
    refine g_astoreN C X5 (pc' := 45) d5_44 rfl (l' := #[.val (.ref qa1), .val (.int (0 : Int32)), .val (.ref a4), .val (.ref a5), .unset, .unset]) rfl rfl ?_
    refine g_iconst C X5 (pc' := 46) d5_45 (v := (0 : Int32)) (by decide) rfl ?_
    refine g_istore C X5 (pc' := 48) d5_46 (x := (0 : Int32)) rfl (l' := #[.val (.ref qa1), .val (.int (0 : Int32)), .val (.ref a4), .val (.ref a5), .val (.int (0 : Int32)), .unset]) rfl rfl ?_
    refine g_iconst C X5 (pc' := 49) d5_48 (v := (0 : Int32)) (by decide) rfl ?_
    refine g_istore C X5 (pc' := 51) d5_49 (x := (0 : Int32)) rfl (l' := #[.val (.ref qa1), .val (.int (0 : Int32)), .val (.ref a4), .val (.ref a5), .val (.int (0 : Int32)), .val (.int (0 : Int32))]) rfl rfl ?_
    refine g_iload C X5 (pc' := 53) d5_51 rfl rfl ?_
    refine g_aloadN C X5 (pc' := 54) d5_53 rfl rfl rfl ?_
    refine g_getF C X5 (host := "") (Or.inl (hw _ (List.mem_of_getElem? (i := 31) rfl))) Via.refl e5 H5 d5_54 rfl ?_
    intro T6 X6 e6
    refine g_icmpN C X6 d5_57 (by decide) rfl ?_
    refine g_aloadN C X6 (pc' := 61) d5_60 rfl rfl rfl ?_
    refine g_getF C X6 (host := "") (Or.inl (hw _ (List.mem_of_getElem? (i := 17) rfl))) Via.refl e6 H3 d5_61 rfl ?_
    intro T7 X7 e7
    refine g_iload C X7 (pc' := 66) d5_64 rfl rfl ?_
    refine g_daload C X7 (pc' := 67) e7 H9 (by decide) (bn_in B_qi1 (by decide)) 0 (by decide) rfl d5_66 rfl ?_
    refine g_dconst0 C X7 (pc' := 68) d5_67 rfl rfl ?_
    rw [kk_20]
    refine g_dcmpV C X7 (pc' := 69) d5_68 (dcmp_cmpI D_qd2 dint_zero _) rfl ?_
    refine g_ifY C X7 d5_69 (pc' := 97) (by decide) (by decide) ((cmpI_eq _ _).mpr c21) ?_
    refine g_iinc C X7 (pc' := 100) d5_97 rfl (z := (1 : Int32)) (by decide) (l' := #[.val (.ref qa1), .val (.int (0 : Int32)), .val (.ref a4), .val (.ref a5), .val (.int (0 : Int32)), .val (.int (1 : Int32))]) rfl rfl ?_
    refine g_goto C X7 d5_100 (pc' := 51) (by decide) (by decide) ?_
    refine g_iload C X7 (pc' := 53) d5_51 rfl rfl ?_
    refine g_aloadN C X7 (pc' := 54) d5_53 rfl rfl rfl ?_
    refine g_getF C X7 (host := "") (Or.inl (hw _ (List.mem_of_getElem? (i := 31) rfl))) Via.refl e7 H5 d5_54 rfl ?_
    intro T8 X8 e8
    refine g_icmpY C X8 d5_57 (pc' := 103) (by decide) (by decide) (by decide) ?_
    refine g_new C X8 (hw _ (List.mem_of_getElem? (i := 33) rfl)) (hw _ (List.mem_of_getElem? (i := 34) rfl)) (hw _ (List.mem_of_getElem? (i := 35) rfl)) e8 d5_103 (by decide) (by decide) rfl ?_
    intro T9 h9 a9 g9 X9 e9 E9 A9 D9
    have ne_a4_a9 : a4 ≠ a9 := Nat.ne_of_lt (by rw [g9]; exact A4.lt)
    have ne_a5_a9 : a5 ≠ a9 := Nat.ne_of_lt (by rw [g9]; exact A5.lt)
    have ne_qa1_a9 : qa1 ≠ a9 := Nat.ne_of_lt (by rw [g9]; exact H1.lt)
    have ne_qa2_a9 : qa2 ≠ a9 := Nat.ne_of_lt (by rw [g9]; exact H7.lt)
    have ne_qa3_a9 : qa3 ≠ a9 := Nat.ne_of_lt (by rw [g9]; exact H9.lt)
    have z_a9 : n0 ≤ a9 := by rw [g9]; exact Z5
    have y_a9 : h.size ≤ a9 := by rw [g9]; exact P5.1
    have H1 := H1.ext E9
    have H2 := H2.ext E9
    have H3 := H3.ext E9
    have H4 := H4.ext E9
    have H5 := H5.ext E9
    have H6 := H6.ext E9
    have H7 := H7.ext E9
    have H8 := H8.ext E9
    have H9 := H9.ext E9
    have H10 := H10.ext E9
    have A4 := A4.ext E9
    have B4 := B4.ext E9
    have A5 := A5.ext E9
    have B5 := B5.ext E9
    have P9 := P5.ext E9
    have Z9 : n0 ≤ h9.size := Nat.le_trans Z5 E9.1
    have F9_1 : Fld Z h9 a9 "com/example/shared_weights/sharedweights/LinearExpression" "variables" "[I" .null := D9 (Or.inr (hw _ (List.mem_of_getElem? (i := 41) rfl))) (ty := (.array .int)) (by decide)
    have F9_2 : Fld Z h9 a9 "com/example/shared_weights/sharedweights/LinearExpression" "coefficients" "[D" .null := D9 (Or.inr (hw _ (List.mem_of_getElem? (i := 43) rfl))) (ty := (.array .double)) (by decide)
    have F9_3 : Fld Z h9 a9 "com/example/shared_weights/sharedweights/LinearExpression" "constant" "D" (.double (0 : UInt64)) := D9 (Or.inr (hw _ (List.mem_of_getElem? (i := 45) rfl))) (ty := .double) (by decide)
    refine g_dup C X9 (pc' := 107) d5_106 rfl rfl ?_
    refine g_aloadN C X9 (pc' := 108) d5_107 rfl rfl rfl ?_
    refine g_aloadN C X9 (pc' := 109) d5_108 rfl rfl rfl ?_
    refine g_aloadN C X9 (pc' := 110) d5_109 rfl rfl rfl ?_
    refine g_getF C X9 (host := "") (Or.inl (hw _ (List.mem_of_getElem? (i := 24) rfl))) Via.refl e9 H4 d5_110 rfl ?_
    intro T10 X10 e10
    refine g_callIN C X10 (k5_init l Z a0 hw h9 n0 Z9 a9 a4 a5 qd1 qz1 k4 k5 z_a9 z_a4 z_a5 (Ne.symm ne_a4_a9) (Ne.symm ne_a5_a9) ne_a4_a5 D_qd1 B_qd1 A9 F9_1 F9_2 F9_3 A4 B4 A5 B5) rfl (hw _ (List.mem_of_getElem? (i := 36) rfl)) (hw _ (List.mem_of_getElem? (i := 37) rfl)) (hw _ (List.mem_of_getElem? (i := 35) rfl)) (hw _ (List.mem_of_getElem? (i := 38) rfl)) (by decide) e10 d5_113 rfl kk_7 a9 [(.ref a4), (.ref a5), (.double qd1)] [(.ref a9)] rfl rfl rfl 1 rfl (by decide) (by decide) (by decide) (by decide) rfl ?_
    rintro _ T11 L11 X11 ⟨rfl, M11, K11, FF1, FF2, FF3, FF4⟩
    have H1 := H1.keep K11
    have H2 := H2.keep K11 (ninS ne_qa1_a9 nin0)
    have H3 := H3.keep K11 (ninS ne_qa1_a9 nin0)
    have H4 := H4.keep K11 (ninS ne_qa1_a9 nin0)
    have H5 := H5.keep K11 (ninS ne_qa1_a9 nin0)
    have H6 := H6.keep K11 (ninS ne_qa1_a9 nin0)
    have H7 := H7.keep K11 (ninS ne_qa2_a9 nin0)
    have H8 := H8.keep K11
    have H9 := H9.keep K11 (ninS ne_qa3_a9 nin0)
    have H10 := H10.keep K11
    have A4 := A4.keep K11 (ninS ne_a4_a9 nin0)
    have B4 := B4.keep K11
    have A5 := A5.keep K11 (ninS ne_a5_a9 nin0)
    have B5 := B5.keep K11
    have Z11 : n0 ≤ T11.heap.size := Nat.le_trans Z9 K11.1
    have P11 := P9.trans K11 (alc (Or.inr y_a9) al0)
    have N11 := Fr.app (Fr.nil n0) M11
    obtain ⟨h11, e11⟩ : ∃ z, T11.heap = z := ⟨_, rfl⟩
    rw [e11] at H1 H2 H3 H4 H5 H6 H7 H8 H9 H10 A4 B4 A5 B5 FF1 FF2 FF3 FF4 Z11 P11
    show Go p.tables e below _ T11 (mkF m 116 #[.val (.ref qa1), .val (.int (0 : Int32)), .val (.ref a4), .val (.ref a5), .val (.int (0 : Int32)), .val (.int (1 : Int32))] [(.ref a9)])
    exact g_areturn C X11 d5_116 rfl rfl rfl (Or.inl ⟨a9, a4, a5, k4, k5, rfl, N11, by rw [e11]; exact P11, c21, y_a9, (Ne.symm ne_a4_a9), (Ne.symm ne_a5_a9), y_a4, ne_a4_a5, y_a5, by rw [e11]; exact FF1, by rw [e11]; exact FF2, by rw [e11]; exact FF3, by rw [e11]; exact FF4, by rw [e11]; exact A4, by rw [e11]; exact B4, by rw [e11]; exact A5, by rw [e11]; exact B5⟩) (by decide) (by decide)
  · have c21 : ¬ ((cmpI qz2 0).toInt = 0) := c21
    have c21 : ¬ (qz2 = 0) := fun q => c21 ((cmpI_eq _ _).mpr q)
    refine g_iconst C X2 (pc' := 25) d5_24 (v := (1 : Int32)) (by decide) rfl ?_
    refine g_goto C X2 d5_25 (pc' := 29) (by decide) (by decide) ?_
    refine g_iadd C X2 (pc' := 30) d5_29 rfl ?_
    refine g_istoreN C X2 (pc' := 31) d5_30 (x := (1 : Int32)) (by decide) (l' := #[.val (.ref qa1), .val (.int (1 : Int32)), .val (.int (0 : Int32)), .unset, .unset, .unset]) rfl rfl ?_
    refine g_iinc C X2 (pc' := 34) d5_31 rfl (z := (1 : Int32)) (by decide) (l' := #[.val (.ref qa1), .val (.int (1 : Int32)), .val (.int (1 : Int32)), .unset, .unset, .unset]) rfl rfl ?_
    refine g_goto C X2 d5_34 (pc' := 4) (by decide) (by decide) ?_
    refine g_iloadN C X2 (pc' := 5) d5_4 rfl rfl ?_
    refine g_aloadN C X2 (pc' := 6) d5_5 rfl rfl rfl ?_
    refine g_getF C X2 (host := "") (Or.inl (hw _ (List.mem_of_getElem? (i := 31) rfl))) Via.refl e2 H5 d5_6 rfl ?_
    intro T12 X12 e12
    refine g_icmpY C X12 d5_9 (pc' := 37) (by decide) (by decide) (by decide) ?_
    refine g_iloadN C X12 (pc' := 38) d5_37 rfl rfl ?_
    refine g_newPE C X12 (aty := .int) (ad := "[I") (by decide) (hw _ (List.mem_of_getElem? (i := 13) rfl)) e12 d5_38 (by decide) 1 (by decide) (by decide) (by decide) (by decide) rfl ?_
    intro T13 h13 a13 k13 g13 X13 e13 E13 A13 B13
    have ne_qa1_a13 : qa1 ≠ a13 := Nat.ne_of_lt (by rw [g13]; exact H1.lt)
    have ne_qa2_a13 : qa2 ≠ a13 := Nat.ne_of_lt (by rw [g13]; exact H7.lt)
    have ne_qa3_a13 : qa3 ≠ a13 := Nat.ne_of_lt (by rw [g13]; exact H9.lt)
    have z_a13 : n0 ≤ a13 := by rw [g13]; exact Z0
    have y_a13 : h.size ≤ a13 := by rw [g13]; exact (Keep.refl h []).1
    have H1 := H1.ext E13
    have H2 := H2.ext E13
    have H3 := H3.ext E13
    have H4 := H4.ext E13
    have H5 := H5.ext E13
    have H6 := H6.ext E13
    have H7 := H7.ext E13
    have H8 := H8.ext E13
    have H9 := H9.ext E13
    have H10 := H10.ext E13
    have P13 := (Keep.refl h []).ext E13
    have Z13 : n0 ≤ h13.size := Nat.le_trans Z0 E13.1
    have A13 : Arv Z h13 a13 k13 .int (1 : Int32) [] (.int (0 : Int32)) := A13
    refine g_astoreN C X13 (pc' := 41) d5_40 rfl (l' := #[.val (.ref qa1), .val (.int (1 : Int32)), .val (.ref a13), .unset, .unset, .unset]) rfl rfl ?_
    refine g_iloadN C X13 (pc' := 42) d5_41 rfl rfl ?_
    refine g_newPE C X13 (aty := .double) (ad := "[D") (by decide) (hw _ (List.mem_of_getElem? (i := 16) rfl)) e13 d5_42 (by decide) 1 (by decide) (by decide) (by decide) (by decide) rfl ?_
    intro T14 h14 a14 k14 g14 X14 e14 E14 A14 B14
    have ne_a13_a14 : a13 ≠ a14 := Nat.ne_of_lt (by rw [g14]; exact A13.lt)
    have ne_qa1_a14 : qa1 ≠ a14 := Nat.ne_of_lt (by rw [g14]; exact H1.lt)
    have ne_qa2_a14 : qa2 ≠ a14 := Nat.ne_of_lt (by rw [g14]; exact H7.lt)
    have ne_qa3_a14 : qa3 ≠ a14 := Nat.ne_of_lt (by rw [g14]; exact H9.lt)
    have z_a14 : n0 ≤ a14 := by rw [g14]; exact Z13
    have y_a14 : h.size ≤ a14 := by rw [g14]; exact P13.1
    have H1 := H1.ext E14
    have H2 := H2.ext E14
    have H3 := H3.ext E14
    have H4 := H4.ext E14
    have H5 := H5.ext E14
    have H6 := H6.ext E14
    have H7 := H7.ext E14
    have H8 := H8.ext E14
    have H9 := H9.ext E14
    have H10 := H10.ext E14
    have A13 := A13.ext E14
    have B13 := B13.ext E14
    have P14 := P13.ext E14
    have Z14 : n0 ≤ h14.size := Nat.le_trans Z13 E14.1
    have A14 : Arv Z h14 a14 k14 .double (1 : Int32) [] (.double (0 : UInt64)) := A14
    refine g_astoreN C X14 (pc' := 45) d5_44 rfl (l' := #[.val (.ref qa1), .val (.int (1 : Int32)), .val (.ref a13), .val (.ref a14), .unset, .unset]) rfl rfl ?_
    refine g_iconst C X14 (pc' := 46) d5_45 (v := (0 : Int32)) (by decide) rfl ?_
    refine g_istore C X14 (pc' := 48) d5_46 (x := (0 : Int32)) rfl (l' := #[.val (.ref qa1), .val (.int (1 : Int32)), .val (.ref a13), .val (.ref a14), .val (.int (0 : Int32)), .unset]) rfl rfl ?_
    refine g_iconst C X14 (pc' := 49) d5_48 (v := (0 : Int32)) (by decide) rfl ?_
    refine g_istore C X14 (pc' := 51) d5_49 (x := (0 : Int32)) rfl (l' := #[.val (.ref qa1), .val (.int (1 : Int32)), .val (.ref a13), .val (.ref a14), .val (.int (0 : Int32)), .val (.int (0 : Int32))]) rfl rfl ?_
    refine g_iload C X14 (pc' := 53) d5_51 rfl rfl ?_
    refine g_aloadN C X14 (pc' := 54) d5_53 rfl rfl rfl ?_
    refine g_getF C X14 (host := "") (Or.inl (hw _ (List.mem_of_getElem? (i := 31) rfl))) Via.refl e14 H5 d5_54 rfl ?_
    intro T15 X15 e15
    refine g_icmpN C X15 d5_57 (by decide) rfl ?_
    refine g_aloadN C X15 (pc' := 61) d5_60 rfl rfl rfl ?_
    refine g_getF C X15 (host := "") (Or.inl (hw _ (List.mem_of_getElem? (i := 17) rfl))) Via.refl e15 H3 d5_61 rfl ?_
    intro T16 X16 e16
    refine g_iload C X16 (pc' := 66) d5_64 rfl rfl ?_
    refine g_daload C X16 (pc' := 67) e16 H9 (by decide) (bn_in B_qi1 (by decide)) 0 (by decide) rfl d5_66 rfl ?_
    refine g_dconst0 C X16 (pc' := 68) d5_67 rfl rfl ?_
    rw [kk_20]
    refine g_dcmpV C X16 (pc' := 69) d5_68 (dcmp_cmpI D_qd2 dint_zero _) rfl ?_
    refine g_ifN C X16 d5_69 (fun q => c21 ((cmpI_eq _ _).mp q)) rfl ?_
    refine g_aloadN C X16 (pc' := 73) d5_72 rfl rfl rfl ?_
    refine g_iload C X16 (pc' := 75) d5_73 rfl rfl ?_
    refine g_aloadN C X16 (pc' := 76) d5_75 rfl rfl rfl ?_
    refine g_getF C X16 (host := "") (Or.inl (hw _ (List.mem_of_getElem? (i := 14) rfl))) Via.refl e16 H2 d5_76 rfl ?_
    intro T17 X17 e17
    refine g_iload C X17 (pc' := 81) d5_79 rfl rfl ?_
    refine g_iaload C X17 (pc' := 82) e17 H7 (by decide) (bn_in B_qi1 (by decide)) 0 (by decide) rfl d5_81 rfl ?_
    refine g_iastore C X17 (pc' := 83) e17 A13 (by decide) (by decide) 0 1 (by decide) (of_decide_eq_true rfl) d5_82 rfl ?_
    intro T18 h18 X18 e18 W18 Aq
    have H1 := H1.wr W18
    have H2 := H2.other W18 (Or.inl ne_qa1_a13)
    have H3 := H3.other W18 (Or.inl ne_qa1_a13)
    have H4 := H4.other W18 (Or.inl ne_qa1_a13)
    have H5 := H5.other W18 (Or.inl ne_qa1_a13)
    have H6 := H6.other W18 (Or.inl ne_qa1_a13)
    have H7 := H7.other W18 ne_qa2_a13
    have H8 := H8.wr W18
    have H9 := H9.other W18 ne_qa3_a13
    have H10 := H10.wr W18
    have B13 := B13.wr W18
    have A14 := A14.other W18 (Ne.symm ne_a13_a14)
    have B14 := B14.wr W18
    have Z18 : n0 ≤ h18.size := by rw [W18.size]; exact Z14
    have N18 := Fr.snoc X18 (Fr.nil n0) z_a13
    have P18 := P14.wr W18 (Or.inr y_a13)
    have A13 : Arv Z h18 a13 k13 .int (1 : Int32) [(.int qi2)] (.int (0 : Int32)) := Aq
    refine g_aloadN C X18 (pc' := 84) d5_83 rfl rfl rfl ?_
    refine g_iload C X18 (pc' := 86) d5_84 rfl rfl ?_
    refine g_aloadN C X18 (pc' := 87) d5_86 rfl rfl rfl ?_
    refine g_getF C X18 (host := "") (Or.inl (hw _ (List.mem_of_getElem? (i := 17) rfl))) Via.refl e18 H3 d5_87 rfl ?_
    intro T19 X19 e19
    refine g_iload C X19 (pc' := 92) d5_90 rfl rfl ?_
    refine g_daload C X19 (pc' := 93) e19 H9 (by decide) (bn_in B_qi1 (by decide)) 0 (by decide) rfl d5_92 rfl ?_
    refine g_dastore C X19 (pc' := 94) e19 A14 (by decide) (by decide) 0 1 (by decide) (of_decide_eq_true rfl) d5_93 rfl ?_
    intro T20 h20 X20 e20 W20 Aq
    have H1 := H1.wr W20
    have H2 := H2.other W20 (Or.inl ne_qa1_a14)
    have H3 := H3.other W20 (Or.inl ne_qa1_a14)
    have H4 := H4.other W20 (Or.inl ne_qa1_a14)
    have H5 := H5.other W20 (Or.inl ne_qa1_a14)
    have H6 := H6.other W20 (Or.inl ne_qa1_a14)
    have H7 := H7.other W20 ne_qa2_a14
    have H8 := H8.wr W20
    have H9 := H9.other W20 ne_qa3_a14
    have H10 := H10.wr W20
    have A13 := A13.other W20 ne_a13_a14
    have B13 := B13.wr W20
    have B14 := B14.wr W20
    have Z20 : n0 ≤ h20.size := by rw [W20.size]; exact Z18
    have N20 := Fr.snoc X20 N18 z_a14
    have P20 := P18.wr W20 (Or.inr y_a14)
    have A14 : Arv Z h20 a14 k14 .double (1 : Int32) [(.double qd2)] (.double (0 : UInt64)) := Aq
    refine g_iinc C X20 (pc' := 97) d5_94 rfl (z := (1 : Int32)) (by decide) (l' := #[.val (.ref qa1), .val (.int (1 : Int32)), .val (.ref a13), .val (.ref a14), .val (.int (1 : Int32)), .val (.int (0 : Int32))]) rfl rfl ?_
    refine g_iinc C X20 (pc' := 100) d5_97 rfl (z := (1 : Int32)) (by decide) (l' := #[.val (.ref qa1), .val (.int (1 : Int32)), .val (.ref a13), .val (.ref a14), .val (.int (1 : Int32)), .val (.int (1 : Int32))]) rfl rfl ?_
    refine g_goto C X20 d5_100 (pc' := 51) (by decide) (by decide) ?_
    refine g_iload C X20 (pc' := 53) d5_51 rfl rfl ?_
    refine g_aloadN C X20 (pc' := 54) d5_53 rfl rfl rfl ?_
    refine g_getF C X20 (host := "") (Or.inl (hw _ (List.mem_of_getElem? (i := 31) rfl))) Via.refl e20 H5 d5_54 rfl ?_
    intro T21 X21 e21
    refine g_icmpY C X21 d5_57 (pc' := 103) (by decide) (by decide) (by decide) ?_
    refine g_new C X21 (hw _ (List.mem_of_getElem? (i := 33) rfl)) (hw _ (List.mem_of_getElem? (i := 34) rfl)) (hw _ (List.mem_of_getElem? (i := 35) rfl)) e21 d5_103 (by decide) (by decide) rfl ?_
    intro T22 h22 a22 g22 X22 e22 E22 A22 D22
    have ne_a13_a22 : a13 ≠ a22 := Nat.ne_of_lt (by rw [g22]; exact A13.lt)
    have ne_a14_a22 : a14 ≠ a22 := Nat.ne_of_lt (by rw [g22]; exact A14.lt)
    have ne_qa1_a22 : qa1 ≠ a22 := Nat.ne_of_lt (by rw [g22]; exact H1.lt)
    have ne_qa2_a22 : qa2 ≠ a22 := Nat.ne_of_lt (by rw [g22]; exact H7.lt)
    have ne_qa3_a22 : qa3 ≠ a22 := Nat.ne_of_lt (by rw [g22]; exact H9.lt)
    have z_a22 : n0 ≤ a22 := by rw [g22]; exact Z20
    have y_a22 : h.size ≤ a22 := by rw [g22]; exact P20.1
    have H1 := H1.ext E22
    have H2 := H2.ext E22
    have H3 := H3.ext E22
    have H4 := H4.ext E22
    have H5 := H5.ext E22
    have H6 := H6.ext E22
    have H7 := H7.ext E22
    have H8 := H8.ext E22
    have H9 := H9.ext E22
    have H10 := H10.ext E22
    have A13 := A13.ext E22
    have B13 := B13.ext E22
    have A14 := A14.ext E22
    have B14 := B14.ext E22
    have P22 := P20.ext E22
    have Z22 : n0 ≤ h22.size := Nat.le_trans Z20 E22.1
    have F22_1 : Fld Z h22 a22 "com/example/shared_weights/sharedweights/LinearExpression" "variables" "[I" .null := D22 (Or.inr (hw _ (List.mem_of_getElem? (i := 41) rfl))) (ty := (.array .int)) (by decide)
    have F22_2 : Fld Z h22 a22 "com/example/shared_weights/sharedweights/LinearExpression" "coefficients" "[D" .null := D22 (Or.inr (hw _ (List.mem_of_getElem? (i := 43) rfl))) (ty := (.array .double)) (by decide)
    have F22_3 : Fld Z h22 a22 "com/example/shared_weights/sharedweights/LinearExpression" "constant" "D" (.double (0 : UInt64)) := D22 (Or.inr (hw _ (List.mem_of_getElem? (i := 45) rfl))) (ty := .double) (by decide)
    refine g_dup C X22 (pc' := 107) d5_106 rfl rfl ?_
    refine g_aloadN C X22 (pc' := 108) d5_107 rfl rfl rfl ?_
    refine g_aloadN C X22 (pc' := 109) d5_108 rfl rfl rfl ?_
    refine g_aloadN C X22 (pc' := 110) d5_109 rfl rfl rfl ?_
    refine g_getF C X22 (host := "") (Or.inl (hw _ (List.mem_of_getElem? (i := 24) rfl))) Via.refl e22 H4 d5_110 rfl ?_
    intro T23 X23 e23
    refine g_callIN C X23 (k14_init l Z a0 hw h22 n0 Z22 a22 a13 a14 qd1 qz1 qi2 k13 qd2 qz2 k14 z_a22 z_a13 z_a14 (Ne.symm ne_a13_a22) (Ne.symm ne_a14_a22) ne_a13_a14 D_qd1 B_qd1 D_qd2 B_qd2 A22 F22_1 F22_2 F22_3 A13 B13 A14 B14) rfl (hw _ (List.mem_of_getElem? (i := 36) rfl)) (hw _ (List.mem_of_getElem? (i := 37) rfl)) (hw _ (List.mem_of_getElem? (i := 35) rfl)) (hw _ (List.mem_of_getElem? (i := 38) rfl)) (by decide) e23 d5_113 rfl kk_7 a22 [(.ref a13), (.ref a14), (.double qd1)] [(.ref a22)] rfl rfl rfl 1 rfl (by decide) (by decide) (by decide) (by decide) rfl ?_
    rintro _ T24 L24 X24 ⟨rfl, M24, K24, FF5, FF6, FF7, FF8⟩
    have H1 := H1.keep K24
    have H2 := H2.keep K24 (ninS ne_qa1_a22 nin0)
    have H3 := H3.keep K24 (ninS ne_qa1_a22 nin0)
    have H4 := H4.keep K24 (ninS ne_qa1_a22 nin0)
    have H5 := H5.keep K24 (ninS ne_qa1_a22 nin0)
    have H6 := H6.keep K24 (ninS ne_qa1_a22 nin0)
    have H7 := H7.keep K24 (ninS ne_qa2_a22 nin0)
    have H8 := H8.keep K24
    have H9 := H9.keep K24 (ninS ne_qa3_a22 nin0)
    have H10 := H10.keep K24
    have A13 := A13.keep K24 (ninS ne_a13_a22 nin0)
    have B13 := B13.keep K24
    have A14 := A14.keep K24 (ninS ne_a14_a22 nin0)
    have B14 := B14.keep K24
    have Z24 : n0 ≤ T24.heap.size := Nat.le_trans Z22 K24.1
    have P24 := P22.trans K24 (alc (Or.inr y_a22) al0)
    have N24 := Fr.app N20 M24
    obtain ⟨h24, e24⟩ : ∃ z, T24.heap = z := ⟨_, rfl⟩
    rw [e24] at H1 H2 H3 H4 H5 H6 H7 H8 H9 H10 A13 B13 A14 B14 FF5 FF6 FF7 FF8 Z24 P24
    show Go p.tables e below _ T24 (mkF m 116 #[.val (.ref qa1), .val (.int (1 : Int32)), .val (.ref a13), .val (.ref a14), .val (.int (1 : Int32)), .val (.int (1 : Int32))] [(.ref a22)])
    exact g_areturn C X24 d5_116 rfl rfl rfl (Or.inr ⟨a22, a13, a14, k13, k14, rfl, N24, by rw [e24]; exact P24, c21, y_a22, (Ne.symm ne_a13_a22), (Ne.symm ne_a14_a22), y_a13, ne_a13_a14, y_a14, by rw [e24]; exact FF5, by rw [e24]; exact FF6, by rw [e24]; exact FF7, by rw [e24]; exact FF8, by rw [e24]; exact A13, by rw [e24]; exact B13, by rw [e24]; exact A14, by rw [e24]; exact B14⟩) (by decide) (by decide)
set_option maxRecDepth 65536 in
set_option maxHeartbeats 40000000 in
theorem k16_constant (l : Launch) (Z : State) (a0 : Array Value) (hw : ∀ d ∈ tables_1, d.before a0 Z = true) (h : Heap) (n0 : Nat) (Z0 : n0 ≤ h.size) (qa1 : Addr) (qa2 : Addr) (qa3 : Addr) (qd1 : UInt64) (qz1 : Int) (qi1 : Int32) (qk1 : ClassId) (qd2 : UInt64) (qz2 : Int) (qk2 : ClassId) (z_qa1 : n0 ≤ qa1) (z_qa2 : n0 ≤ qa2) (z_qa3 : n0 ≤ qa3) (ne_qa1_qa2 : qa1 ≠ qa2) (ne_qa1_qa3 : qa1 ≠ qa3) (ne_qa2_qa3 : qa2 ≠ qa3) (D_qd1 : FP.Core.DInt qz1 qd1) (B_qd1 : -6442450944 ≤ qz1 ∧ qz1 ≤ 6442450941) (D_qd2 : FP.Core.DInt qz2 qd2) (B_qd2 : -2147483648 ≤ qz2 ∧ qz2 ≤ 2147483647) (H1 : Exa Z h qa1 "com/example/shared_weights/sharedweights/LinearExpression") (H2 : Fld Z h qa1 "com/example/shared_weights/sharedweights/LinearExpression" "variables" "[I" (.ref qa2)) (H3 : Fld Z h qa1 "com/example/shared_weights/sharedweights/LinearExpression" "coefficients" "[D" (.ref qa3)) (H4 : Fld Z h qa1 "com/example/shared_weights/sharedweights/LinearExpression" "constant" "D" (.double qd1)) (H5 : Arv Z h qa2 qk1 .int (1 : Int32) [(.int qi1)] (.int (0 : Int32))) (H6 : Exa Z h qa2 "[I") (H7 : Arv Z h qa3 qk2 .double (1 : Int32) [(.double qd2)] (.double (0 : UInt64))) (H8 : Exa Z h qa3 "[D") :
    Con l Z (⟨"com/example/shared_weights/sharedweights/LinearExpression", "constant", "()D"⟩ : MethodName) prog_23_method_4_code 1 (some .double) ⟨0, 0, 0, 0⟩ #[(.ref qa1)] h (fun v h' L => v = some (.double qd1) ∧ L = [] ∧ h' = h) := by
  refine con_of_go kk_6 (fun m => kk_10 m qa1) ?_
  intro p e s m below meth c T0 C X0 e0
  refine g_aloadN C X0 (pc' := 1) d7_0 rfl rfl rfl ?_
  refine g_getF C X0 (host := "") (Or.inl (hw _ (List.mem_of_getElem? (i := 44) rfl))) Via.refl e0 H4 d7_1 rfl ?_
  intro T1 X1 e1
  exact g_dreturn C X1 d7_4 (⟨rfl, rfl, e1⟩) (by decide) (by decide)
set_option maxRecDepth 65536 in
set_option maxHeartbeats 40000000 in
theorem k17_variables (l : Launch) (Z : State) (a0 : Array Value) (hw : ∀ d ∈ tables_1, d.before a0 Z = true) (h : Heap) (n0 : Nat) (Z0 : n0 ≤ h.size) (qa1 : Addr) (qa2 : Addr) (qa3 : Addr) (qd1 : UInt64) (qz1 : Int) (qi1 : Int32) (qk1 : ClassId) (qd2 : UInt64) (qz2 : Int) (qk2 : ClassId) (z_qa1 : n0 ≤ qa1) (z_qa2 : n0 ≤ qa2) (z_qa3 : n0 ≤ qa3) (ne_qa1_qa2 : qa1 ≠ qa2) (ne_qa1_qa3 : qa1 ≠ qa3) (ne_qa2_qa3 : qa2 ≠ qa3) (D_qd1 : FP.Core.DInt qz1 qd1) (B_qd1 : -6442450944 ≤ qz1 ∧ qz1 ≤ 6442450941) (D_qd2 : FP.Core.DInt qz2 qd2) (B_qd2 : -2147483648 ≤ qz2 ∧ qz2 ≤ 2147483647) (H1 : Exa Z h qa1 "com/example/shared_weights/sharedweights/LinearExpression") (H2 : Fld Z h qa1 "com/example/shared_weights/sharedweights/LinearExpression" "variables" "[I" (.ref qa2)) (H3 : Fld Z h qa1 "com/example/shared_weights/sharedweights/LinearExpression" "coefficients" "[D" (.ref qa3)) (H4 : Fld Z h qa1 "com/example/shared_weights/sharedweights/LinearExpression" "constant" "D" (.double qd1)) (H5 : Arv Z h qa2 qk1 .int (1 : Int32) [(.int qi1)] (.int (0 : Int32))) (H6 : Exa Z h qa2 "[I") (H7 : Arv Z h qa3 qk2 .double (1 : Int32) [(.double qd2)] (.double (0 : UInt64))) (H8 : Exa Z h qa3 "[D") :
    Con l Z (⟨"com/example/shared_weights/sharedweights/LinearExpression", "variables", "()[I"⟩ : MethodName) prog_23_method_2_code 1 (some (.array .int)) ⟨1, 1, 1, 14⟩ #[(.ref qa1)] h (fun v h' L => ∃ (uf1 : Addr), v = some (.ref uf1) ∧ Fr n0 L ∧ Keep h h' [] ∧ h.size ≤ uf1 ∧ Arv Z h' uf1 qk1 .int (1 : Int32) [(.int qi1)] (.int (0 : Int32)) ∧ Exa Z h' uf1 "[I") := by
  refine con_of_go kk_6 (fun m => kk_12 m qa1) ?_
  intro p e s m below meth c T0 C X0 e0
  refine g_aloadN C X0 (pc' := 1) d8_0 rfl rfl rfl ?_
  refine g_getF C X0 (host := "") (Or.inl (hw _ (List.mem_of_getElem? (i := 40) rfl))) Via.refl e0 H2 d8_1 rfl ?_
  intro T1 X1 e1
  refine g_clone C X1 (hw _ (List.mem_of_getElem? (i := 56) rfl)) (hw _ (List.mem_of_getElem? (i := 57) rfl)) (hw _ (List.mem_of_getElem? (i := 61) rfl)) (hw _ (List.mem_of_getElem? (i := 59) rfl)) (hw _ (List.mem_of_getElem? (i := 60) rfl)) (hw _ (List.mem_of_getElem? (i := 62) rfl)) e1 H5 H6 d8_4 rfl 0 rfl (by decide) (by decide) 1 (by decide) (by decide) (by decide) rfl ?_
  intro T2 h2 a2 g2 X2 e2 E2 A2 B2
  have ne_qa1_a2 : qa1 ≠ a2 := Nat.ne_of_lt (by rw [g2]; exact H1.lt)
  have ne_qa2_a2 : qa2 ≠ a2 := Nat.ne_of_lt (by rw [g2]; exact H5.lt)
  have ne_qa3_a2 : qa3 ≠ a2 := Nat.ne_of_lt (by rw [g2]; exact H7.lt)
  have z_a2 : n0 ≤ a2 := by rw [g2]; exact Z0
  have y_a2 : h.size ≤ a2 := by rw [g2]; exact (Keep.refl h []).1
  have H1 := H1.ext E2
  have H2 := H2.ext E2
  have H3 := H3.ext E2
  have H4 := H4.ext E2
  have H5 := H5.ext E2
  have H6 := H6.ext E2
  have H7 := H7.ext E2
  have H8 := H8.ext E2
  have P2 := (Keep.refl h []).ext E2
  have Z2 : n0 ≤ h2.size := Nat.le_trans Z0 E2.1
  refine g_cast C X2 (hw _ (List.mem_of_getElem? (i := 63) rfl)) e2 (Ins.of_exa B2 (hw _ (List.mem_of_getElem? (i := 64) rfl))) d8_7 rfl ?_
  intro T3 X3 e3
  exact g_areturn C X3 d8_10 rfl rfl rfl (⟨a2, rfl, (Fr.nil n0), by rw [e3]; exact P2, y_a2, by rw [e3]; exact A2, by rw [e3]; exact B2⟩) (by decide) (by decide)
set_option maxRecDepth 65536 in
set_option maxHeartbeats 40000000 in
theorem k18_coefficients (l : Launch) (Z : State) (a0 : Array Value) (hw : ∀ d ∈ tables_1, d.before a0 Z = true) (h : Heap) (n0 : Nat) (Z0 : n0 ≤ h.size) (qa1 : Addr) (qa2 : Addr) (qa3 : Addr) (qd1 : UInt64) (qz1 : Int) (qi1 : Int32) (qk1 : ClassId) (qd2 : UInt64) (qz2 : Int) (qk2 : ClassId) (z_qa1 : n0 ≤ qa1) (z_qa2 : n0 ≤ qa2) (z_qa3 : n0 ≤ qa3) (ne_qa1_qa2 : qa1 ≠ qa2) (ne_qa1_qa3 : qa1 ≠ qa3) (ne_qa2_qa3 : qa2 ≠ qa3) (D_qd1 : FP.Core.DInt qz1 qd1) (B_qd1 : -6442450944 ≤ qz1 ∧ qz1 ≤ 6442450941) (D_qd2 : FP.Core.DInt qz2 qd2) (B_qd2 : -2147483648 ≤ qz2 ∧ qz2 ≤ 2147483647) (H1 : Exa Z h qa1 "com/example/shared_weights/sharedweights/LinearExpression") (H2 : Fld Z h qa1 "com/example/shared_weights/sharedweights/LinearExpression" "variables" "[I" (.ref qa2)) (H3 : Fld Z h qa1 "com/example/shared_weights/sharedweights/LinearExpression" "coefficients" "[D" (.ref qa3)) (H4 : Fld Z h qa1 "com/example/shared_weights/sharedweights/LinearExpression" "constant" "D" (.double qd1)) (H5 : Arv Z h qa2 qk1 .int (1 : Int32) [(.int qi1)] (.int (0 : Int32))) (H6 : Exa Z h qa2 "[I") (H7 : Arv Z h qa3 qk2 .double (1 : Int32) [(.double qd2)] (.double (0 : UInt64))) (H8 : Exa Z h qa3 "[D") :
    Con l Z (⟨"com/example/shared_weights/sharedweights/LinearExpression", "coefficients", "()[D"⟩ : MethodName) prog_23_method_3_code 1 (some (.array .double)) ⟨1, 1, 1, 14⟩ #[(.ref qa1)] h (fun v h' L => ∃ (uf1 : Addr), v = some (.ref uf1) ∧ Fr n0 L ∧ Keep h h' [] ∧ h.size ≤ uf1 ∧ Arv Z h' uf1 qk2 .double (1 : Int32) [(.double qd2)] (.double (0 : UInt64)) ∧ Exa Z h' uf1 "[D") := by
  refine con_of_go kk_6 (fun m => kk_14 m qa1) ?_
  intro p e s m below meth c T0 C X0 e0
  refine g_aloadN C X0 (pc' := 1) d9_0 rfl rfl rfl ?_
  refine g_getF C X0 (host := "") (Or.inl (hw _ (List.mem_of_getElem? (i := 42) rfl))) Via.refl e0 H3 d9_1 rfl ?_
  intro T1 X1 e1
  refine g_clone C X1 (hw _ (List.mem_of_getElem? (i := 70) rfl)) (hw _ (List.mem_of_getElem? (i := 71) rfl)) (hw _ (List.mem_of_getElem? (i := 61) rfl)) (hw _ (List.mem_of_getElem? (i := 59) rfl)) (hw _ (List.mem_of_getElem? (i := 72) rfl)) (hw _ (List.mem_of_getElem? (i := 73) rfl)) e1 H7 H8 d9_4 rfl 0 rfl (by decide) (by decide) 1 (by decide) (by decide) (by decide) rfl ?_
  intro T2 h2 a2 g2 X2 e2 E2 A2 B2
  have ne_qa1_a2 : qa1 ≠ a2 := Nat.ne_of_lt (by rw [g2]; exact H1.lt)
  have ne_qa2_a2 : qa2 ≠ a2 := Nat.ne_of_lt (by rw [g2]; exact H5.lt)
  have ne_qa3_a2 : qa3 ≠ a2 := Nat.ne_of_lt (by rw [g2]; exact H7.lt)
  have z_a2 : n0 ≤ a2 := by rw [g2]; exact Z0
  have y_a2 : h.size ≤ a2 := by rw [g2]; exact (Keep.refl h []).1
  have H1 := H1.ext E2
  have H2 := H2.ext E2
  have H3 := H3.ext E2
  have H4 := H4.ext E2
  have H5 := H5.ext E2
  have H6 := H6.ext E2
  have H7 := H7.ext E2
  have H8 := H8.ext E2
  have P2 := (Keep.refl h []).ext E2
  have Z2 : n0 ≤ h2.size := Nat.le_trans Z0 E2.1
  refine g_cast C X2 (hw _ (List.mem_of_getElem? (i := 74) rfl)) e2 (Ins.of_exa B2 (hw _ (List.mem_of_getElem? (i := 75) rfl))) d9_7 rfl ?_
  intro T3 X3 e3
  exact g_areturn C X3 d9_10 rfl rfl rfl (⟨a2, rfl, (Fr.nil n0), by rw [e3]; exact P2, y_a2, by rw [e3]; exact A2, by rw [e3]; exact B2⟩) (by decide) (by decide)
set_option maxRecDepth 65536 in
set_option maxHeartbeats 40000000 in
theorem law (l : Launch) (Z : State) (a0 : Array Value) (hw : ∀ d ∈ tables_1, d.before a0 Z = true) (p0 p1 p2 p3 p4 p5 : Int32) (h : Heap) (n0 : Nat) (Z0 : n0 ≤ h.size) :
    Con l Z x code maxLocals ret room_1 #[.int p0, .int p1, .int p2, .int p3, .int p4, .int p5] h (fun v _ L => v = some (.int 1) ∧ Fr n0 L) := by
  refine con_of_go pn0 (fun m => ef0 m p0 p1 p2 p3 p4 p5) ?_
  intro p e s m below meth c T0 C X0 e0
  refine g_iloadN C X0 (pc' := 1) at_0 rfl rfl ?_
  refine g_iconst C X0 (pc' := 2) at_1 (v := (1 : Int32)) (by decide) rfl ?_
  refine g_iand C X0 (pc' := 3) at_2 rfl ?_
  refine g_if C X0 at_3 (pc' := 10) (pc'' := 6) (by decide) (by decide) rfl (fun c3 => ?_) (fun c3 => ?_)
  · have c3 : (p0 &&& (1 : Int32)).toInt = 0 := c3
    refine g_iconst C X0 (pc' := 11) at_10 (v := (0 : Int32)) (by decide) rfl ?_
    refine g_istore C X0 (pc' := 13) at_11 (x := (0 : Int32)) rfl (l' := #[.val (.int p0), .val (.int p1), .val (.int p2), .val (.int p3), .val (.int p4), .val (.int p5), .val (.int (0 : Int32)), .unset, .unset, .unset, .unset, .unset, .unset, .unset, .unset]) rfl rfl ?_
    refine g_iloadN C X0 (pc' := 14) at_13 rfl rfl ?_
    refine g_iconst C X0 (pc' := 15) at_14 (v := (1 : Int32)) (by decide) rfl ?_
    refine g_ishr C X0 (pc' := 16) at_15 rfl ?_
    refine g_bipush C X0 (pc' := 18) at_16 (v := (31 : Int32)) (by decide) rfl ?_
    refine g_iand C X0 (pc' := 19) at_18 rfl ?_
    obtain ⟨i1, e_i1⟩ : ∃ z : Int32, z = (p0 >>> ((1 : Int32) &&& 31)) &&& (31 : Int32) := ⟨_, rfl⟩
    refine g_istore C X0 (pc' := 21) at_19 (x := i1) e_i1 (l' := #[.val (.int p0), .val (.int p1), .val (.int p2), .val (.int p3), .val (.int p4), .val (.int p5), .val (.int (0 : Int32)), .val (.int i1), .unset, .unset, .unset, .unset, .unset, .unset, .unset]) rfl rfl ?_
    have bcap : 0 ≤ i1.toInt ∧ i1.toInt ≤ 31 := by rw [e_i1]; have q := c_and (p0 >>> ((1 : Int32) &&& 31)) 31 (by decide); have q2 : (31 : Int32).toInt = 31 := (by decide); omega
    refine g_new C X0 (hw _ (List.mem_of_getElem? (i := 0) rfl)) (hw _ (List.mem_of_getElem? (i := 1) rfl)) (hw _ (List.mem_of_getElem? (i := 2) rfl)) e0 at_21 (by decide) (by decide) rfl ?_
    intro T1 h1 a1 g1 X1 e1 E1 A1 D1
    have z_a1 : n0 ≤ a1 := by rw [g1]; exact Z0
    have Z1 : n0 ≤ h1.size := Nat.le_trans Z0 E1.1
    have F1_1 : Fld Z h1 a1 "com/example/shared_weights/sharedweights/LinearExpression$Builder" "targets" "[I" .null := D1 (Or.inl (hw _ (List.mem_of_getElem? (i := 15) rfl))) (ty := (.array .int)) (by decide)
    have F1_2 : Fld Z h1 a1 "com/example/shared_weights/sharedweights/LinearExpression$Builder" "sums" "[D" .null := D1 (Or.inl (hw _ (List.mem_of_getElem? (i := 18) rfl))) (ty := (.array .double)) (by decide)
    have F1_3 : Fld Z h1 a1 "com/example/shared_weights/sharedweights/LinearExpression$Builder" "constant" "D" (.double (0 : UInt64)) := D1 (Or.inl (hw _ (List.mem_of_getElem? (i := 25) rfl))) (ty := .double) (by decide)
    have F1_4 : Fld Z h1 a1 "com/example/shared_weights/sharedweights/LinearExpression$Builder" "count" "I" (.int (0 : Int32)) := D1 (Or.inl (hw _ (List.mem_of_getElem? (i := 32) rfl))) (ty := .int) (by decide)
    have F1_5 : Fld Z h1 a1 "com/example/shared_weights/sharedweights/LinearExpression$Builder" "places" "Ljava/util/Map;" .null := D1 (Or.inl (hw _ (List.mem_of_getElem? (i := 86) rfl))) (ty := (.object "java/util/Map")) (by decide)
    refine g_dup C X1 (pc' := 25) at_24 rfl rfl ?_
    refine g_iload C X1 (pc' := 27) at_25 rfl rfl ?_
    refine g_callI C X1 (k1_init l Z a0 hw h1 n0 Z1 a1 i1 z_a1  bcap A1 F1_1 F1_2 F1_3 F1_4 F1_5) rfl (hw _ (List.mem_of_getElem? (i := 3) rfl)) (hw _ (List.mem_of_getElem? (i := 4) rfl)) (hw _ (List.mem_of_getElem? (i := 2) rfl)) (hw _ (List.mem_of_getElem? (i := 5) rfl)) (by decide) e1 at_27 rfl kk_2 a1 [(.int i1)] [(.ref a1)] rfl rfl rfl 1 rfl (by decide) (by decide) (by decide) (by decide) rfl ?_
    rintro _ T2 L2 X2 ⟨b2, b3, ri4, kc5, kc6, rfl, M2, K2, BB7, w_b2, ne_b2_b3, w_b3, FF8, FF9, FF10, FF11, FF12, FF13, FF14, FF15, FF16, FF17⟩
    have ne_a1_b2 : a1 ≠ b2 := Nat.ne_of_lt (Nat.lt_of_lt_of_le A1.lt w_b2)
    have z_b2 : n0 ≤ b2 := Nat.le_trans Z1 w_b2
    have ne_a1_b3 : a1 ≠ b3 := Nat.ne_of_lt (Nat.lt_of_lt_of_le A1.lt w_b3)
    have z_b3 : n0 ≤ b3 := Nat.le_trans Z1 w_b3
    have Z2 : n0 ≤ T2.heap.size := Nat.le_trans Z1 K2.1
    have N2 := Fr.app (Fr.nil n0) M2
    obtain ⟨h2, e2⟩ : ∃ z, T2.heap = z := ⟨_, rfl⟩
    rw [e2] at FF8 FF9 FF10 FF11 FF12 FF13 FF14 FF15 FF16 FF17 Z2
    show Go p.tables e below _ T2 (mkF m 30 #[.val (.int p0), .val (.int p1), .val (.int p2), .val (.int p3), .val (.int p4), .val (.int p5), .val (.int (0 : Int32)), .val (.int i1), .unset, .unset, .unset, .unset, .unset, .unset, .unset] [(.ref a1)])
    refine g_astore C X2 (pc' := 32) at_30 rfl (l' := #[.val (.int p0), .val (.int p1), .val (.int p2), .val (.int p3), .val (.int p4), .val (.int p5), .val (.int (0 : Int32)), .val (.int i1), .val (.ref a1), .unset, .unset, .unset, .unset, .unset, .unset]) rfl rfl ?_
    refine g_aload C X2 (pc' := 34) at_32 rfl rfl rfl ?_
    refine g_iloadN C X2 (pc' := 35) at_34 rfl rfl ?_
    refine g_i2d C X2 (pc' := 36) at_35 rfl ?_
    obtain ⟨d18, e_d18⟩ : ∃ z : UInt64, z = FP.i2d p1 := ⟨_, rfl⟩
    have D_d18 : FP.Core.DInt p1.toInt d18 := e_d18 ▸ (i2d_D p1)
    rw [← e_d18]
    refine g_callV C X2 (k2_addConstant l Z a0 hw h2 n0 Z2 a1 d18 p1.toInt b2 b3 ri4 kc5 kc6 z_a1 z_b2 z_b3 ne_a1_b2 ne_a1_b3 ne_b2_b3 D_d18 (own_b32 p1) BB7 FF8 FF9 FF10 FF11 FF12 FF13 FF14 FF15 FF16 FF17) (hw _ (List.mem_of_getElem? (i := 19) rfl)) (hw _ (List.mem_of_getElem? (i := 20) rfl)) (hw _ (List.mem_of_getElem? (i := 22) rfl)) (hw _ (List.mem_of_getElem? (i := 21) rfl)) (hw _ (List.mem_of_getElem? (i := 2) rfl)) (hw _ (List.mem_of_getElem? (i := 23) rfl)) (by decide) e2 FF8 at_36 rfl kk_4 [(.double d18)] [] rfl rfl rfl 0 rfl (by decide) (by decide) (by decide) (by decide) rfl ?_
    rintro _ T3 L3 X3 ⟨rd19, rfl, M3, K3, DD20, BB21, FF22, FF23, FF24, FF25, FF26, FF27⟩
    have FF14 := FF14.keep K3 (ninS (Ne.symm ne_a1_b2) nin0)
    have FF15 := FF15.keep K3
    have FF16 := FF16.keep K3 (ninS (Ne.symm ne_a1_b3) nin0)
    have FF17 := FF17.keep K3
    have Z3 : n0 ≤ T3.heap.size := Nat.le_trans Z2 K3.1
    have N3 := Fr.app N2 M3
    obtain ⟨h3, e3⟩ : ∃ z, T3.heap = z := ⟨_, rfl⟩
    rw [e3] at FF14 FF15 FF16 FF17 FF22 FF23 FF24 FF25 FF26 FF27 Z3
    show Go p.tables e below _ T3 (mkF m 39 #[.val (.int p0), .val (.int p1), .val (.int p2), .val (.int p3), .val (.int p4), .val (.int p5), .val (.int (0 : Int32)), .val (.int i1), .val (.ref a1), .unset, .unset, .unset, .unset, .unset, .unset] [(.ref a1)])
    refine g_aload C X3 (pc' := 41) at_39 rfl rfl rfl ?_
    refine g_acmpY C X3 at_41 rfl rfl (ac_same _).1 (pc' := 46) (by decide) (by decide) ?_
    refine g_iload C X3 (pc' := 48) at_46 rfl rfl ?_
    refine g_ifY C X3 at_48 (pc' := 62) (by decide) (by decide) (by decide) ?_
    refine g_aload C X3 (pc' := 64) at_62 rfl rfl rfl ?_
    refine g_iloadN C X3 (pc' := 65) at_64 rfl rfl ?_
    refine g_i2d C X3 (pc' := 66) at_65 rfl ?_
    obtain ⟨d28, e_d28⟩ : ∃ z : UInt64, z = FP.i2d p2 := ⟨_, rfl⟩
    have D_d28 : FP.Core.DInt p2.toInt d28 := e_d28 ▸ (i2d_D p2)
    rw [← e_d28]
    refine g_callV C X3 (k3_addConstant l Z a0 hw h3 n0 Z3 a1 d28 p2.toInt b2 b3 rd19 (0 + p1.toInt) ri4 kc5 kc6 z_a1 z_b2 z_b3 ne_a1_b2 ne_a1_b3 ne_b2_b3 D_d28 (own_b32 p2) DD20 BB21 BB7 FF22 FF23 FF24 FF25 FF26 FF27 FF14 FF15 FF16 FF17) (hw _ (List.mem_of_getElem? (i := 19) rfl)) (hw _ (List.mem_of_getElem? (i := 20) rfl)) (hw _ (List.mem_of_getElem? (i := 22) rfl)) (hw _ (List.mem_of_getElem? (i := 21) rfl)) (hw _ (List.mem_of_getElem? (i := 2) rfl)) (hw _ (List.mem_of_getElem? (i := 23) rfl)) (by decide) e3 FF22 at_66 rfl kk_4 [(.double d28)] [] rfl rfl rfl 0 rfl (by decide) (by decide) (by decide) (by decide) rfl ?_
    rintro _ T4 L4 X4 ⟨rd29, rfl, M4, K4, DD30, BB31, FF32, FF33, FF34, FF35, FF36, FF37⟩
    have FF14 := FF14.keep K4 (ninS (Ne.symm ne_a1_b2) nin0)
    have FF15 := FF15.keep K4
    have FF16 := FF16.keep K4 (ninS (Ne.symm ne_a1_b3) nin0)
    have FF17 := FF17.keep K4
    have Z4 : n0 ≤ T4.heap.size := Nat.le_trans Z3 K4.1
    have N4 := Fr.app N3 M4
    obtain ⟨h4, e4⟩ : ∃ z, T4.heap = z := ⟨_, rfl⟩
    rw [e4] at FF14 FF15 FF16 FF17 FF32 FF33 FF34 FF35 FF36 FF37 Z4
    show Go p.tables e below _ T4 (mkF m 69 #[.val (.int p0), .val (.int p1), .val (.int p2), .val (.int p3), .val (.int p4), .val (.int p5), .val (.int (0 : Int32)), .val (.int i1), .val (.ref a1), .unset, .unset, .unset, .unset, .unset, .unset] [(.ref a1)])
    refine g_aload C X4 (pc' := 71) at_69 rfl rfl rfl ?_
    refine g_acmpY C X4 at_71 rfl rfl (ac_same _).1 (pc' := 76) (by decide) (by decide) ?_
    refine g_aload C X4 (pc' := 78) at_76 rfl rfl rfl ?_
    refine g_iloadN C X4 (pc' := 79) at_78 rfl rfl ?_
    refine g_i2d C X4 (pc' := 80) at_79 rfl ?_
    obtain ⟨d38, e_d38⟩ : ∃ z : UInt64, z = FP.i2d p3 := ⟨_, rfl⟩
    have D_d38 : FP.Core.DInt p3.toInt d38 := e_d38 ▸ (i2d_D p3)
    rw [← e_d38]
    refine g_callV C X4 (k4_addConstant l Z a0 hw h4 n0 Z4 a1 d38 p3.toInt b2 b3 rd29 ((0 + p1.toInt) + p2.toInt) ri4 kc5 kc6 z_a1 z_b2 z_b3 ne_a1_b2 ne_a1_b3 ne_b2_b3 D_d38 (own_b32 p3) DD30 BB31 BB7 FF32 FF33 FF34 FF35 FF36 FF37 FF14 FF15 FF16 FF17) (hw _ (List.mem_of_getElem? (i := 19) rfl)) (hw _ (List.mem_of_getElem? (i := 20) rfl)) (hw _ (List.mem_of_getElem? (i := 22) rfl)) (hw _ (List.mem_of_getElem? (i := 21) rfl)) (hw _ (List.mem_of_getElem? (i := 2) rfl)) (hw _ (List.mem_of_getElem? (i := 23) rfl)) (by decide) e4 FF32 at_80 rfl kk_4 [(.double d38)] [] rfl rfl rfl 0 rfl (by decide) (by decide) (by decide) (by decide) rfl ?_
    rintro _ T5 L5 X5 ⟨rd39, rfl, M5, K5, DD40, BB41, FF42, FF43, FF44, FF45, FF46, FF47⟩
    have FF14 := FF14.keep K5 (ninS (Ne.symm ne_a1_b2) nin0)
    have FF15 := FF15.keep K5
    have FF16 := FF16.keep K5 (ninS (Ne.symm ne_a1_b3) nin0)
    have FF17 := FF17.keep K5
    have Z5 : n0 ≤ T5.heap.size := Nat.le_trans Z4 K5.1
    have N5 := Fr.app N4 M5
    obtain ⟨h5, e5⟩ : ∃ z, T5.heap = z := ⟨_, rfl⟩
    rw [e5] at FF14 FF15 FF16 FF17 FF42 FF43 FF44 FF45 FF46 FF47 Z5
    show Go p.tables e below _ T5 (mkF m 83 #[.val (.int p0), .val (.int p1), .val (.int p2), .val (.int p3), .val (.int p4), .val (.int p5), .val (.int (0 : Int32)), .val (.int i1), .val (.ref a1), .unset, .unset, .unset, .unset, .unset, .unset] [(.ref a1)])
    refine g_aload C X5 (pc' := 85) at_83 rfl rfl rfl ?_
    refine g_acmpY C X5 at_85 rfl rfl (ac_same _).1 (pc' := 90) (by decide) (by decide) ?_
    refine g_aload C X5 (pc' := 92) at_90 rfl rfl rfl ?_
    refine g_callV C X5 (k6_build l Z a0 hw h5 n0 Z5 a1 b2 b3 rd39 (((0 + p1.toInt) + p2.toInt) + p3.toInt) ri4 kc5 kc6 z_a1 z_b2 z_b3 ne_a1_b2 ne_a1_b3 ne_b2_b3 DD40 BB41 BB7 FF42 FF43 FF44 FF45 FF46 FF47 FF14 FF15 FF16 FF17) (hw _ (List.mem_of_getElem? (i := 26) rfl)) (hw _ (List.mem_of_getElem? (i := 27) rfl)) (hw _ (List.mem_of_getElem? (i := 29) rfl)) (hw _ (List.mem_of_getElem? (i := 28) rfl)) (hw _ (List.mem_of_getElem? (i := 2) rfl)) (hw _ (List.mem_of_getElem? (i := 30) rfl)) (by decide) e5 FF42 at_92 rfl kk_9 [] [] rfl rfl rfl 0 rfl (by decide) (by decide) (by decide) (by decide) rfl ?_
    rintro _ T6 L6 X6 ⟨b48, b49, b50, kc51, kc52, rfl, M6, K6, w_b48, ne_b48_b49, ne_b48_b50, w_b49, ne_b49_b50, w_b50, FF53, FF54, FF55, FF56, FF57, FF58, FF59, FF60⟩
    have ne_a1_b48 : a1 ≠ b48 := Nat.ne_of_lt (Nat.lt_of_lt_of_le FF42.lt w_b48)
    have ne_b2_b48 : b2 ≠ b48 := Nat.ne_of_lt (Nat.lt_of_lt_of_le FF14.lt w_b48)
    have ne_b3_b48 : b3 ≠ b48 := Nat.ne_of_lt (Nat.lt_of_lt_of_le FF16.lt w_b48)
    have z_b48 : n0 ≤ b48 := Nat.le_trans Z5 w_b48
    have ne_a1_b49 : a1 ≠ b49 := Nat.ne_of_lt (Nat.lt_of_lt_of_le FF42.lt w_b49)
    have ne_b2_b49 : b2 ≠ b49 := Nat.ne_of_lt (Nat.lt_of_lt_of_le FF14.lt w_b49)
    have ne_b3_b49 : b3 ≠ b49 := Nat.ne_of_lt (Nat.lt_of_lt_of_le FF16.lt w_b49)
    have z_b49 : n0 ≤ b49 := Nat.le_trans Z5 w_b49
    have ne_a1_b50 : a1 ≠ b50 := Nat.ne_of_lt (Nat.lt_of_lt_of_le FF42.lt w_b50)
    have ne_b2_b50 : b2 ≠ b50 := Nat.ne_of_lt (Nat.lt_of_lt_of_le FF14.lt w_b50)
    have ne_b3_b50 : b3 ≠ b50 := Nat.ne_of_lt (Nat.lt_of_lt_of_le FF16.lt w_b50)
    have z_b50 : n0 ≤ b50 := Nat.le_trans Z5 w_b50
    have FF14 := FF14.keep K6 nin0
    have FF15 := FF15.keep K6
    have FF16 := FF16.keep K6 nin0
    have FF17 := FF17.keep K6
    have FF42 := FF42.keep K6
    have FF43 := FF43.keep K6 nin0
    have FF44 := FF44.keep K6 nin0
    have FF45 := FF45.keep K6 nin0
    have FF46 := FF46.keep K6 nin0
    have FF47 := FF47.keep K6 nin0
    have Z6 : n0 ≤ T6.heap.size := Nat.le_trans Z5 K6.1
    have N6 := Fr.app N5 M6
    obtain ⟨h6, e6⟩ : ∃ z, T6.heap = z := ⟨_, rfl⟩
    rw [e6] at FF14 FF15 FF16 FF17 FF42 FF43 FF44 FF45 FF46 FF47 FF53 FF54 FF55 FF56 FF57 FF58 FF59 FF60 Z6
    show Go p.tables e below _ T6 (mkF m 95 #[.val (.int p0), .val (.int p1), .val (.int p2), .val (.int p3), .val (.int p4), .val (.int p5), .val (.int (0 : Int32)), .val (.int i1), .val (.ref a1), .unset, .unset, .unset, .unset, .unset, .unset] [(.ref b48)])
    refine g_astore C X6 (pc' := 97) at_95 rfl (l' := #[.val (.int p0), .val (.int p1), .val (.int p2), .val (.int p3), .val (.int p4), .val (.int p5), .val (.int (0 : Int32)), .val (.int i1), .val (.ref a1), .val (.ref b48), .unset, .unset, .unset, .unset, .unset]) rfl rfl ?_
    refine g_iloadN C X6 (pc' := 98) at_97 rfl rfl ?_
    refine g_i2l C X6 (pc' := 99) at_98 rfl ?_
    refine g_iloadN C X6 (pc' := 100) at_99 rfl rfl ?_
    refine g_i2l C X6 (pc' := 101) at_100 rfl ?_
    refine g_ladd C X6 (pc' := 102) at_101 rfl ?_
    refine g_iloadN C X6 (pc' := 103) at_102 rfl rfl ?_
    refine g_i2l C X6 (pc' := 104) at_103 rfl ?_
    refine g_ladd C X6 (pc' := 105) at_104 rfl ?_
    obtain ⟨j61, e_j61⟩ : ∃ z : Int64, z = (p1.toInt64 + p2.toInt64) + p3.toInt64 := ⟨_, rfl⟩
    refine g_lstore C X6 (pc' := 107) at_105 (x := j61) e_j61 (l' := #[.val (.int p0), .val (.int p1), .val (.int p2), .val (.int p3), .val (.int p4), .val (.int p5), .val (.int (0 : Int32)), .val (.int i1), .val (.ref a1), .val (.ref b48), .val (.long j61), .second, .unset, .unset, .unset]) rfl rfl ?_
    obtain ⟨n1, en1⟩ : ∃ z : Int, p1.toInt = z := ⟨_, rfl⟩
    have rg1 : -2147483648 ≤ n1 ∧ n1 ≤ 2147483647 := by rw [← en1]; exact own_b32 p1
    obtain ⟨n2, en2⟩ : ∃ z : Int, p2.toInt = z := ⟨_, rfl⟩
    have rg2 : -2147483648 ≤ n2 ∧ n2 ≤ 2147483647 := by rw [← en2]; exact own_b32 p2
    obtain ⟨n3, en3⟩ : ∃ z : Int, p3.toInt = z := ⟨_, rfl⟩
    have rg3 : -2147483648 ≤ n3 ∧ n3 ≤ 2147483647 := by rw [← en3]; exact own_b32 p3
    have em64 : (p1.toInt64).toInt = n1 := by rw [c_i2l]; exact en1
    have em65 : (p2.toInt64).toInt = n2 := by rw [c_i2l]; exact en2
    have em63 : (p1.toInt64 + p2.toInt64).toInt = n1 + n2 := by rw [own_add (by rw [em64, em65]; omega) (by rw [em64, em65]; omega), em64, em65]
    have rm63 : -4294967296 ≤ n1 + n2 ∧ n1 + n2 ≤ 4294967294 := by omega
    have em66 : (p3.toInt64).toInt = n3 := by rw [c_i2l]; exact en3
    have em62 : ((p1.toInt64 + p2.toInt64) + p3.toInt64).toInt = (n1 + n2) + n3 := by rw [own_add (by rw [em63, em66]; omega) (by rw [em63, em66]; omega), em63, em66]
    have rm62 : -6442450944 ≤ (n1 + n2) + n3 ∧ (n1 + n2) + n3 ≤ 6442450941 := by omega
    have ev_j61 : j61.toInt = (n1 + n2) + n3 := by rw [e_j61]; exact em62
    have esum : j61.toInt = (n1 + n2) + n3 := ev_j61
    refine g_aload C X6 (pc' := 109) at_107 rfl rfl rfl ?_
    refine g_callV C X6 (k7_constant l Z a0 hw h6 n0 Z6 b48 b49 b50 rd39 (((0 + p1.toInt) + p2.toInt) + p3.toInt) kc51 kc52 z_b48 z_b49 z_b50 ne_b48_b49 ne_b48_b50 ne_b49_b50 DD40 BB41 FF53 FF54 FF55 FF56 FF57 FF58 FF59 FF60) (hw _ (List.mem_of_getElem? (i := 46) rfl)) (hw _ (List.mem_of_getElem? (i := 47) rfl)) (hw _ (List.mem_of_getElem? (i := 49) rfl)) (hw _ (List.mem_of_getElem? (i := 48) rfl)) (hw _ (List.mem_of_getElem? (i := 35) rfl)) (hw _ (List.mem_of_getElem? (i := 50) rfl)) (by decide) e6 FF53 at_109 rfl kk_11 [] [] rfl rfl rfl 0 rfl (by decide) (by decide) (by decide) (by decide) rfl ?_
    rintro _ T7 _ X7 ⟨rfl, rfl, e7⟩
    rw [List.append_nil] at X7
    show Go p.tables e below _ T7 (mkF m 112 #[.val (.int p0), .val (.int p1), .val (.int p2), .val (.int p3), .val (.int p4), .val (.int p5), .val (.int (0 : Int32)), .val (.int i1), .val (.ref a1), .val (.ref b48), .val (.long j61), .second, .unset, .unset, .unset] [(.double rd39)])
    refine g_lload C X7 (pc' := 114) at_112 rfl rfl ?_
    refine g_l2d C X7 (pc' := 115) at_114 rfl ?_
    refine g_dcmpV C X7 (pc' := 116) at_115 (dcmp_cmpI DD40 (l2d_D (by rw [esum]; show _ ≤ 9007199254740992; omega)) _) rfl ?_
    refine g_if C X7 at_116 (pc' := 121) (pc'' := 119) (by decide) (by decide) rfl (fun c116 => ?_) (fun c116 => ?_)
    · have c116 : (cmpI (((0 + p1.toInt) + p2.toInt) + p3.toInt) j61.toInt).toInt = 0 := c116
      have c116 : ((0 + p1.toInt) + p2.toInt) + p3.toInt = j61.toInt := (cmpI_eq _ _).mp c116
      refine g_aload C X7 (pc' := 123) at_121 rfl rfl rfl ?_
      refine g_callV C X7 (k8_variables l Z a0 hw h6 n0 Z6 b48 b49 b50 rd39 (((0 + p1.toInt) + p2.toInt) + p3.toInt) kc51 kc52 z_b48 z_b49 z_b50 ne_b48_b49 ne_b48_b50 ne_b49_b50 DD40 BB41 FF53 FF54 FF55 FF56 FF57 FF58 FF59 FF60) (hw _ (List.mem_of_getElem? (i := 51) rfl)) (hw _ (List.mem_of_getElem? (i := 52) rfl)) (hw _ (List.mem_of_getElem? (i := 54) rfl)) (hw _ (List.mem_of_getElem? (i := 53) rfl)) (hw _ (List.mem_of_getElem? (i := 35) rfl)) (hw _ (List.mem_of_getElem? (i := 55) rfl)) (by decide) e7 FF53 at_123 rfl kk_13 [] [] rfl rfl rfl 0 rfl (by decide) (by decide) (by decide) (by decide) rfl ?_
      rintro _ T8 L8 X8 ⟨b67, rfl, M8, K8, w_b67, FF68, FF69⟩
      have ne_a1_b67 : a1 ≠ b67 := Nat.ne_of_lt (Nat.lt_of_lt_of_le FF42.lt w_b67)
      have ne_b2_b67 : b2 ≠ b67 := Nat.ne_of_lt (Nat.lt_of_lt_of_le FF14.lt w_b67)
      have ne_b3_b67 : b3 ≠ b67 := Nat.ne_of_lt (Nat.lt_of_lt_of_le FF16.lt w_b67)
      have ne_b48_b67 : b48 ≠ b67 := Nat.ne_of_lt (Nat.lt_of_lt_of_le FF53.lt w_b67)
      have ne_b49_b67 : b49 ≠ b67 := Nat.ne_of_lt (Nat.lt_of_lt_of_le FF57.lt w_b67)
      have ne_b50_b67 : b50 ≠ b67 := Nat.ne_of_lt (Nat.lt_of_lt_of_le FF59.lt w_b67)
      have z_b67 : n0 ≤ b67 := Nat.le_trans Z6 w_b67
      have FF14 := FF14.keep K8 nin0
      have FF15 := FF15.keep K8
      have FF16 := FF16.keep K8 nin0
      have FF17 := FF17.keep K8
      have FF42 := FF42.keep K8
      have FF43 := FF43.keep K8 nin0
      have FF44 := FF44.keep K8 nin0
      have FF45 := FF45.keep K8 nin0
      have FF46 := FF46.keep K8 nin0
      have FF47 := FF47.keep K8 nin0
      have FF53 := FF53.keep K8
      have FF54 := FF54.keep K8 nin0
      have FF55 := FF55.keep K8 nin0
      have FF56 := FF56.keep K8 nin0
      have FF57 := FF57.keep K8 nin0
      have FF58 := FF58.keep K8
      have FF59 := FF59.keep K8 nin0
      have FF60 := FF60.keep K8
      have Z8 : n0 ≤ T8.heap.size := Nat.le_trans Z6 K8.1
      have N8 := Fr.app N6 M8
      obtain ⟨h8, e8⟩ : ∃ z, T8.heap = z := ⟨_, rfl⟩
      rw [e8] at FF14 FF15 FF16 FF17 FF42 FF43 FF44 FF45 FF46 FF47 FF53 FF54 FF55 FF56 FF57 FF58 FF59 FF60 FF68 FF69 Z8
      show Go p.tables e below _ T8 (mkF m 126 #[.val (.int p0), .val (.int p1), .val (.int p2), .val (.int p3), .val (.int p4), .val (.int p5), .val (.int (0 : Int32)), .val (.int i1), .val (.ref a1), .val (.ref b48), .val (.long j61), .second, .unset, .unset, .unset] [(.ref b67)])
      refine g_astore C X8 (pc' := 128) at_126 rfl (l' := #[.val (.int p0), .val (.int p1), .val (.int p2), .val (.int p3), .val (.int p4), .val (.int p5), .val (.int (0 : Int32)), .val (.int i1), .val (.ref a1), .val (.ref b48), .val (.long j61), .second, .val (.ref b67), .unset, .unset]) rfl rfl ?_
      refine g_aload C X8 (pc' := 130) at_128 rfl rfl rfl ?_
      refine g_callV C X8 (k9_coefficients l Z a0 hw h8 n0 Z8 b48 b49 b50 rd39 (((0 + p1.toInt) + p2.toInt) + p3.toInt) kc51 kc52 z_b48 z_b49 z_b50 ne_b48_b49 ne_b48_b50 ne_b49_b50 DD40 BB41 FF53 FF54 FF55 FF56 FF57 FF58 FF59 FF60) (hw _ (List.mem_of_getElem? (i := 65) rfl)) (hw _ (List.mem_of_getElem? (i := 66) rfl)) (hw _ (List.mem_of_getElem? (i := 68) rfl)) (hw _ (List.mem_of_getElem? (i := 67) rfl)) (hw _ (List.mem_of_getElem? (i := 35) rfl)) (hw _ (List.mem_of_getElem? (i := 69) rfl)) (by decide) e8 FF53 at_130 rfl kk_15 [] [] rfl rfl rfl 0 rfl (by decide) (by decide) (by decide) (by decide) rfl ?_
      rintro _ T9 L9 X9 ⟨b70, rfl, M9, K9, w_b70, FF71, FF72⟩
      have ne_a1_b70 : a1 ≠ b70 := Nat.ne_of_lt (Nat.lt_of_lt_of_le FF42.lt w_b70)
      have ne_b2_b70 : b2 ≠ b70 := Nat.ne_of_lt (Nat.lt_of_lt_of_le FF14.lt w_b70)
      have ne_b3_b70 : b3 ≠ b70 := Nat.ne_of_lt (Nat.lt_of_lt_of_le FF16.lt w_b70)
      have ne_b48_b70 : b48 ≠ b70 := Nat.ne_of_lt (Nat.lt_of_lt_of_le FF53.lt w_b70)
      have ne_b49_b70 : b49 ≠ b70 := Nat.ne_of_lt (Nat.lt_of_lt_of_le FF57.lt w_b70)
      have ne_b50_b70 : b50 ≠ b70 := Nat.ne_of_lt (Nat.lt_of_lt_of_le FF59.lt w_b70)
      have ne_b67_b70 : b67 ≠ b70 := Nat.ne_of_lt (Nat.lt_of_lt_of_le FF68.lt w_b70)
      have z_b70 : n0 ≤ b70 := Nat.le_trans Z8 w_b70
      have FF14 := FF14.keep K9 nin0
      have FF15 := FF15.keep K9
      have FF16 := FF16.keep K9 nin0
      have FF17 := FF17.keep K9
      have FF42 := FF42.keep K9
      have FF43 := FF43.keep K9 nin0
      have FF44 := FF44.keep K9 nin0
      have FF45 := FF45.keep K9 nin0
      have FF46 := FF46.keep K9 nin0
      have FF47 := FF47.keep K9 nin0
      have FF53 := FF53.keep K9
      have FF54 := FF54.keep K9 nin0
      have FF55 := FF55.keep K9 nin0
      have FF56 := FF56.keep K9 nin0
      have FF57 := FF57.keep K9 nin0
      have FF58 := FF58.keep K9
      have FF59 := FF59.keep K9 nin0
      have FF60 := FF60.keep K9
      have FF68 := FF68.keep K9 nin0
      have FF69 := FF69.keep K9
      have Z9 : n0 ≤ T9.heap.size := Nat.le_trans Z8 K9.1
      have N9 := Fr.app N8 M9
      obtain ⟨h9, e9⟩ : ∃ z, T9.heap = z := ⟨_, rfl⟩
      rw [e9] at FF14 FF15 FF16 FF17 FF42 FF43 FF44 FF45 FF46 FF47 FF53 FF54 FF55 FF56 FF57 FF58 FF59 FF60 FF68 FF69 FF71 FF72 Z9
      show Go p.tables e below _ T9 (mkF m 133 #[.val (.int p0), .val (.int p1), .val (.int p2), .val (.int p3), .val (.int p4), .val (.int p5), .val (.int (0 : Int32)), .val (.int i1), .val (.ref a1), .val (.ref b48), .val (.long j61), .second, .val (.ref b67), .unset, .unset] [(.ref b70)])
      refine g_astore C X9 (pc' := 135) at_133 rfl (l' := #[.val (.int p0), .val (.int p1), .val (.int p2), .val (.int p3), .val (.int p4), .val (.int p5), .val (.int (0 : Int32)), .val (.int i1), .val (.ref a1), .val (.ref b48), .val (.long j61), .second, .val (.ref b67), .val (.ref b70), .unset]) rfl rfl ?_
      refine g_iload C X9 (pc' := 137) at_135 rfl rfl ?_
      refine g_ifY C X9 at_137 (pc' := 149) (by decide) (by decide) (by decide) ?_
      refine g_iconst C X9 (pc' := 150) at_149 (v := (0 : Int32)) (by decide) rfl ?_
      refine g_istore C X9 (pc' := 152) at_150 (x := (0 : Int32)) rfl (l' := #[.val (.int p0), .val (.int p1), .val (.int p2), .val (.int p3), .val (.int p4), .val (.int p5), .val (.int (0 : Int32)), .val (.int i1), .val (.ref a1), .val (.ref b48), .val (.long j61), .second, .val (.ref b67), .val (.ref b70), .val (.int (0 : Int32))]) rfl rfl ?_
      refine g_aload C X9 (pc' := 154) at_152 rfl rfl rfl ?_
      refine g_len C X9 (pc' := 155) e9 FF68 at_154 rfl ?_
      refine g_iload C X9 (pc' := 157) at_155 rfl rfl ?_
      refine g_icmpN C X9 at_157 (by decide) rfl ?_
      refine g_aload C X9 (pc' := 162) at_160 rfl rfl rfl ?_
      refine g_len C X9 (pc' := 163) e9 FF71 at_162 rfl ?_
      refine g_iload C X9 (pc' := 165) at_163 rfl rfl ?_
      refine g_icmpY C X9 at_165 (pc' := 170) (by decide) (by decide) (by decide) ?_
      refine g_iload C X9 (pc' := 172) at_170 rfl rfl ?_
      refine g_iconst C X9 (pc' := 173) at_172 (v := (1 : Int32)) (by decide) rfl ?_
      refine g_icmpY C X9 at_173 (pc' := 198) (by decide) (by decide) (by decide) ?_
      refine g_iconst C X9 (pc' := 199) at_198 (v := (1 : Int32)) (by decide) rfl ?_
      exact g_zreturn C X9 at_199 (w := 1) (by decide) ⟨rfl, N9⟩ (by decide) (by decide)
    · have c116 : ¬ ((cmpI (((0 + p1.toInt) + p2.toInt) + p3.toInt) j61.toInt).toInt = 0) := c116
      have c116 : ¬ (((0 + p1.toInt) + p2.toInt) + p3.toInt = j61.toInt) := fun q => c116 ((cmpI_eq _ _).mpr q)
      refine g_iconst C X7 (pc' := 120) at_119 (v := (0 : Int32)) (by decide) rfl ?_
      exfalso; omega
  · have c3 : ¬ ((p0 &&& (1 : Int32)).toInt = 0) := c3
    refine g_iconst C X0 (pc' := 7) at_6 (v := (1 : Int32)) (by decide) rfl ?_
    refine g_goto C X0 at_7 (pc' := 11) (by decide) (by decide) ?_
    refine g_istore C X0 (pc' := 13) at_11 (x := (1 : Int32)) rfl (l' := #[.val (.int p0), .val (.int p1), .val (.int p2), .val (.int p3), .val (.int p4), .val (.int p5), .val (.int (1 : Int32)), .unset, .unset, .unset, .unset, .unset, .unset, .unset, .unset]) rfl rfl ?_
    refine g_iloadN C X0 (pc' := 14) at_13 rfl rfl ?_
    refine g_iconst C X0 (pc' := 15) at_14 (v := (1 : Int32)) (by decide) rfl ?_
    refine g_ishr C X0 (pc' := 16) at_15 rfl ?_
    refine g_bipush C X0 (pc' := 18) at_16 (v := (31 : Int32)) (by decide) rfl ?_
    refine g_iand C X0 (pc' := 19) at_18 rfl ?_
    obtain ⟨i73, e_i73⟩ : ∃ z : Int32, z = (p0 >>> ((1 : Int32) &&& 31)) &&& (31 : Int32) := ⟨_, rfl⟩
    refine g_istore C X0 (pc' := 21) at_19 (x := i73) e_i73 (l' := #[.val (.int p0), .val (.int p1), .val (.int p2), .val (.int p3), .val (.int p4), .val (.int p5), .val (.int (1 : Int32)), .val (.int i73), .unset, .unset, .unset, .unset, .unset, .unset, .unset]) rfl rfl ?_
    have bcap : 0 ≤ i73.toInt ∧ i73.toInt ≤ 31 := by rw [e_i73]; have q := c_and (p0 >>> ((1 : Int32) &&& 31)) 31 (by decide); have q2 : (31 : Int32).toInt = 31 := (by decide); omega
    refine g_new C X0 (hw _ (List.mem_of_getElem? (i := 0) rfl)) (hw _ (List.mem_of_getElem? (i := 1) rfl)) (hw _ (List.mem_of_getElem? (i := 2) rfl)) e0 at_21 (by decide) (by decide) rfl ?_
    intro T10 h10 a10 g10 X10 e10 E10 A10 D10
    have z_a10 : n0 ≤ a10 := by rw [g10]; exact Z0
    have Z10 : n0 ≤ h10.size := Nat.le_trans Z0 E10.1
    have F10_1 : Fld Z h10 a10 "com/example/shared_weights/sharedweights/LinearExpression$Builder" "targets" "[I" .null := D10 (Or.inl (hw _ (List.mem_of_getElem? (i := 15) rfl))) (ty := (.array .int)) (by decide)
    have F10_2 : Fld Z h10 a10 "com/example/shared_weights/sharedweights/LinearExpression$Builder" "sums" "[D" .null := D10 (Or.inl (hw _ (List.mem_of_getElem? (i := 18) rfl))) (ty := (.array .double)) (by decide)
    have F10_3 : Fld Z h10 a10 "com/example/shared_weights/sharedweights/LinearExpression$Builder" "constant" "D" (.double (0 : UInt64)) := D10 (Or.inl (hw _ (List.mem_of_getElem? (i := 25) rfl))) (ty := .double) (by decide)
    have F10_4 : Fld Z h10 a10 "com/example/shared_weights/sharedweights/LinearExpression$Builder" "count" "I" (.int (0 : Int32)) := D10 (Or.inl (hw _ (List.mem_of_getElem? (i := 32) rfl))) (ty := .int) (by decide)
    have F10_5 : Fld Z h10 a10 "com/example/shared_weights/sharedweights/LinearExpression$Builder" "places" "Ljava/util/Map;" .null := D10 (Or.inl (hw _ (List.mem_of_getElem? (i := 86) rfl))) (ty := (.object "java/util/Map")) (by decide)
    refine g_dup C X10 (pc' := 25) at_24 rfl rfl ?_
    refine g_iload C X10 (pc' := 27) at_25 rfl rfl ?_
    refine g_callI C X10 (k1_init l Z a0 hw h10 n0 Z10 a10 i73 z_a10  bcap A10 F10_1 F10_2 F10_3 F10_4 F10_5) rfl (hw _ (List.mem_of_getElem? (i := 3) rfl)) (hw _ (List.mem_of_getElem? (i := 4) rfl)) (hw _ (List.mem_of_getElem? (i := 2) rfl)) (hw _ (List.mem_of_getElem? (i := 5) rfl)) (by decide) e10 at_27 rfl kk_2 a10 [(.int i73)] [(.ref a10)] rfl rfl rfl 1 rfl (by decide) (by decide) (by decide) (by decide) rfl ?_
    rintro _ T11 L11 X11 ⟨b74, b75, ri76, kc77, kc78, rfl, M11, K11, BB79, w_b74, ne_b74_b75, w_b75, FF80, FF81, FF82, FF83, FF84, FF85, FF86, FF87, FF88, FF89⟩
    have ne_a10_b74 : a10 ≠ b74 := Nat.ne_of_lt (Nat.lt_of_lt_of_le A10.lt w_b74)
    have z_b74 : n0 ≤ b74 := Nat.le_trans Z10 w_b74
    have ne_a10_b75 : a10 ≠ b75 := Nat.ne_of_lt (Nat.lt_of_lt_of_le A10.lt w_b75)
    have z_b75 : n0 ≤ b75 := Nat.le_trans Z10 w_b75
    have Z11 : n0 ≤ T11.heap.size := Nat.le_trans Z10 K11.1
    have N11 := Fr.app (Fr.nil n0) M11
    obtain ⟨h11, e11⟩ : ∃ z, T11.heap = z := ⟨_, rfl⟩
    rw [e11] at FF80 FF81 FF82 FF83 FF84 FF85 FF86 FF87 FF88 FF89 Z11
    show Go p.tables e below _ T11 (mkF m 30 #[.val (.int p0), .val (.int p1), .val (.int p2), .val (.int p3), .val (.int p4), .val (.int p5), .val (.int (1 : Int32)), .val (.int i73), .unset, .unset, .unset, .unset, .unset, .unset, .unset] [(.ref a10)])
    refine g_astore C X11 (pc' := 32) at_30 rfl (l' := #[.val (.int p0), .val (.int p1), .val (.int p2), .val (.int p3), .val (.int p4), .val (.int p5), .val (.int (1 : Int32)), .val (.int i73), .val (.ref a10), .unset, .unset, .unset, .unset, .unset, .unset]) rfl rfl ?_
    refine g_aload C X11 (pc' := 34) at_32 rfl rfl rfl ?_
    refine g_iloadN C X11 (pc' := 35) at_34 rfl rfl ?_
    refine g_i2d C X11 (pc' := 36) at_35 rfl ?_
    obtain ⟨d90, e_d90⟩ : ∃ z : UInt64, z = FP.i2d p1 := ⟨_, rfl⟩
    have D_d90 : FP.Core.DInt p1.toInt d90 := e_d90 ▸ (i2d_D p1)
    rw [← e_d90]
    refine g_callV C X11 (k2_addConstant l Z a0 hw h11 n0 Z11 a10 d90 p1.toInt b74 b75 ri76 kc77 kc78 z_a10 z_b74 z_b75 ne_a10_b74 ne_a10_b75 ne_b74_b75 D_d90 (own_b32 p1) BB79 FF80 FF81 FF82 FF83 FF84 FF85 FF86 FF87 FF88 FF89) (hw _ (List.mem_of_getElem? (i := 19) rfl)) (hw _ (List.mem_of_getElem? (i := 20) rfl)) (hw _ (List.mem_of_getElem? (i := 22) rfl)) (hw _ (List.mem_of_getElem? (i := 21) rfl)) (hw _ (List.mem_of_getElem? (i := 2) rfl)) (hw _ (List.mem_of_getElem? (i := 23) rfl)) (by decide) e11 FF80 at_36 rfl kk_4 [(.double d90)] [] rfl rfl rfl 0 rfl (by decide) (by decide) (by decide) (by decide) rfl ?_
    rintro _ T12 L12 X12 ⟨rd91, rfl, M12, K12, DD92, BB93, FF94, FF95, FF96, FF97, FF98, FF99⟩
    have FF86 := FF86.keep K12 (ninS (Ne.symm ne_a10_b74) nin0)
    have FF87 := FF87.keep K12
    have FF88 := FF88.keep K12 (ninS (Ne.symm ne_a10_b75) nin0)
    have FF89 := FF89.keep K12
    have Z12 : n0 ≤ T12.heap.size := Nat.le_trans Z11 K12.1
    have N12 := Fr.app N11 M12
    obtain ⟨h12, e12⟩ : ∃ z, T12.heap = z := ⟨_, rfl⟩
    rw [e12] at FF86 FF87 FF88 FF89 FF94 FF95 FF96 FF97 FF98 FF99 Z12
    show Go p.tables e below _ T12 (mkF m 39 #[.val (.int p0), .val (.int p1), .val (.int p2), .val (.int p3), .val (.int p4), .val (.int p5), .val (.int (1 : Int32)), .val (.int i73), .val (.ref a10), .unset, .unset, .unset, .unset, .unset, .unset] [(.ref a10)])
    refine g_aload C X12 (pc' := 41) at_39 rfl rfl rfl ?_
    refine g_acmpY C X12 at_41 rfl rfl (ac_same _).1 (pc' := 46) (by decide) (by decide) ?_
    refine g_iload C X12 (pc' := 48) at_46 rfl rfl ?_
    refine g_ifN C X12 at_48 (by decide) rfl ?_
    refine g_aload C X12 (pc' := 53) at_51 rfl rfl rfl ?_
    refine g_iload C X12 (pc' := 55) at_53 rfl rfl ?_
    refine g_iload C X12 (pc' := 57) at_55 rfl rfl ?_
    refine g_i2d C X12 (pc' := 58) at_57 rfl ?_
    obtain ⟨d100, e_d100⟩ : ∃ z : UInt64, z = FP.i2d p5 := ⟨_, rfl⟩
    have D_d100 : FP.Core.DInt p5.toInt d100 := e_d100 ▸ (i2d_D p5)
    rw [← e_d100]
    refine g_callV C X12 (k11_add l Z a0 hw h12 n0 Z12 a10 p4 d100 p5.toInt b74 b75 rd91 (0 + p1.toInt) ri76 kc77 kc78 z_a10 z_b74 z_b75 ne_a10_b74 ne_a10_b75 ne_b74_b75 D_d100 (own_b32 p5) DD92 BB93 BB79 FF94 FF95 FF96 FF97 FF98 FF99 FF86 FF87 FF88 FF89) (hw _ (List.mem_of_getElem? (i := 76) rfl)) (hw _ (List.mem_of_getElem? (i := 77) rfl)) (hw _ (List.mem_of_getElem? (i := 79) rfl)) (hw _ (List.mem_of_getElem? (i := 78) rfl)) (hw _ (List.mem_of_getElem? (i := 2) rfl)) (hw _ (List.mem_of_getElem? (i := 80) rfl)) (by decide) e12 FF94 at_58 rfl kk_19 [(.int p4), (.double d100)] [] rfl rfl rfl 0 rfl (by decide) (by decide) (by decide) (by decide) rfl ?_
    rintro _ T13 L13 X13 ⟨rfl, M13, K13, FF101, FF102, FF103, FF104, FF105, FF106, FF107, FF108, FF109, FF110⟩
    have Z13 : n0 ≤ T13.heap.size := Nat.le_trans Z12 K13.1
    have N13 := Fr.app N12 M13
    obtain ⟨h13, e13⟩ : ∃ z, T13.heap = z := ⟨_, rfl⟩
    rw [e13] at FF101 FF102 FF103 FF104 FF105 FF106 FF107 FF108 FF109 FF110 Z13
    show Go p.tables e below _ T13 (mkF m 61 #[.val (.int p0), .val (.int p1), .val (.int p2), .val (.int p3), .val (.int p4), .val (.int p5), .val (.int (1 : Int32)), .val (.int i73), .val (.ref a10), .unset, .unset, .unset, .unset, .unset, .unset] [(.ref a10)])
    refine g_pop C X13 (pc' := 62) at_61 rfl rfl ?_
    refine g_aload C X13 (pc' := 64) at_62 rfl rfl rfl ?_
    refine g_iloadN C X13 (pc' := 65) at_64 rfl rfl ?_
    refine g_i2d C X13 (pc' := 66) at_65 rfl ?_
    obtain ⟨d111, e_d111⟩ : ∃ z : UInt64, z = FP.i2d p2 := ⟨_, rfl⟩
    have D_d111 : FP.Core.DInt p2.toInt d111 := e_d111 ▸ (i2d_D p2)
    rw [← e_d111]
    refine g_callV C X13 (k12_addConstant l Z a0 hw h13 n0 Z13 a10 d111 p2.toInt b74 b75 rd91 (0 + p1.toInt) ri76 p4 kc77 d100 p5.toInt kc78 z_a10 z_b74 z_b75 ne_a10_b74 ne_a10_b75 ne_b74_b75 D_d111 (own_b32 p2) DD92 BB93 BB79 D_d100 (own_b32 p5) FF101 FF102 FF103 FF104 FF105 FF106 FF107 FF108 FF109 FF110) (hw _ (List.mem_of_getElem? (i := 19) rfl)) (hw _ (List.mem_of_getElem? (i := 20) rfl)) (hw _ (List.mem_of_getElem? (i := 22) rfl)) (hw _ (List.mem_of_getElem? (i := 21) rfl)) (hw _ (List.mem_of_getElem? (i := 2) rfl)) (hw _ (List.mem_of_getElem? (i := 23) rfl)) (by decide) e13 FF101 at_66 rfl kk_4 [(.double d111)] [] rfl rfl rfl 0 rfl (by decide) (by decide) (by decide) (by decide) rfl ?_
    rintro _ T14 L14 X14 ⟨rd112, rfl, M14, K14, DD113, BB114, FF115, FF116, FF117, FF118, FF119, FF120⟩
    have FF107 := FF107.keep K14 (ninS (Ne.symm ne_a10_b74) nin0)
    have FF108 := FF108.keep K14
    have FF109 := FF109.keep K14 (ninS (Ne.symm ne_a10_b75) nin0)
    have FF110 := FF110.keep K14
    have Z14 : n0 ≤ T14.heap.size := Nat.le_trans Z13 K14.1
    have N14 := Fr.app N13 M14
    obtain ⟨h14, e14⟩ : ∃ z, T14.heap = z := ⟨_, rfl⟩
    rw [e14] at FF107 FF108 FF109 FF110 FF115 FF116 FF117 FF118 FF119 FF120 Z14
    show Go p.tables e below _ T14 (mkF m 69 #[.val (.int p0), .val (.int p1), .val (.int p2), .val (.int p3), .val (.int p4), .val (.int p5), .val (.int (1 : Int32)), .val (.int i73), .val (.ref a10), .unset, .unset, .unset, .unset, .unset, .unset] [(.ref a10)])
    refine g_aload C X14 (pc' := 71) at_69 rfl rfl rfl ?_
    refine g_acmpY C X14 at_71 rfl rfl (ac_same _).1 (pc' := 76) (by decide) (by decide) ?_
    refine g_aload C X14 (pc' := 78) at_76 rfl rfl rfl ?_
    refine g_iloadN C X14 (pc' := 79) at_78 rfl rfl ?_
    refine g_i2d C X14 (pc' := 80) at_79 rfl ?_
    obtain ⟨d121, e_d121⟩ : ∃ z : UInt64, z = FP.i2d p3 := ⟨_, rfl⟩
    have D_d121 : FP.Core.DInt p3.toInt d121 := e_d121 ▸ (i2d_D p3)
    rw [← e_d121]
    refine g_callV C X14 (k13_addConstant l Z a0 hw h14 n0 Z14 a10 d121 p3.toInt b74 b75 rd112 ((0 + p1.toInt) + p2.toInt) ri76 p4 kc77 d100 p5.toInt kc78 z_a10 z_b74 z_b75 ne_a10_b74 ne_a10_b75 ne_b74_b75 D_d121 (own_b32 p3) DD113 BB114 BB79 D_d100 (own_b32 p5) FF115 FF116 FF117 FF118 FF119 FF120 FF107 FF108 FF109 FF110) (hw _ (List.mem_of_getElem? (i := 19) rfl)) (hw _ (List.mem_of_getElem? (i := 20) rfl)) (hw _ (List.mem_of_getElem? (i := 22) rfl)) (hw _ (List.mem_of_getElem? (i := 21) rfl)) (hw _ (List.mem_of_getElem? (i := 2) rfl)) (hw _ (List.mem_of_getElem? (i := 23) rfl)) (by decide) e14 FF115 at_80 rfl kk_4 [(.double d121)] [] rfl rfl rfl 0 rfl (by decide) (by decide) (by decide) (by decide) rfl ?_
    rintro _ T15 L15 X15 ⟨rd122, rfl, M15, K15, DD123, BB124, FF125, FF126, FF127, FF128, FF129, FF130⟩
    have FF107 := FF107.keep K15 (ninS (Ne.symm ne_a10_b74) nin0)
    have FF108 := FF108.keep K15
    have FF109 := FF109.keep K15 (ninS (Ne.symm ne_a10_b75) nin0)
    have FF110 := FF110.keep K15
    have Z15 : n0 ≤ T15.heap.size := Nat.le_trans Z14 K15.1
    have N15 := Fr.app N14 M15
    obtain ⟨h15, e15⟩ : ∃ z, T15.heap = z := ⟨_, rfl⟩
    rw [e15] at FF107 FF108 FF109 FF110 FF125 FF126 FF127 FF128 FF129 FF130 Z15
    show Go p.tables e below _ T15 (mkF m 83 #[.val (.int p0), .val (.int p1), .val (.int p2), .val (.int p3), .val (.int p4), .val (.int p5), .val (.int (1 : Int32)), .val (.int i73), .val (.ref a10), .unset, .unset, .unset, .unset, .unset, .unset] [(.ref a10)])
    refine g_aload C X15 (pc' := 85) at_83 rfl rfl rfl ?_
    refine g_acmpY C X15 at_85 rfl rfl (ac_same _).1 (pc' := 90) (by decide) (by decide) ?_
    refine g_aload C X15 (pc' := 92) at_90 rfl rfl rfl ?_
    refine g_callV C X15 (k15_build l Z a0 hw h15 n0 Z15 a10 b74 b75 rd122 (((0 + p1.toInt) + p2.toInt) + p3.toInt) ri76 p4 kc77 d100 p5.toInt kc78 z_a10 z_b74 z_b75 ne_a10_b74 ne_a10_b75 ne_b74_b75 DD123 BB124 BB79 D_d100 (own_b32 p5) FF125 FF126 FF127 FF128 FF129 FF130 FF107 FF108 FF109 FF110) (hw _ (List.mem_of_getElem? (i := 26) rfl)) (hw _ (List.mem_of_getElem? (i := 27) rfl)) (hw _ (List.mem_of_getElem? (i := 29) rfl)) (hw _ (List.mem_of_getElem? (i := 28) rfl)) (hw _ (List.mem_of_getElem? (i := 2) rfl)) (hw _ (List.mem_of_getElem? (i := 30) rfl)) (by decide) e15 FF125 at_92 rfl kk_9 [] [] rfl rfl rfl 0 rfl (by decide) (by decide) (by decide) (by decide) rfl ?_
    rintro w16 T16 L16 X16 Q16
    rcases Q16 with ⟨b131, b132, b133, kc134, kc135, rfl, M16, K16, cc136, w_b131, ne_b131_b132, ne_b131_b133, w_b132, ne_b132_b133, w_b133, FF137, FF138, FF139, FF140, FF141, FF142, FF143, FF144⟩ | ⟨b145, b146, b147, kc148, kc149, rfl, M16, K16, cc150, w_b145, ne_b145_b146, ne_b145_b147, w_b146, ne_b146_b147, w_b147, FF151, FF152, FF153, FF154, FF155, FF156, FF157, FF158⟩
    · have ne_a10_b131 : a10 ≠ b131 := Nat.ne_of_lt (Nat.lt_of_lt_of_le FF125.lt w_b131)
      have ne_b74_b131 : b74 ≠ b131 := Nat.ne_of_lt (Nat.lt_of_lt_of_le FF107.lt w_b131)
      have ne_b75_b131 : b75 ≠ b131 := Nat.ne_of_lt (Nat.lt_of_lt_of_le FF109.lt w_b131)
      have z_b131 : n0 ≤ b131 := Nat.le_trans Z15 w_b131
      have ne_a10_b132 : a10 ≠ b132 := Nat.ne_of_lt (Nat.lt_of_lt_of_le FF125.lt w_b132)
      have ne_b74_b132 : b74 ≠ b132 := Nat.ne_of_lt (Nat.lt_of_lt_of_le FF107.lt w_b132)
      have ne_b75_b132 : b75 ≠ b132 := Nat.ne_of_lt (Nat.lt_of_lt_of_le FF109.lt w_b132)
      have z_b132 : n0 ≤ b132 := Nat.le_trans Z15 w_b132
      have ne_a10_b133 : a10 ≠ b133 := Nat.ne_of_lt (Nat.lt_of_lt_of_le FF125.lt w_b133)
      have ne_b74_b133 : b74 ≠ b133 := Nat.ne_of_lt (Nat.lt_of_lt_of_le FF107.lt w_b133)
      have ne_b75_b133 : b75 ≠ b133 := Nat.ne_of_lt (Nat.lt_of_lt_of_le FF109.lt w_b133)
      have z_b133 : n0 ≤ b133 := Nat.le_trans Z15 w_b133
      have FF107 := FF107.keep K16 nin0
      have FF108 := FF108.keep K16
      have FF109 := FF109.keep K16 nin0
      have FF110 := FF110.keep K16
      have FF125 := FF125.keep K16
      have FF126 := FF126.keep K16 nin0
      have FF127 := FF127.keep K16 nin0
      have FF128 := FF128.keep K16 nin0
      have FF129 := FF129.keep K16 nin0
      have FF130 := FF130.keep K16 nin0
      have Z16 : n0 ≤ T16.heap.size := Nat.le_trans Z15 K16.1
      have N16 := Fr.app N15 M16
      obtain ⟨h16, e16⟩ : ∃ z, T16.heap = z := ⟨_, rfl⟩
      rw [e16] at FF107 FF108 FF109 FF110 FF125 FF126 FF127 FF128 FF129 FF130 FF137 FF138 FF139 FF140 FF141 FF142 FF143 FF144 Z16
      show Go p.tables e below _ T16 (mkF m 95 #[.val (.int p0), .val (.int p1), .val (.int p2), .val (.int p3), .val (.int p4), .val (.int p5), .val (.int (1 : Int32)), .val (.int i73), .val (.ref a10), .unset, .unset, .unset, .unset, .unset, .unset] [(.ref b131)])
      refine g_astore C X16 (pc' := 97) at_95 rfl (l' := #[.val (.int p0), .val (.int p1), .val (.int p2), .val (.int p3), .val (.int p4), .val (.int p5), .val (.int (1 : Int32)), .val (.int i73), .val (.ref a10), .val (.ref b131), .unset, .unset, .unset, .unset, .unset]) rfl rfl ?_
      refine g_iloadN C X16 (pc' := 98) at_97 rfl rfl ?_
      refine g_i2l C X16 (pc' := 99) at_98 rfl ?_
      refine g_iloadN C X16 (pc' := 100) at_99 rfl rfl ?_
      refine g_i2l C X16 (pc' := 101) at_100 rfl ?_
      refine g_ladd C X16 (pc' := 102) at_101 rfl ?_
      refine g_iloadN C X16 (pc' := 103) at_102 rfl rfl ?_
      refine g_i2l C X16 (pc' := 104) at_103 rfl ?_
      refine g_ladd C X16 (pc' := 105) at_104 rfl ?_
      obtain ⟨j159, e_j159⟩ : ∃ z : Int64, z = (p1.toInt64 + p2.toInt64) + p3.toInt64 := ⟨_, rfl⟩
      refine g_lstore C X16 (pc' := 107) at_105 (x := j159) e_j159 (l' := #[.val (.int p0), .val (.int p1), .val (.int p2), .val (.int p3), .val (.int p4), .val (.int p5), .val (.int (1 : Int32)), .val (.int i73), .val (.ref a10), .val (.ref b131), .val (.long j159), .second, .unset, .unset, .unset]) rfl rfl ?_
      obtain ⟨n1, en1⟩ : ∃ z : Int, p1.toInt = z := ⟨_, rfl⟩
      have rg1 : -2147483648 ≤ n1 ∧ n1 ≤ 2147483647 := by rw [← en1]; exact own_b32 p1
      obtain ⟨n2, en2⟩ : ∃ z : Int, p2.toInt = z := ⟨_, rfl⟩
      have rg2 : -2147483648 ≤ n2 ∧ n2 ≤ 2147483647 := by rw [← en2]; exact own_b32 p2
      obtain ⟨n3, en3⟩ : ∃ z : Int, p3.toInt = z := ⟨_, rfl⟩
      have rg3 : -2147483648 ≤ n3 ∧ n3 ≤ 2147483647 := by rw [← en3]; exact own_b32 p3
      have em162 : (p1.toInt64).toInt = n1 := by rw [c_i2l]; exact en1
      have em163 : (p2.toInt64).toInt = n2 := by rw [c_i2l]; exact en2
      have em161 : (p1.toInt64 + p2.toInt64).toInt = n1 + n2 := by rw [own_add (by rw [em162, em163]; omega) (by rw [em162, em163]; omega), em162, em163]
      have rm161 : -4294967296 ≤ n1 + n2 ∧ n1 + n2 ≤ 4294967294 := by omega
      have em164 : (p3.toInt64).toInt = n3 := by rw [c_i2l]; exact en3
      have em160 : ((p1.toInt64 + p2.toInt64) + p3.toInt64).toInt = (n1 + n2) + n3 := by rw [own_add (by rw [em161, em164]; omega) (by rw [em161, em164]; omega), em161, em164]
      have rm160 : -6442450944 ≤ (n1 + n2) + n3 ∧ (n1 + n2) + n3 ≤ 6442450941 := by omega
      have ev_j159 : j159.toInt = (n1 + n2) + n3 := by rw [e_j159]; exact em160
      have esum : j159.toInt = (n1 + n2) + n3 := ev_j159
      refine g_aload C X16 (pc' := 109) at_107 rfl rfl rfl ?_
      refine g_callV C X16 (k7_constant l Z a0 hw h16 n0 Z16 b131 b132 b133 rd122 (((0 + p1.toInt) + p2.toInt) + p3.toInt) kc134 kc135 z_b131 z_b132 z_b133 ne_b131_b132 ne_b131_b133 ne_b132_b133 DD123 BB124 FF137 FF138 FF139 FF140 FF141 FF142 FF143 FF144) (hw _ (List.mem_of_getElem? (i := 46) rfl)) (hw _ (List.mem_of_getElem? (i := 47) rfl)) (hw _ (List.mem_of_getElem? (i := 49) rfl)) (hw _ (List.mem_of_getElem? (i := 48) rfl)) (hw _ (List.mem_of_getElem? (i := 35) rfl)) (hw _ (List.mem_of_getElem? (i := 50) rfl)) (by decide) e16 FF137 at_109 rfl kk_11 [] [] rfl rfl rfl 0 rfl (by decide) (by decide) (by decide) (by decide) rfl ?_
      rintro _ T17 _ X17 ⟨rfl, rfl, e17⟩
      rw [List.append_nil] at X17
      show Go p.tables e below _ T17 (mkF m 112 #[.val (.int p0), .val (.int p1), .val (.int p2), .val (.int p3), .val (.int p4), .val (.int p5), .val (.int (1 : Int32)), .val (.int i73), .val (.ref a10), .val (.ref b131), .val (.long j159), .second, .unset, .unset, .unset] [(.double rd122)])
      refine g_lload C X17 (pc' := 114) at_112 rfl rfl ?_
      refine g_l2d C X17 (pc' := 115) at_114 rfl ?_
      refine g_dcmpV C X17 (pc' := 116) at_115 (dcmp_cmpI DD123 (l2d_D (by rw [esum]; show _ ≤ 9007199254740992; omega)) _) rfl ?_
      refine g_if C X17 at_116 (pc' := 121) (pc'' := 119) (by decide) (by decide) rfl (fun c116 => ?_) (fun c116 => ?_)
      · have c116 : (cmpI (((0 + p1.toInt) + p2.toInt) + p3.toInt) j159.toInt).toInt = 0 := c116
        have c116 : ((0 + p1.toInt) + p2.toInt) + p3.toInt = j159.toInt := (cmpI_eq _ _).mp c116
        refine g_aload C X17 (pc' := 123) at_121 rfl rfl rfl ?_
        refine g_callV C X17 (k8_variables l Z a0 hw h16 n0 Z16 b131 b132 b133 rd122 (((0 + p1.toInt) + p2.toInt) + p3.toInt) kc134 kc135 z_b131 z_b132 z_b133 ne_b131_b132 ne_b131_b133 ne_b132_b133 DD123 BB124 FF137 FF138 FF139 FF140 FF141 FF142 FF143 FF144) (hw _ (List.mem_of_getElem? (i := 51) rfl)) (hw _ (List.mem_of_getElem? (i := 52) rfl)) (hw _ (List.mem_of_getElem? (i := 54) rfl)) (hw _ (List.mem_of_getElem? (i := 53) rfl)) (hw _ (List.mem_of_getElem? (i := 35) rfl)) (hw _ (List.mem_of_getElem? (i := 55) rfl)) (by decide) e17 FF137 at_123 rfl kk_13 [] [] rfl rfl rfl 0 rfl (by decide) (by decide) (by decide) (by decide) rfl ?_
        rintro _ T18 L18 X18 ⟨b165, rfl, M18, K18, w_b165, FF166, FF167⟩
        have ne_a10_b165 : a10 ≠ b165 := Nat.ne_of_lt (Nat.lt_of_lt_of_le FF125.lt w_b165)
        have ne_b131_b165 : b131 ≠ b165 := Nat.ne_of_lt (Nat.lt_of_lt_of_le FF137.lt w_b165)
        have ne_b132_b165 : b132 ≠ b165 := Nat.ne_of_lt (Nat.lt_of_lt_of_le FF141.lt w_b165)
        have ne_b133_b165 : b133 ≠ b165 := Nat.ne_of_lt (Nat.lt_of_lt_of_le FF143.lt w_b165)
        have ne_b74_b165 : b74 ≠ b165 := Nat.ne_of_lt (Nat.lt_of_lt_of_le FF107.lt w_b165)
        have ne_b75_b165 : b75 ≠ b165 := Nat.ne_of_lt (Nat.lt_of_lt_of_le FF109.lt w_b165)
        have z_b165 : n0 ≤ b165 := Nat.le_trans Z16 w_b165
        have FF107 := FF107.keep K18 nin0
        have FF108 := FF108.keep K18
        have FF109 := FF109.keep K18 nin0
        have FF110 := FF110.keep K18
        have FF125 := FF125.keep K18
        have FF126 := FF126.keep K18 nin0
        have FF127 := FF127.keep K18 nin0
        have FF128 := FF128.keep K18 nin0
        have FF129 := FF129.keep K18 nin0
        have FF130 := FF130.keep K18 nin0
        have FF137 := FF137.keep K18
        have FF138 := FF138.keep K18 nin0
        have FF139 := FF139.keep K18 nin0
        have FF140 := FF140.keep K18 nin0
        have FF141 := FF141.keep K18 nin0
        have FF142 := FF142.keep K18
        have FF143 := FF143.keep K18 nin0
        have FF144 := FF144.keep K18
        have Z18 : n0 ≤ T18.heap.size := Nat.le_trans Z16 K18.1
        have N18 := Fr.app N16 M18
        obtain ⟨h18, e18⟩ : ∃ z, T18.heap = z := ⟨_, rfl⟩
        rw [e18] at FF107 FF108 FF109 FF110 FF125 FF126 FF127 FF128 FF129 FF130 FF137 FF138 FF139 FF140 FF141 FF142 FF143 FF144 FF166 FF167 Z18
        show Go p.tables e below _ T18 (mkF m 126 #[.val (.int p0), .val (.int p1), .val (.int p2), .val (.int p3), .val (.int p4), .val (.int p5), .val (.int (1 : Int32)), .val (.int i73), .val (.ref a10), .val (.ref b131), .val (.long j159), .second, .unset, .unset, .unset] [(.ref b165)])
        refine g_astore C X18 (pc' := 128) at_126 rfl (l' := #[.val (.int p0), .val (.int p1), .val (.int p2), .val (.int p3), .val (.int p4), .val (.int p5), .val (.int (1 : Int32)), .val (.int i73), .val (.ref a10), .val (.ref b131), .val (.long j159), .second, .val (.ref b165), .unset, .unset]) rfl rfl ?_
        refine g_aload C X18 (pc' := 130) at_128 rfl rfl rfl ?_
        refine g_callV C X18 (k9_coefficients l Z a0 hw h18 n0 Z18 b131 b132 b133 rd122 (((0 + p1.toInt) + p2.toInt) + p3.toInt) kc134 kc135 z_b131 z_b132 z_b133 ne_b131_b132 ne_b131_b133 ne_b132_b133 DD123 BB124 FF137 FF138 FF139 FF140 FF141 FF142 FF143 FF144) (hw _ (List.mem_of_getElem? (i := 65) rfl)) (hw _ (List.mem_of_getElem? (i := 66) rfl)) (hw _ (List.mem_of_getElem? (i := 68) rfl)) (hw _ (List.mem_of_getElem? (i := 67) rfl)) (hw _ (List.mem_of_getElem? (i := 35) rfl)) (hw _ (List.mem_of_getElem? (i := 69) rfl)) (by decide) e18 FF137 at_130 rfl kk_15 [] [] rfl rfl rfl 0 rfl (by decide) (by decide) (by decide) (by decide) rfl ?_
        rintro _ T19 L19 X19 ⟨b168, rfl, M19, K19, w_b168, FF169, FF170⟩
        have ne_a10_b168 : a10 ≠ b168 := Nat.ne_of_lt (Nat.lt_of_lt_of_le FF125.lt w_b168)
        have ne_b131_b168 : b131 ≠ b168 := Nat.ne_of_lt (Nat.lt_of_lt_of_le FF137.lt w_b168)
        have ne_b132_b168 : b132 ≠ b168 := Nat.ne_of_lt (Nat.lt_of_lt_of_le FF141.lt w_b168)
        have ne_b133_b168 : b133 ≠ b168 := Nat.ne_of_lt (Nat.lt_of_lt_of_le FF143.lt w_b168)
        have ne_b165_b168 : b165 ≠ b168 := Nat.ne_of_lt (Nat.lt_of_lt_of_le FF166.lt w_b168)
        have ne_b74_b168 : b74 ≠ b168 := Nat.ne_of_lt (Nat.lt_of_lt_of_le FF107.lt w_b168)
        have ne_b75_b168 : b75 ≠ b168 := Nat.ne_of_lt (Nat.lt_of_lt_of_le FF109.lt w_b168)
        have z_b168 : n0 ≤ b168 := Nat.le_trans Z18 w_b168
        have FF107 := FF107.keep K19 nin0
        have FF108 := FF108.keep K19
        have FF109 := FF109.keep K19 nin0
        have FF110 := FF110.keep K19
        have FF125 := FF125.keep K19
        have FF126 := FF126.keep K19 nin0
        have FF127 := FF127.keep K19 nin0
        have FF128 := FF128.keep K19 nin0
        have FF129 := FF129.keep K19 nin0
        have FF130 := FF130.keep K19 nin0
        have FF137 := FF137.keep K19
        have FF138 := FF138.keep K19 nin0
        have FF139 := FF139.keep K19 nin0
        have FF140 := FF140.keep K19 nin0
        have FF141 := FF141.keep K19 nin0
        have FF142 := FF142.keep K19
        have FF143 := FF143.keep K19 nin0
        have FF144 := FF144.keep K19
        have FF166 := FF166.keep K19 nin0
        have FF167 := FF167.keep K19
        have Z19 : n0 ≤ T19.heap.size := Nat.le_trans Z18 K19.1
        have N19 := Fr.app N18 M19
        obtain ⟨h19, e19⟩ : ∃ z, T19.heap = z := ⟨_, rfl⟩
        rw [e19] at FF107 FF108 FF109 FF110 FF125 FF126 FF127 FF128 FF129 FF130 FF137 FF138 FF139 FF140 FF141 FF142 FF143 FF144 FF166 FF167 FF169 FF170 Z19
        show Go p.tables e below _ T19 (mkF m 133 #[.val (.int p0), .val (.int p1), .val (.int p2), .val (.int p3), .val (.int p4), .val (.int p5), .val (.int (1 : Int32)), .val (.int i73), .val (.ref a10), .val (.ref b131), .val (.long j159), .second, .val (.ref b165), .unset, .unset] [(.ref b168)])
        refine g_astore C X19 (pc' := 135) at_133 rfl (l' := #[.val (.int p0), .val (.int p1), .val (.int p2), .val (.int p3), .val (.int p4), .val (.int p5), .val (.int (1 : Int32)), .val (.int i73), .val (.ref a10), .val (.ref b131), .val (.long j159), .second, .val (.ref b165), .val (.ref b168), .unset]) rfl rfl ?_
        refine g_iload C X19 (pc' := 137) at_135 rfl rfl ?_
        refine g_ifN C X19 at_137 (by decide) rfl ?_
        refine g_iload C X19 (pc' := 142) at_140 rfl rfl ?_
        refine g_ifY C X19 at_142 (pc' := 149) (by decide) (by decide) (cc136) ?_
        refine g_iconst C X19 (pc' := 150) at_149 (v := (0 : Int32)) (by decide) rfl ?_
        refine g_istore C X19 (pc' := 152) at_150 (x := (0 : Int32)) rfl (l' := #[.val (.int p0), .val (.int p1), .val (.int p2), .val (.int p3), .val (.int p4), .val (.int p5), .val (.int (1 : Int32)), .val (.int i73), .val (.ref a10), .val (.ref b131), .val (.long j159), .second, .val (.ref b165), .val (.ref b168), .val (.int (0 : Int32))]) rfl rfl ?_
        refine g_aload C X19 (pc' := 154) at_152 rfl rfl rfl ?_
        refine g_len C X19 (pc' := 155) e19 FF166 at_154 rfl ?_
        refine g_iload C X19 (pc' := 157) at_155 rfl rfl ?_
        refine g_icmpN C X19 at_157 (by decide) rfl ?_
        refine g_aload C X19 (pc' := 162) at_160 rfl rfl rfl ?_
        refine g_len C X19 (pc' := 163) e19 FF169 at_162 rfl ?_
        refine g_iload C X19 (pc' := 165) at_163 rfl rfl ?_
        refine g_icmpY C X19 at_165 (pc' := 170) (by decide) (by decide) (by decide) ?_
        refine g_iload C X19 (pc' := 172) at_170 rfl rfl ?_
        refine g_iconst C X19 (pc' := 173) at_172 (v := (1 : Int32)) (by decide) rfl ?_
        refine g_icmpY C X19 at_173 (pc' := 198) (by decide) (by decide) (by decide) ?_
        refine g_iconst C X19 (pc' := 199) at_198 (v := (1 : Int32)) (by decide) rfl ?_
        exact g_zreturn C X19 at_199 (w := 1) (by decide) ⟨rfl, N19⟩ (by decide) (by decide)
      · have c116 : ¬ ((cmpI (((0 + p1.toInt) + p2.toInt) + p3.toInt) j159.toInt).toInt = 0) := c116
        have c116 : ¬ (((0 + p1.toInt) + p2.toInt) + p3.toInt = j159.toInt) := fun q => c116 ((cmpI_eq _ _).mpr q)
        refine g_iconst C X17 (pc' := 120) at_119 (v := (0 : Int32)) (by decide) rfl ?_
        exfalso; omega
    · have ne_a10_b145 : a10 ≠ b145 := Nat.ne_of_lt (Nat.lt_of_lt_of_le FF125.lt w_b145)
      have ne_b74_b145 : b74 ≠ b145 := Nat.ne_of_lt (Nat.lt_of_lt_of_le FF107.lt w_b145)
      have ne_b75_b145 : b75 ≠ b145 := Nat.ne_of_lt (Nat.lt_of_lt_of_le FF109.lt w_b145)
      have z_b145 : n0 ≤ b145 := Nat.le_trans Z15 w_b145
      have ne_a10_b146 : a10 ≠ b146 := Nat.ne_of_lt (Nat.lt_of_lt_of_le FF125.lt w_b146)
      have ne_b74_b146 : b74 ≠ b146 := Nat.ne_of_lt (Nat.lt_of_lt_of_le FF107.lt w_b146)
      have ne_b75_b146 : b75 ≠ b146 := Nat.ne_of_lt (Nat.lt_of_lt_of_le FF109.lt w_b146)
      have z_b146 : n0 ≤ b146 := Nat.le_trans Z15 w_b146
      have ne_a10_b147 : a10 ≠ b147 := Nat.ne_of_lt (Nat.lt_of_lt_of_le FF125.lt w_b147)
      have ne_b74_b147 : b74 ≠ b147 := Nat.ne_of_lt (Nat.lt_of_lt_of_le FF107.lt w_b147)
      have ne_b75_b147 : b75 ≠ b147 := Nat.ne_of_lt (Nat.lt_of_lt_of_le FF109.lt w_b147)
      have z_b147 : n0 ≤ b147 := Nat.le_trans Z15 w_b147
      have FF107 := FF107.keep K16 nin0
      have FF108 := FF108.keep K16
      have FF109 := FF109.keep K16 nin0
      have FF110 := FF110.keep K16
      have FF125 := FF125.keep K16
      have FF126 := FF126.keep K16 nin0
      have FF127 := FF127.keep K16 nin0
      have FF128 := FF128.keep K16 nin0
      have FF129 := FF129.keep K16 nin0
      have FF130 := FF130.keep K16 nin0
      have Z16 : n0 ≤ T16.heap.size := Nat.le_trans Z15 K16.1
      have N16 := Fr.app N15 M16
      obtain ⟨h16, e16⟩ : ∃ z, T16.heap = z := ⟨_, rfl⟩
      rw [e16] at FF107 FF108 FF109 FF110 FF125 FF126 FF127 FF128 FF129 FF130 FF151 FF152 FF153 FF154 FF155 FF156 FF157 FF158 Z16
      show Go p.tables e below _ T16 (mkF m 95 #[.val (.int p0), .val (.int p1), .val (.int p2), .val (.int p3), .val (.int p4), .val (.int p5), .val (.int (1 : Int32)), .val (.int i73), .val (.ref a10), .unset, .unset, .unset, .unset, .unset, .unset] [(.ref b145)])
      refine g_astore C X16 (pc' := 97) at_95 rfl (l' := #[.val (.int p0), .val (.int p1), .val (.int p2), .val (.int p3), .val (.int p4), .val (.int p5), .val (.int (1 : Int32)), .val (.int i73), .val (.ref a10), .val (.ref b145), .unset, .unset, .unset, .unset, .unset]) rfl rfl ?_
      refine g_iloadN C X16 (pc' := 98) at_97 rfl rfl ?_
      refine g_i2l C X16 (pc' := 99) at_98 rfl ?_
      refine g_iloadN C X16 (pc' := 100) at_99 rfl rfl ?_
      refine g_i2l C X16 (pc' := 101) at_100 rfl ?_
      refine g_ladd C X16 (pc' := 102) at_101 rfl ?_
      refine g_iloadN C X16 (pc' := 103) at_102 rfl rfl ?_
      refine g_i2l C X16 (pc' := 104) at_103 rfl ?_
      refine g_ladd C X16 (pc' := 105) at_104 rfl ?_
      obtain ⟨j171, e_j171⟩ : ∃ z : Int64, z = (p1.toInt64 + p2.toInt64) + p3.toInt64 := ⟨_, rfl⟩
      refine g_lstore C X16 (pc' := 107) at_105 (x := j171) e_j171 (l' := #[.val (.int p0), .val (.int p1), .val (.int p2), .val (.int p3), .val (.int p4), .val (.int p5), .val (.int (1 : Int32)), .val (.int i73), .val (.ref a10), .val (.ref b145), .val (.long j171), .second, .unset, .unset, .unset]) rfl rfl ?_
      obtain ⟨n1, en1⟩ : ∃ z : Int, p1.toInt = z := ⟨_, rfl⟩
      have rg1 : -2147483648 ≤ n1 ∧ n1 ≤ 2147483647 := by rw [← en1]; exact own_b32 p1
      obtain ⟨n2, en2⟩ : ∃ z : Int, p2.toInt = z := ⟨_, rfl⟩
      have rg2 : -2147483648 ≤ n2 ∧ n2 ≤ 2147483647 := by rw [← en2]; exact own_b32 p2
      obtain ⟨n3, en3⟩ : ∃ z : Int, p3.toInt = z := ⟨_, rfl⟩
      have rg3 : -2147483648 ≤ n3 ∧ n3 ≤ 2147483647 := by rw [← en3]; exact own_b32 p3
      have em174 : (p1.toInt64).toInt = n1 := by rw [c_i2l]; exact en1
      have em175 : (p2.toInt64).toInt = n2 := by rw [c_i2l]; exact en2
      have em173 : (p1.toInt64 + p2.toInt64).toInt = n1 + n2 := by rw [own_add (by rw [em174, em175]; omega) (by rw [em174, em175]; omega), em174, em175]
      have rm173 : -4294967296 ≤ n1 + n2 ∧ n1 + n2 ≤ 4294967294 := by omega
      have em176 : (p3.toInt64).toInt = n3 := by rw [c_i2l]; exact en3
      have em172 : ((p1.toInt64 + p2.toInt64) + p3.toInt64).toInt = (n1 + n2) + n3 := by rw [own_add (by rw [em173, em176]; omega) (by rw [em173, em176]; omega), em173, em176]
      have rm172 : -6442450944 ≤ (n1 + n2) + n3 ∧ (n1 + n2) + n3 ≤ 6442450941 := by omega
      have ev_j171 : j171.toInt = (n1 + n2) + n3 := by rw [e_j171]; exact em172
      have esum : j171.toInt = (n1 + n2) + n3 := ev_j171
      refine g_aload C X16 (pc' := 109) at_107 rfl rfl rfl ?_
      refine g_callV C X16 (k16_constant l Z a0 hw h16 n0 Z16 b145 b146 b147 rd122 (((0 + p1.toInt) + p2.toInt) + p3.toInt) p4 kc148 d100 p5.toInt kc149 z_b145 z_b146 z_b147 ne_b145_b146 ne_b145_b147 ne_b146_b147 DD123 BB124 D_d100 (own_b32 p5) FF151 FF152 FF153 FF154 FF155 FF156 FF157 FF158) (hw _ (List.mem_of_getElem? (i := 46) rfl)) (hw _ (List.mem_of_getElem? (i := 47) rfl)) (hw _ (List.mem_of_getElem? (i := 49) rfl)) (hw _ (List.mem_of_getElem? (i := 48) rfl)) (hw _ (List.mem_of_getElem? (i := 35) rfl)) (hw _ (List.mem_of_getElem? (i := 50) rfl)) (by decide) e16 FF151 at_109 rfl kk_11 [] [] rfl rfl rfl 0 rfl (by decide) (by decide) (by decide) (by decide) rfl ?_
      rintro _ T20 _ X20 ⟨rfl, rfl, e20⟩
      rw [List.append_nil] at X20
      show Go p.tables e below _ T20 (mkF m 112 #[.val (.int p0), .val (.int p1), .val (.int p2), .val (.int p3), .val (.int p4), .val (.int p5), .val (.int (1 : Int32)), .val (.int i73), .val (.ref a10), .val (.ref b145), .val (.long j171), .second, .unset, .unset, .unset] [(.double rd122)])
      refine g_lload C X20 (pc' := 114) at_112 rfl rfl ?_
      refine g_l2d C X20 (pc' := 115) at_114 rfl ?_
      refine g_dcmpV C X20 (pc' := 116) at_115 (dcmp_cmpI DD123 (l2d_D (by rw [esum]; show _ ≤ 9007199254740992; omega)) _) rfl ?_
      refine g_if C X20 at_116 (pc' := 121) (pc'' := 119) (by decide) (by decide) rfl (fun c116 => ?_) (fun c116 => ?_)
      · have c116 : (cmpI (((0 + p1.toInt) + p2.toInt) + p3.toInt) j171.toInt).toInt = 0 := c116
        have c116 : ((0 + p1.toInt) + p2.toInt) + p3.toInt = j171.toInt := (cmpI_eq _ _).mp c116
        refine g_aload C X20 (pc' := 123) at_121 rfl rfl rfl ?_
        refine g_callV C X20 (k17_variables l Z a0 hw h16 n0 Z16 b145 b146 b147 rd122 (((0 + p1.toInt) + p2.toInt) + p3.toInt) p4 kc148 d100 p5.toInt kc149 z_b145 z_b146 z_b147 ne_b145_b146 ne_b145_b147 ne_b146_b147 DD123 BB124 D_d100 (own_b32 p5) FF151 FF152 FF153 FF154 FF155 FF156 FF157 FF158) (hw _ (List.mem_of_getElem? (i := 51) rfl)) (hw _ (List.mem_of_getElem? (i := 52) rfl)) (hw _ (List.mem_of_getElem? (i := 54) rfl)) (hw _ (List.mem_of_getElem? (i := 53) rfl)) (hw _ (List.mem_of_getElem? (i := 35) rfl)) (hw _ (List.mem_of_getElem? (i := 55) rfl)) (by decide) e20 FF151 at_123 rfl kk_13 [] [] rfl rfl rfl 0 rfl (by decide) (by decide) (by decide) (by decide) rfl ?_
        rintro _ T21 L21 X21 ⟨b177, rfl, M21, K21, w_b177, FF178, FF179⟩
        have ne_a10_b177 : a10 ≠ b177 := Nat.ne_of_lt (Nat.lt_of_lt_of_le FF125.lt w_b177)
        have ne_b145_b177 : b145 ≠ b177 := Nat.ne_of_lt (Nat.lt_of_lt_of_le FF151.lt w_b177)
        have ne_b146_b177 : b146 ≠ b177 := Nat.ne_of_lt (Nat.lt_of_lt_of_le FF155.lt w_b177)
        have ne_b147_b177 : b147 ≠ b177 := Nat.ne_of_lt (Nat.lt_of_lt_of_le FF157.lt w_b177)
        have ne_b74_b177 : b74 ≠ b177 := Nat.ne_of_lt (Nat.lt_of_lt_of_le FF107.lt w_b177)
        have ne_b75_b177 : b75 ≠ b177 := Nat.ne_of_lt (Nat.lt_of_lt_of_le FF109.lt w_b177)
        have z_b177 : n0 ≤ b177 := Nat.le_trans Z16 w_b177
        have FF107 := FF107.keep K21 nin0
        have FF108 := FF108.keep K21
        have FF109 := FF109.keep K21 nin0
        have FF110 := FF110.keep K21
        have FF125 := FF125.keep K21
        have FF126 := FF126.keep K21 nin0
        have FF127 := FF127.keep K21 nin0
        have FF128 := FF128.keep K21 nin0
        have FF129 := FF129.keep K21 nin0
        have FF130 := FF130.keep K21 nin0
        have FF151 := FF151.keep K21
        have FF152 := FF152.keep K21 nin0
        have FF153 := FF153.keep K21 nin0
        have FF154 := FF154.keep K21 nin0
        have FF155 := FF155.keep K21 nin0
        have FF156 := FF156.keep K21
        have FF157 := FF157.keep K21 nin0
        have FF158 := FF158.keep K21
        have Z21 : n0 ≤ T21.heap.size := Nat.le_trans Z16 K21.1
        have N21 := Fr.app N16 M21
        obtain ⟨h21, e21⟩ : ∃ z, T21.heap = z := ⟨_, rfl⟩
        rw [e21] at FF107 FF108 FF109 FF110 FF125 FF126 FF127 FF128 FF129 FF130 FF151 FF152 FF153 FF154 FF155 FF156 FF157 FF158 FF178 FF179 Z21
        show Go p.tables e below _ T21 (mkF m 126 #[.val (.int p0), .val (.int p1), .val (.int p2), .val (.int p3), .val (.int p4), .val (.int p5), .val (.int (1 : Int32)), .val (.int i73), .val (.ref a10), .val (.ref b145), .val (.long j171), .second, .unset, .unset, .unset] [(.ref b177)])
        refine g_astore C X21 (pc' := 128) at_126 rfl (l' := #[.val (.int p0), .val (.int p1), .val (.int p2), .val (.int p3), .val (.int p4), .val (.int p5), .val (.int (1 : Int32)), .val (.int i73), .val (.ref a10), .val (.ref b145), .val (.long j171), .second, .val (.ref b177), .unset, .unset]) rfl rfl ?_
        refine g_aload C X21 (pc' := 130) at_128 rfl rfl rfl ?_
        refine g_callV C X21 (k18_coefficients l Z a0 hw h21 n0 Z21 b145 b146 b147 rd122 (((0 + p1.toInt) + p2.toInt) + p3.toInt) p4 kc148 d100 p5.toInt kc149 z_b145 z_b146 z_b147 ne_b145_b146 ne_b145_b147 ne_b146_b147 DD123 BB124 D_d100 (own_b32 p5) FF151 FF152 FF153 FF154 FF155 FF156 FF157 FF158) (hw _ (List.mem_of_getElem? (i := 65) rfl)) (hw _ (List.mem_of_getElem? (i := 66) rfl)) (hw _ (List.mem_of_getElem? (i := 68) rfl)) (hw _ (List.mem_of_getElem? (i := 67) rfl)) (hw _ (List.mem_of_getElem? (i := 35) rfl)) (hw _ (List.mem_of_getElem? (i := 69) rfl)) (by decide) e21 FF151 at_130 rfl kk_15 [] [] rfl rfl rfl 0 rfl (by decide) (by decide) (by decide) (by decide) rfl ?_
        rintro _ T22 L22 X22 ⟨b180, rfl, M22, K22, w_b180, FF181, FF182⟩
        have ne_a10_b180 : a10 ≠ b180 := Nat.ne_of_lt (Nat.lt_of_lt_of_le FF125.lt w_b180)
        have ne_b145_b180 : b145 ≠ b180 := Nat.ne_of_lt (Nat.lt_of_lt_of_le FF151.lt w_b180)
        have ne_b146_b180 : b146 ≠ b180 := Nat.ne_of_lt (Nat.lt_of_lt_of_le FF155.lt w_b180)
        have ne_b147_b180 : b147 ≠ b180 := Nat.ne_of_lt (Nat.lt_of_lt_of_le FF157.lt w_b180)
        have ne_b177_b180 : b177 ≠ b180 := Nat.ne_of_lt (Nat.lt_of_lt_of_le FF178.lt w_b180)
        have ne_b74_b180 : b74 ≠ b180 := Nat.ne_of_lt (Nat.lt_of_lt_of_le FF107.lt w_b180)
        have ne_b75_b180 : b75 ≠ b180 := Nat.ne_of_lt (Nat.lt_of_lt_of_le FF109.lt w_b180)
        have z_b180 : n0 ≤ b180 := Nat.le_trans Z21 w_b180
        have FF107 := FF107.keep K22 nin0
        have FF108 := FF108.keep K22
        have FF109 := FF109.keep K22 nin0
        have FF110 := FF110.keep K22
        have FF125 := FF125.keep K22
        have FF126 := FF126.keep K22 nin0
        have FF127 := FF127.keep K22 nin0
        have FF128 := FF128.keep K22 nin0
        have FF129 := FF129.keep K22 nin0
        have FF130 := FF130.keep K22 nin0
        have FF151 := FF151.keep K22
        have FF152 := FF152.keep K22 nin0
        have FF153 := FF153.keep K22 nin0
        have FF154 := FF154.keep K22 nin0
        have FF155 := FF155.keep K22 nin0
        have FF156 := FF156.keep K22
        have FF157 := FF157.keep K22 nin0
        have FF158 := FF158.keep K22
        have FF178 := FF178.keep K22 nin0
        have FF179 := FF179.keep K22
        have Z22 : n0 ≤ T22.heap.size := Nat.le_trans Z21 K22.1
        have N22 := Fr.app N21 M22
        obtain ⟨h22, e22⟩ : ∃ z, T22.heap = z := ⟨_, rfl⟩
        rw [e22] at FF107 FF108 FF109 FF110 FF125 FF126 FF127 FF128 FF129 FF130 FF151 FF152 FF153 FF154 FF155 FF156 FF157 FF158 FF178 FF179 FF181 FF182 Z22
        show Go p.tables e below _ T22 (mkF m 133 #[.val (.int p0), .val (.int p1), .val (.int p2), .val (.int p3), .val (.int p4), .val (.int p5), .val (.int (1 : Int32)), .val (.int i73), .val (.ref a10), .val (.ref b145), .val (.long j171), .second, .val (.ref b177), .unset, .unset] [(.ref b180)])
        refine g_astore C X22 (pc' := 135) at_133 rfl (l' := #[.val (.int p0), .val (.int p1), .val (.int p2), .val (.int p3), .val (.int p4), .val (.int p5), .val (.int (1 : Int32)), .val (.int i73), .val (.ref a10), .val (.ref b145), .val (.long j171), .second, .val (.ref b177), .val (.ref b180), .unset]) rfl rfl ?_
        refine g_iload C X22 (pc' := 137) at_135 rfl rfl ?_
        refine g_ifN C X22 at_137 (by decide) rfl ?_
        refine g_iload C X22 (pc' := 142) at_140 rfl rfl ?_
        refine g_ifN C X22 at_142 (cc150) rfl ?_
        refine g_iconst C X22 (pc' := 146) at_145 (v := (1 : Int32)) (by decide) rfl ?_
        refine g_goto C X22 at_146 (pc' := 150) (by decide) (by decide) ?_
        refine g_istore C X22 (pc' := 152) at_150 (x := (1 : Int32)) rfl (l' := #[.val (.int p0), .val (.int p1), .val (.int p2), .val (.int p3), .val (.int p4), .val (.int p5), .val (.int (1 : Int32)), .val (.int i73), .val (.ref a10), .val (.ref b145), .val (.long j171), .second, .val (.ref b177), .val (.ref b180), .val (.int (1 : Int32))]) rfl rfl ?_
        refine g_aload C X22 (pc' := 154) at_152 rfl rfl rfl ?_
        refine g_len C X22 (pc' := 155) e22 FF178 at_154 rfl ?_
        refine g_iload C X22 (pc' := 157) at_155 rfl rfl ?_
        refine g_icmpN C X22 at_157 (by decide) rfl ?_
        refine g_aload C X22 (pc' := 162) at_160 rfl rfl rfl ?_
        refine g_len C X22 (pc' := 163) e22 FF181 at_162 rfl ?_
        refine g_iload C X22 (pc' := 165) at_163 rfl rfl ?_
        refine g_icmpY C X22 at_165 (pc' := 170) (by decide) (by decide) (by decide) ?_
        refine g_iload C X22 (pc' := 172) at_170 rfl rfl ?_
        refine g_iconst C X22 (pc' := 173) at_172 (v := (1 : Int32)) (by decide) rfl ?_
        refine g_icmpN C X22 at_173 (by decide) rfl ?_
        refine g_aload C X22 (pc' := 178) at_176 rfl rfl rfl ?_
        refine g_iconst C X22 (pc' := 179) at_178 (v := (0 : Int32)) (by decide) rfl ?_
        refine g_iaload C X22 (pc' := 180) e22 FF178 (by decide) (by decide) 0 (by decide) rfl at_179 rfl ?_
        refine g_iload C X22 (pc' := 182) at_180 rfl rfl ?_
        refine g_icmp C X22 at_182 (pc' := 196) (pc'' := 185) (by decide) (by decide) rfl (fun c182 => ?_) (fun c182 => ?_)
        · have c182 : ¬ (p4.toInt = p4.toInt) := c182
          refine g_iconst C X22 (pc' := 197) at_196 (v := (0 : Int32)) (by decide) rfl ?_
          exfalso; omega
        · have c182 : p4.toInt = p4.toInt := Decidable.not_not.mp c182
          refine g_aload C X22 (pc' := 187) at_185 rfl rfl rfl ?_
          refine g_iconst C X22 (pc' := 188) at_187 (v := (0 : Int32)) (by decide) rfl ?_
          refine g_daload C X22 (pc' := 189) e22 FF181 (by decide) (by decide) 0 (by decide) rfl at_188 rfl ?_
          refine g_iload C X22 (pc' := 191) at_189 rfl rfl ?_
          refine g_i2d C X22 (pc' := 192) at_191 rfl ?_
          refine g_dcmpV C X22 at_192 (v := (0 : Int32)) ((dcmp_cmpI D_d100 (i2d_D p5) _).trans (cmpI_self _)) rfl ?_
          refine g_ifY C X22 at_193 (pc' := 198) (by decide) (by decide) (by decide) ?_
          refine g_iconst C X22 (pc' := 199) at_198 (v := (1 : Int32)) (by decide) rfl ?_
          exact g_zreturn C X22 at_199 (w := 1) (by decide) ⟨rfl, N22⟩ (by decide) (by decide)
      · have c116 : ¬ ((cmpI (((0 + p1.toInt) + p2.toInt) + p3.toInt) j171.toInt).toInt = 0) := c116
        have c116 : ¬ (((0 + p1.toInt) + p2.toInt) + p3.toInt = j171.toInt) := fun q => c116 ((cmpI_eq _ _).mpr q)
        refine g_iconst C X20 (pc' := 120) at_119 (v := (0 : Int32)) (by decide) rfl ?_
        exfalso; omega
set_option maxRecDepth 65536 in
set_option maxHeartbeats 40000000 in
theorem comes_1 {Post : Tables → Env → Array Value → State → Outcome → State → Prop} (hpost : ∀ tb e args s v u, (limb_1_1.after args s (.returned v) u = true ∧ limb_1_2.after args s (.returned v) u = true ∧ True) → FrameEnd s (.returned v) u (Jvm.fieldLocs frame_1_writes args s ++ Jvm.arrayLocs frame_1_arrays args s ++ Jvm.staticLocs frame_1_statics s) 24 256 → Post tb e args s (.returned v) u) :
    ArmFor flags0 classFile x code maxLocals ret World_1 tables_1 room_1 Calls_1 rest_1 Pre_1 Post := by
  intro l hfl _ _ p e ha hc hk s m args below hf hA hF happ hP
  obtain ⟨hcalls, hrest, hpre⟩ := hP
  obtain ⟨-, -, -, hnamed, -, -, -, hat⟩ := (Spec.applies_iff hf).mp happ
  obtain ⟨hg, hn⟩ := and_e (Cond.before_iff.mp (show (Jvm.Cond.and given_1 narrow_1).before args s = true from hpre))
  obtain ⟨g_c, g_0⟩ := and_e hg
  obtain ⟨k_0, g_1⟩ := and_e g_0
  obtain ⟨k_1, g_2⟩ := and_e g_1
  obtain ⟨k_2, g_3⟩ := and_e g_2
  obtain ⟨k_3, g_4⟩ := and_e g_3
  obtain ⟨k_4, g_5⟩ := and_e g_4
  have k_5 := g_5
  obtain ⟨w0, w1, w2, w3, w4, w5, rfl⟩ : ∃ w0 w1 w2 w3 w4 w5 : Value, args = #[w0, w1, w2, w3, w4, w5] := by
    have hs : args.size = 6 := by simpa [Cond.value, given_1] using g_c
    obtain ⟨L⟩ := args
    match L, hs with
    | [w0, w1, w2, w3, w4, w5], _ => exact ⟨w0, w1, w2, w3, w4, w5, rfl⟩
  have hw := fun d (hd : d ∈ tables_1) => atoms_spec (ws := Jvm.Cond.code x code maxLocals ret :: tables_1) hat d (List.mem_cons_of_mem _ hd)
  have hfit : Fit s := fun {y c} hc i hi => by
    obtain ⟨ha, rfl⟩ := Array.getElem?_eq_some_iff.mp hc
    have q := List.all_eq_true.mp ((Array.all_eq_true_iff_forall_mem.mp hF) _ (Array.getElem_mem ha)) i (List.mem_range.mpr hi)
    simpa [Array.getElem?_eq_getElem hi] using q
  obtain ⟨p0, q_0⟩ := is_v k_0
  obtain rfl : w0 = (.int p0) := Option.some.inj q_0
  obtain ⟨p1, q_1⟩ := is_v k_1
  obtain rfl : w1 = (.int p1) := Option.some.inj q_1
  obtain ⟨p2, q_2⟩ := is_v k_2
  obtain rfl : w2 = (.int p2) := Option.some.inj q_2
  obtain ⟨p3, q_3⟩ := is_v k_3
  obtain rfl : w3 = (.int p3) := Option.some.inj q_3
  obtain ⟨p4, q_4⟩ := is_v k_4
  obtain rfl : w4 = (.int p4) := Option.some.inj q_4
  obtain ⟨p5, q_5⟩ := is_v k_5
  obtain rfl : w5 = (.int p5) := Option.some.inj q_5
  obtain ⟨n, o, h1, h2, h3, _, L, rfl, ⟨rfl, N⟩, hq⟩ := law l s _ hw p0 p1 p2 p3 p4 p5 s.heap s.heap.size (Nat.le_refl _)  tables_1 p e ha hc hk s m _ below hf ((Spec.applies_iff_loose hf).mp happ).1 ⟨rfl, State.Warmed39.refl s, rfl⟩ trivial
  refine ⟨n, _, h1, h2, h3, hpost _ _ _ _ _ _ ⟨Cond.after_iff.mpr rfl, Cond.after_iff.mpr (eq_i res_at (Term.int_eval (1)) rfl), trivial⟩ ⟨hq.1, hq.2.1, (hq.2.2.sift fun y hy => Or.inr (N y hy)).mono (by decide) (by decide)⟩⟩
theorem main_1_1 : Claimed_1_1 := comes_1 fun _ _ _ _ _ _ h hF => ⟨h.1, hF⟩
theorem main_1_2 : Claimed_1_2 := comes_1 fun _ _ _ _ _ _ h hF => ⟨h.2.1, hF⟩
end Jvm.Pilot.@@N@@
namespace Jvm.Pilot.@@N@@
open Jvm Jvm.ClassFile Sem Op Lib Jvm.Free Jvm.Stand Jvm.Pilot.@@N@@.Jvm.D
/-! MADE BY PROGRAM (witnessworld.py) out of the Statement's table words and the real class files: 13 classes; the members and pool entries that the words name. The judged class is class 1, her method 1. -/
namespace start1
open Jvm.ClassFile
def u (s : String) : CpInfo := .utf8 (stringToUtf16 s)
/-- a pool by its gaps: so many unusable entries, then the entry; so many at the end -/
def gap : Nat → List CpInfo → List CpInfo
  | 0, r => r
  | n + 1, r => .unusable :: gap n r
def poolList (es : List (Nat × CpInfo)) (last : Nat) : List CpInfo := es.foldr (fun e r => gap e.1 (e.2 :: r)) (gap last [])
def pool (es : List (Nat × CpInfo)) (last : Nat) : Array CpInfo := ⟨poolList es last⟩
def fileOf (pool : Array CpInfo) (this : Nat) (attrs : Array Attribute := #[]) (ms : Array MethodInfo := #[]) (fl : Nat := 33) (sup : Nat := 0) (ifs : Array Nat := #[]) (fds : Array FieldInfo := #[]) : ClassFile where
  minorVersion := 0
  majorVersion := 65
  constantPool := pool
  accessFlags := fl
  thisClass := this
  superClass := sup
  interfaces := ifs
  fields := fds
  methods := ms
  attributes := attrs
def plain (name : String) (sup : Option ClassId) : Class where
  name := name
  kind := .ordinary
  loader := none
  accessFlags := 33
  super := sup
  interfaces := #[]
  cf := none
  fields := #[]
  methods := #[]
  instanceTypes := #[]
  staticTypes := #[]
  resolved := #[]
  callSites := []
  init := .initialized
  statics := none
  mirror := none

def pool0 : Array CpInfo := pool [(5, u "<init>"), (0, u "()V"), (1, .class_ 10), (1, u "java/lang/Object"), (85, u "clone"), (0, u "()Ljava/lang/Object;")] 26

def k0c0 : Code := { maxStack := 0, maxLocals := 1, code := object_method_1_code, exceptionTable := #[], attributes := #[] }
def k0m0 : Method := { name := "<init>", desc := "()V", sig := { parameters := [], returnType := none }, accessFlags := 1, code := some k0c0 }
def k0m1 : Method := { name := "clone", desc := "()Ljava/lang/Object;", sig := { parameters := [], returnType := some (.object "java/lang/Object") }, accessFlags := 260, code := none }
/-- java/lang/Object -/
def k0 : Class := { plain "java/lang/Object" none with
  accessFlags := 33
  interfaces := #[]
  cf := some (fileOf pool0 8 #[] #[{ accessFlags := 1, nameIndex := 5, descriptorIndex := 6, attributes := #[] }, { accessFlags := 260, nameIndex := 96, descriptorIndex := 97, attributes := #[] }] 33 0 #[] #[])
  fields := #[]
  methods := #[k0m0, k0m1]
  instanceTypes := #[]
  staticTypes := #[]
  resolved := Array.replicate 124 none
  statics := none }

def pool1 : Array CpInfo := pool [(2, .class_ 4), (1, u "java/lang/Object"), (0, u "<init>"), (0, u "()V"), (0, .class_ 8), (0, u "com/example/shared_weights/sharedweights/LinearExpression$Builder"), (0, .methodref 7 10), (0, .nameAndType 5 11), (0, u "(I)V"), (0, .methodref 7 13), (0, .nameAndType 14 15), (0, u "addConstant"), (0, u "(D)Lcom/example/shared_weights/sharedweights/LinearExpression$Builder;"), (0, .methodref 7 17), (0, .nameAndType 18 19), (0, u "add"), (0, u "(ID)Lcom/example/shared_weights/sharedweights/LinearExpression$Builder;"), (0, .methodref 7 21), (0, .nameAndType 22 23), (0, u "build"), (0, u "()Lcom/example/shared_weights/sharedweights/LinearExpression;"), (0, .methodref 25 26), (0, .class_ 27), (0, .nameAndType 28 29), (0, u "com/example/shared_weights/sharedweights/LinearExpression"), (0, u "constant"), (0, u "()D"), (0, .methodref 25 31), (0, .nameAndType 32 33), (0, u "variables"), (0, u "()[I"), (0, .methodref 25 35), (0, .nameAndType 36 37), (0, u "coefficients"), (0, u "()[D"), (0, .class_ 39), (0, u "com/example/shared_weights/sharedweights/BuilderAddConstantPinLaw"), (2, u "law"), (0, u "(IIIIII)Z")] 9

def k1m0 : Method := { name := "<init>", desc := "()V", sig := { parameters := [], returnType := none }, accessFlags := 1, code := none }
def k1c1 : Code := { maxStack := 4, maxLocals := 15, code := code, exceptionTable := #[], attributes := #[] }
def k1m1 : Method := { name := "law", desc := "(IIIIII)Z", sig := { parameters := [.int, .int, .int, .int, .int, .int], returnType := some .boolean }, accessFlags := 9, code := some k1c1 }
/-- com/example/shared_weights/sharedweights/BuilderAddConstantPinLaw -/
def k1 : Class := { plain "com/example/shared_weights/sharedweights/BuilderAddConstantPinLaw" (some 0) with
  accessFlags := 49
  interfaces := #[]
  cf := some (fileOf pool1 38 #[] #[{ accessFlags := 1, nameIndex := 5, descriptorIndex := 6, attributes := #[] }, { accessFlags := 9, nameIndex := 42, descriptorIndex := 43, attributes := #[] }] 49 2 #[] #[])
  fields := #[]
  methods := #[k1m0, k1m1]
  instanceTypes := #[]
  staticTypes := #[]
  resolved := Array.replicate 53 none
  statics := none }

def pool2 : Array CpInfo := pool [(1, .methodref 2 3), (0, .class_ 4), (0, .nameAndType 5 6), (0, u "java/lang/Object"), (0, u "<init>"), (0, u "()V"), (0, .methodref 8 9), (0, .class_ 10), (0, .nameAndType 11 12), (0, u "java/lang/Math"), (0, u "max"), (0, u "(II)I"), (0, .fieldref 14 15), (0, .class_ 16), (0, .nameAndType 17 18), (0, u "com/example/shared_weights/sharedweights/LinearExpression$Builder"), (0, u "targets"), (0, u "[I"), (0, .fieldref 14 20), (0, .nameAndType 21 22), (0, u "sums"), (0, u "[D"), (0, .methodref 14 24), (0, .nameAndType 25 26), (0, u "placeOf"), (0, u "(I)I"), (0, .fieldref 14 28), (0, .nameAndType 29 30), (0, u "count"), (0, u "I"), (9, .fieldref 14 41), (0, .nameAndType 42 43), (0, u "places"), (0, u "Ljava/util/Map;"), (15, .fieldref 14 60), (0, .nameAndType 61 62), (0, u "constant"), (0, u "D"), (0, .class_ 64), (0, u "com/example/shared_weights/sharedweights/LinearExpression"), (0, .methodref 63 66), (0, .nameAndType 5 67), (0, u "([I[DD)V"), (7, u "WALKED"), (4, u "(I)V"), (2, u "add"), (0, u "(ID)Lcom/example/shared_weights/sharedweights/LinearExpression$Builder;"), (1, u "addConstant"), (0, u "(D)Lcom/example/shared_weights/sharedweights/LinearExpression$Builder;"), (0, u "build"), (0, u "()Lcom/example/shared_weights/sharedweights/LinearExpression;")] 7

def k2c0 : Code := { maxStack := 3, maxLocals := 2, code := prog_24_method_1_code, exceptionTable := #[], attributes := #[] }
def k2m0 : Method := { name := "<init>", desc := "(I)V", sig := { parameters := [.int], returnType := none }, accessFlags := 0, code := some k2c0 }
def k2c1 : Code := { maxStack := 6, maxLocals := 6, code := prog_24_method_2_code, exceptionTable := #[], attributes := #[] }
def k2m1 : Method := { name := "add", desc := "(ID)Lcom/example/shared_weights/sharedweights/LinearExpression$Builder;", sig := { parameters := [.int, .double], returnType := some (.object "com/example/shared_weights/sharedweights/LinearExpression$Builder") }, accessFlags := 0, code := some k2c1 }
def k2c2 : Code := { maxStack := 5, maxLocals := 3, code := prog_24_method_3_code, exceptionTable := #[], attributes := #[] }
def k2m2 : Method := { name := "addConstant", desc := "(D)Lcom/example/shared_weights/sharedweights/LinearExpression$Builder;", sig := { parameters := [.double], returnType := some (.object "com/example/shared_weights/sharedweights/LinearExpression$Builder") }, accessFlags := 0, code := some k2c2 }
def k2c3 : Code := { maxStack := 6, maxLocals := 6, code := prog_24_method_4_code, exceptionTable := #[], attributes := #[] }
def k2m3 : Method := { name := "build", desc := "()Lcom/example/shared_weights/sharedweights/LinearExpression;", sig := { parameters := [], returnType := some (.object "com/example/shared_weights/sharedweights/LinearExpression") }, accessFlags := 0, code := some k2c3 }
def k2c4 : Code := { maxStack := 3, maxLocals := 3, code := prog_24_method_5_code, exceptionTable := #[], attributes := #[] }
def k2m4 : Method := { name := "placeOf", desc := "(I)I", sig := { parameters := [.int], returnType := some .int }, accessFlags := 2, code := some k2c4 }
/-- com/example/shared_weights/sharedweights/LinearExpression$Builder -/
def k2 : Class := { plain "com/example/shared_weights/sharedweights/LinearExpression$Builder" (some 0) with
  accessFlags := 48
  interfaces := #[]
  cf := some (fileOf pool2 14 #[.nestHost 63] #[{ accessFlags := 0, nameIndex := 5, descriptorIndex := 80, attributes := #[] }, { accessFlags := 0, nameIndex := 83, descriptorIndex := 84, attributes := #[] }, { accessFlags := 0, nameIndex := 86, descriptorIndex := 87, attributes := #[] }, { accessFlags := 0, nameIndex := 88, descriptorIndex := 89, attributes := #[] }, { accessFlags := 2, nameIndex := 25, descriptorIndex := 26, attributes := #[] }] 48 2 #[] #[{ accessFlags := 26, nameIndex := 75, descriptorIndex := 30, attributes := #[] }, { accessFlags := 2, nameIndex := 17, descriptorIndex := 18, attributes := #[] }, { accessFlags := 2, nameIndex := 21, descriptorIndex := 22, attributes := #[] }, { accessFlags := 2, nameIndex := 29, descriptorIndex := 30, attributes := #[] }, { accessFlags := 2, nameIndex := 61, descriptorIndex := 62, attributes := #[] }, { accessFlags := 2, nameIndex := 42, descriptorIndex := 43, attributes := #[] }])
  fields := #[{ name := "WALKED", type := .int, accessFlags := 26, slot := 0, constantValue := 0 }, { name := "targets", type := (.array .int), accessFlags := 2, slot := 0, constantValue := 0 }, { name := "sums", type := (.array .double), accessFlags := 2, slot := 1, constantValue := 0 }, { name := "count", type := .int, accessFlags := 2, slot := 2, constantValue := 0 }, { name := "constant", type := .double, accessFlags := 2, slot := 3, constantValue := 0 }, { name := "places", type := (.object "java/util/Map"), accessFlags := 2, slot := 4, constantValue := 0 }]
  methods := #[k2m0, k2m1, k2m2, k2m3, k2m4]
  instanceTypes := #[(.array .int), (.array .double), .int, .double, (.object "java/util/Map")]
  staticTypes := #[.int]
  resolved := Array.replicate 97 none
  statics := none }

def pool3 : Array CpInfo := pool [(1, .class_ 2), (0, u "java/lang/Math"), (1, .class_ 6), (1, u "java/lang/Object"), (0, u "<init>"), (0, u "()V"), (89, .class_ 100), (1, u "java/lang/Math$RandomNumberGeneratorHolder"), (71, u "negativeZeroFloatBits"), (0, u "J"), (2, u "negativeZeroDoubleBits"), (21, u "max"), (46, u "$assertionsDisabled"), (0, u "Z"), (88, u "(II)I"), (2, u "twoToTheDoubleScaleDown"), (0, u "D"), (4, u "twoToTheDoubleScaleUp"), (9, u "E"), (3, u "PI"), (2, u "TAU"), (2, u "DEGREES_TO_RADIANS"), (0, u "RADIANS_TO_DEGREES")] 94

def k3m0 : Method := { name := "<init>", desc := "()V", sig := { parameters := [], returnType := none }, accessFlags := 2, code := none }
def k3c1 : Code := { maxStack := 2, maxLocals := 2, code := jdk_29_method_65_code, exceptionTable := #[], attributes := #[] }
def k3m1 : Method := { name := "max", desc := "(II)I", sig := { parameters := [.int, .int], returnType := some .int }, accessFlags := 9, code := some k3c1 }
/-- java/lang/Math -/
def k3 : Class := { plain "java/lang/Math" (some 0) with
  accessFlags := 49
  interfaces := #[]
  cf := some (fileOf pool3 1 #[.nestMembers #[98]] #[{ accessFlags := 2, nameIndex := 7, descriptorIndex := 8, attributes := #[] }, { accessFlags := 9, nameIndex := 198, descriptorIndex := 335, attributes := #[] }] 49 4 #[] #[{ accessFlags := 25, nameIndex := 354, descriptorIndex := 339, attributes := #[] }, { accessFlags := 25, nameIndex := 358, descriptorIndex := 339, attributes := #[] }, { accessFlags := 25, nameIndex := 361, descriptorIndex := 339, attributes := #[] }, { accessFlags := 26, nameIndex := 364, descriptorIndex := 339, attributes := #[] }, { accessFlags := 26, nameIndex := 365, descriptorIndex := 339, attributes := #[] }, { accessFlags := 26, nameIndex := 172, descriptorIndex := 173, attributes := #[] }, { accessFlags := 26, nameIndex := 176, descriptorIndex := 173, attributes := #[] }, { accessFlags := 8, nameIndex := 344, descriptorIndex := 339, attributes := #[] }, { accessFlags := 8, nameIndex := 338, descriptorIndex := 339, attributes := #[] }, { accessFlags := 4120, nameIndex := 245, descriptorIndex := 246, attributes := #[] }])
  fields := #[{ name := "E", type := .double, accessFlags := 25, slot := 0, constantValue := 0 }, { name := "PI", type := .double, accessFlags := 25, slot := 1, constantValue := 0 }, { name := "TAU", type := .double, accessFlags := 25, slot := 2, constantValue := 0 }, { name := "DEGREES_TO_RADIANS", type := .double, accessFlags := 26, slot := 3, constantValue := 0 }, { name := "RADIANS_TO_DEGREES", type := .double, accessFlags := 26, slot := 4, constantValue := 0 }, { name := "negativeZeroFloatBits", type := .long, accessFlags := 26, slot := 5, constantValue := 0 }, { name := "negativeZeroDoubleBits", type := .long, accessFlags := 26, slot := 6, constantValue := 0 }, { name := "twoToTheDoubleScaleUp", type := .double, accessFlags := 8, slot := 7, constantValue := 0 }, { name := "twoToTheDoubleScaleDown", type := .double, accessFlags := 8, slot := 8, constantValue := 0 }, { name := "$assertionsDisabled", type := .boolean, accessFlags := 4120, slot := 9, constantValue := 0 }]
  methods := #[k3m0, k3m1]
  instanceTypes := #[]
  staticTypes := #[.double, .double, .double, .double, .double, .long, .long, .double, .double, .boolean]
  resolved := Array.replicate 460 none
  statics := none }

def pool4 : Array CpInfo := pool [(1, .methodref 2 3), (0, .class_ 4), (0, .nameAndType 5 6), (0, u "java/lang/Object"), (0, u "<init>"), (0, u "()V"), (0, .fieldref 8 9), (0, .class_ 10), (0, .nameAndType 11 12), (0, u "com/example/shared_weights/sharedweights/LinearExpression"), (0, u "variables"), (0, u "[I"), (0, .fieldref 8 14), (0, .nameAndType 15 16), (0, u "coefficients"), (0, u "[D"), (0, .fieldref 8 18), (0, .nameAndType 19 20), (0, u "constant"), (0, u "D"), (0, .methodref 22 23), (0, .class_ 12), (0, .nameAndType 24 25), (0, u "clone"), (0, u "()Ljava/lang/Object;"), (0, .methodref 27 23), (0, .class_ 16), (9, u "ROUNDING"), (3, u "([I[DD)V"), (2, u "()[I"), (0, u "()[D"), (0, u "()D"), (6, .class_ 54), (0, u "com/example/shared_weights/sharedweights/LinearExpression$Builder")] 2

def k4c0 : Code := { maxStack := 3, maxLocals := 5, code := prog_23_method_1_code, exceptionTable := #[], attributes := #[] }
def k4m0 : Method := { name := "<init>", desc := "([I[DD)V", sig := { parameters := [(.array .int), (.array .double), .double], returnType := none }, accessFlags := 2, code := some k4c0 }
def k4c1 : Code := { maxStack := 1, maxLocals := 1, code := prog_23_method_2_code, exceptionTable := #[], attributes := #[] }
def k4m1 : Method := { name := "variables", desc := "()[I", sig := { parameters := [], returnType := some (.array .int) }, accessFlags := 0, code := some k4c1 }
def k4c2 : Code := { maxStack := 1, maxLocals := 1, code := prog_23_method_3_code, exceptionTable := #[], attributes := #[] }
def k4m2 : Method := { name := "coefficients", desc := "()[D", sig := { parameters := [], returnType := some (.array .double) }, accessFlags := 0, code := some k4c2 }
def k4c3 : Code := { maxStack := 2, maxLocals := 1, code := prog_23_method_4_code, exceptionTable := #[], attributes := #[] }
def k4m3 : Method := { name := "constant", desc := "()D", sig := { parameters := [], returnType := some .double }, accessFlags := 0, code := some k4c3 }
/-- com/example/shared_weights/sharedweights/LinearExpression -/
def k4 : Class := { plain "com/example/shared_weights/sharedweights/LinearExpression" (some 0) with
  accessFlags := 48
  interfaces := #[]
  cf := some (fileOf pool4 8 #[.nestMembers #[53]] #[{ accessFlags := 2, nameIndex := 5, descriptorIndex := 41, attributes := #[] }, { accessFlags := 0, nameIndex := 11, descriptorIndex := 44, attributes := #[] }, { accessFlags := 0, nameIndex := 15, descriptorIndex := 45, attributes := #[] }, { accessFlags := 0, nameIndex := 19, descriptorIndex := 46, attributes := #[] }] 48 2 #[] #[{ accessFlags := 24, nameIndex := 37, descriptorIndex := 20, attributes := #[] }, { accessFlags := 18, nameIndex := 11, descriptorIndex := 12, attributes := #[] }, { accessFlags := 18, nameIndex := 15, descriptorIndex := 16, attributes := #[] }, { accessFlags := 18, nameIndex := 19, descriptorIndex := 20, attributes := #[] }])
  fields := #[{ name := "ROUNDING", type := .double, accessFlags := 24, slot := 0, constantValue := 0 }, { name := "variables", type := (.array .int), accessFlags := 18, slot := 0, constantValue := 0 }, { name := "coefficients", type := (.array .double), accessFlags := 18, slot := 1, constantValue := 0 }, { name := "constant", type := .double, accessFlags := 18, slot := 2, constantValue := 0 }]
  methods := #[k4m0, k4m1, k4m2, k4m3]
  instanceTypes := #[(.array .int), (.array .double), .double]
  staticTypes := #[.double]
  resolved := Array.replicate 57 none
  statics := none }

def pool5 : Array CpInfo := pool [(1, .class_ 2), (0, u "java/lang/Cloneable"), (0, .class_ 4), (0, u "java/lang/Object")] 2

/-- java/lang/Cloneable -/
def k5 : Class := { plain "java/lang/Cloneable" (some 0) with
  accessFlags := 1537
  interfaces := #[]
  cf := some (fileOf pool5 1 #[] #[] 1537 3 #[] #[])
  fields := #[]
  methods := #[]
  instanceTypes := #[]
  staticTypes := #[]
  resolved := Array.replicate 7 none
  statics := none }

def pool6 : Array CpInfo := pool [(1, u "java/io/Serializable"), (0, .class_ 1), (0, u "java/lang/Object"), (0, .class_ 3)] 3

/-- java/io/Serializable -/
def k6 : Class := { plain "java/io/Serializable" (some 0) with
  accessFlags := 1537
  interfaces := #[]
  cf := some (fileOf pool6 2 #[] #[] 1537 4 #[] #[])
  fields := #[]
  methods := #[]
  instanceTypes := #[]
  staticTypes := #[]
  resolved := Array.replicate 8 none
  statics := none }

/-- the primitive byte -/
def k7 : Class := { plain "byte" none with kind := .primitive 'B', accessFlags := 0x411 }
/-- [B -/
def k8 : Class := { plain "[B" (some 0) with kind := .array 7 .byte, interfaces := #[5, 6], accessFlags := 1041 }

/-- the primitive double -/
def k9 : Class := { plain "double" none with kind := .primitive 'D', accessFlags := 0x411 }
/-- [D -/
def k10 : Class := { plain "[D" (some 0) with kind := .array 9 .double, interfaces := #[5, 6], accessFlags := 1041 }

/-- the primitive int -/
def k11 : Class := { plain "int" none with kind := .primitive 'I', accessFlags := 0x411 }
/-- [I -/
def k12 : Class := { plain "[I" (some 0) with kind := .array 11 .int, interfaces := #[5, 6], accessFlags := 1041 }

def heap : Heap := #[]
def classes : Array Class := #[k0, k1, k2, k3, k4, k5, k6, k7, k8, k9, k10, k11, k12]
def interned : List (Array UInt16 × Addr) := []
def slotsUsed : Nat := 0
def theMethod : MethodId := ⟨1, 1⟩
def args0 : Array Value := #[.int 3, .int 7, .int 2, .int 5, .int 9, .int 4]
def aboutOver (below : List Frame) : State where
  vm := { classes := classes, interned := interned.toArray }
  heap := heap
  slotsUsed := slotsUsed
  threads := #[{ frames := .invoking theMethod args0 :: below }]
def below0 : List Frame := [.native { method := ⟨0, 0⟩, args := #[] }]
def about1 : State := aboutOver below0
def p0 : Program := .bare "" "" ""
def e0 : Env := launch0.env 0 0 0
theorem w_frames : about1.frames = Frame.invoking theMethod args0 :: below0 := rfl
set_option maxRecDepth 65536 in
theorem w_args : argsFit about1.vm theMethod args0 = true := by decide +kernel
set_option maxRecDepth 65536 in
theorem w_heap : heapFits about1 = true := by decide +kernel
set_option maxRecDepth 65536 in
theorem w_runnable : about1.curStatus? = some .runnable := by decide +kernel
set_option maxRecDepth 65536 in
theorem w_alone : about1.alone = true := by decide +kernel
set_option maxRecDepth 65536 in
theorem w_named : about1.methodNamed? x = some theMethod := by decide +kernel
set_option maxRecDepth 65536 in
theorem w_hears : about1.hears theMethod below0 = true := by decide +kernel
set_option maxRecDepth 65536 in
theorem w_ripe : about1.ripe theMethod args0 below0 = true := by decide +kernel
theorem w_running : about1.status = .running := rfl
set_option maxRecDepth 65536 in
theorem w_room : about1.hasRoom e0.platform room_1 = true :=
  launch0.hasRoom_least _ room_1 (by decide +kernel) (by decide +kernel) (by decide +kernel) (by decide +kernel) (by decide +kernel) (by decide +kernel)
theorem allAtoms_all (ts : List Jvm.Cond) (a : Array Jvm.Value) (st : Jvm.State) : (allAtoms ts).before a st = ts.all (fun c => c.before a st) := by
  induction ts with
  | nil => rfl
  | cons c t ih =>
    show (Jvm.Cond.and c (allAtoms t)).before a st = _
    rw [Jvm.Cond.before_and, ih, List.all_cons]
def words1 : List Jvm.Cond := Jvm.Cond.code x code maxLocals ret :: tables_1
/-- a 'code' word, met by the world's own term for the bytes: nothing is compared byte by byte -/
theorem code_word {y : MethodName} {bytes : ByteArray} {mx : Nat} {rt : Option FieldType} {a : Array Value} {s : State} {m : MethodId} {meth : Method} {c : Code} (h1 : s.methodNamed? y = some m) (h2 : s.vm.method? m = some meth) (h3 : meth.code = some c) (h4 : c.code = bytes)
    (h5 : (c.maxLocals == mx && c.exceptionTable.isEmpty && decide (c.maxStack ≤ mostOperands) && decide (meth.sig.returnType = rt) && !meth.locks && decide (parseMethodDescriptor y.desc = some meth.sig)) = true) : (Jvm.Cond.code y bytes mx rt).before a s = true := by
  simp only [Bool.and_eq_true, beq_iff_eq, Bool.not_eq_true', decide_eq_true_eq] at h5
  obtain ⟨⟨⟨⟨⟨g1, g2⟩, g3⟩, g4⟩, g5⟩, g6⟩ := h5
  simp [Cond.before, Cond.holds, Cond.value, h1, h2, h3, h4, g1, g2, g3, g4, g5, g6]
def isCode : Jvm.Cond → Bool
  | .code _ _ _ _ => true
  | _ => false
theorem all_split {L : List Jvm.Cond} {P : Jvm.Cond → Bool} (h1 : L.all (fun c => isCode c || P c) = true) (h2 : ∀ c ∈ L.filter isCode, P c = true) : L.all P = true := by
  refine List.all_eq_true.mpr fun c hc => ?_
  have h := List.all_eq_true.mp h1 c hc
  rcases Bool.eq_false_or_eq_true (isCode c) with hi | hi
  · exact h2 c (List.mem_filter.mpr ⟨hc, hi⟩)
  · simpa [hi] using h
set_option maxRecDepth 65536 in
theorem w_c0 : (Jvm.Cond.code x code maxLocals ret).before args0 about1 = true := code_word (m := ⟨1, 1⟩) (meth := k1m1) (c := k1c1) (by decide +kernel) rfl rfl rfl (by decide +kernel)
set_option maxRecDepth 65536 in
theorem w_c1 : (Jvm.Cond.code ({ cls := "com/example/shared_weights/sharedweights/LinearExpression$Builder", name := "<init>", desc := "(I)V" } : Jvm.MethodName) prog_24_method_1_code (2 : Nat) (Option.none : Option Jvm.ClassFile.FieldType)).before args0 about1 = true := code_word (m := ⟨2, 0⟩) (meth := k2m0) (c := k2c0) (by decide +kernel) rfl rfl rfl (by decide +kernel)
set_option maxRecDepth 65536 in
theorem w_c2 : (Jvm.Cond.code ({ cls := "java/lang/Object", name := "<init>", desc := "()V" } : Jvm.MethodName) object_method_1_code (1 : Nat) (Option.none : Option Jvm.ClassFile.FieldType)).before args0 about1 = true := code_word (m := ⟨0, 0⟩) (meth := k0m0) (c := k0c0) (by decide +kernel) rfl rfl rfl (by decide +kernel)
set_option maxRecDepth 65536 in
theorem w_c3 : (Jvm.Cond.code ({ cls := "java/lang/Math", name := "max", desc := "(II)I" } : Jvm.MethodName) jdk_29_method_65_code (2 : Nat) (Option.some Jvm.ClassFile.FieldType.int)).before args0 about1 = true := code_word (m := ⟨3, 1⟩) (meth := k3m1) (c := k3c1) (by decide +kernel) rfl rfl rfl (by decide +kernel)
set_option maxRecDepth 65536 in
theorem w_c4 : (Jvm.Cond.code ({ cls := "com/example/shared_weights/sharedweights/LinearExpression$Builder", name := "addConstant", desc := "(D)Lcom/example/shared_weights/sharedweights/LinearExpression$Builder;" } : Jvm.MethodName) prog_24_method_3_code (3 : Nat) (Option.some (Jvm.ClassFile.FieldType.object "com/example/shared_weights/sharedweights/LinearExpression$Builder"))).before args0 about1 = true := code_word (m := ⟨2, 2⟩) (meth := k2m2) (c := k2c2) (by decide +kernel) rfl rfl rfl (by decide +kernel)
set_option maxRecDepth 65536 in
theorem w_c5 : (Jvm.Cond.code ({ cls := "com/example/shared_weights/sharedweights/LinearExpression$Builder", name := "build", desc := "()Lcom/example/shared_weights/sharedweights/LinearExpression;" } : Jvm.MethodName) prog_24_method_4_code (6 : Nat) (Option.some (Jvm.ClassFile.FieldType.object "com/example/shared_weights/sharedweights/LinearExpression"))).before args0 about1 = true := code_word (m := ⟨2, 3⟩) (meth := k2m3) (c := k2c3) (by decide +kernel) rfl rfl rfl (by decide +kernel)
set_option maxRecDepth 65536 in
theorem w_c6 : (Jvm.Cond.code ({ cls := "com/example/shared_weights/sharedweights/LinearExpression", name := "<init>", desc := "([I[DD)V" } : Jvm.MethodName) prog_23_method_1_code (5 : Nat) (Option.none : Option Jvm.ClassFile.FieldType)).before args0 about1 = true := code_word (m := ⟨4, 0⟩) (meth := k4m0) (c := k4c0) (by decide +kernel) rfl rfl rfl (by decide +kernel)
set_option maxRecDepth 65536 in
theorem w_c7 : (Jvm.Cond.code ({ cls := "com/example/shared_weights/sharedweights/LinearExpression", name := "constant", desc := "()D" } : Jvm.MethodName) prog_23_method_4_code (1 : Nat) (Option.some Jvm.ClassFile.FieldType.double)).before args0 about1 = true := code_word (m := ⟨4, 3⟩) (meth := k4m3) (c := k4c3) (by decide +kernel) rfl rfl rfl (by decide +kernel)
set_option maxRecDepth 65536 in
theorem w_c8 : (Jvm.Cond.code ({ cls := "com/example/shared_weights/sharedweights/LinearExpression", name := "variables", desc := "()[I" } : Jvm.MethodName) prog_23_method_2_code (1 : Nat) (Option.some (Jvm.ClassFile.FieldType.array Jvm.ClassFile.FieldType.int))).before args0 about1 = true := code_word (m := ⟨4, 1⟩) (meth := k4m1) (c := k4c1) (by decide +kernel) rfl rfl rfl (by decide +kernel)
set_option maxRecDepth 65536 in
theorem w_c9 : (Jvm.Cond.code ({ cls := "com/example/shared_weights/sharedweights/LinearExpression", name := "coefficients", desc := "()[D" } : Jvm.MethodName) prog_23_method_3_code (1 : Nat) (Option.some (Jvm.ClassFile.FieldType.array Jvm.ClassFile.FieldType.double))).before args0 about1 = true := code_word (m := ⟨4, 2⟩) (meth := k4m2) (c := k4c2) (by decide +kernel) rfl rfl rfl (by decide +kernel)
set_option maxRecDepth 65536 in
theorem w_c10 : (Jvm.Cond.code ({ cls := "com/example/shared_weights/sharedweights/LinearExpression$Builder", name := "add", desc := "(ID)Lcom/example/shared_weights/sharedweights/LinearExpression$Builder;" } : Jvm.MethodName) prog_24_method_2_code (6 : Nat) (Option.some (Jvm.ClassFile.FieldType.object "com/example/shared_weights/sharedweights/LinearExpression$Builder"))).before args0 about1 = true := code_word (m := ⟨2, 1⟩) (meth := k2m1) (c := k2c1) (by decide +kernel) rfl rfl rfl (by decide +kernel)
set_option maxRecDepth 65536 in
theorem w_c11 : (Jvm.Cond.code ({ cls := "com/example/shared_weights/sharedweights/LinearExpression$Builder", name := "placeOf", desc := "(I)I" } : Jvm.MethodName) prog_24_method_5_code (3 : Nat) (Option.some Jvm.ClassFile.FieldType.int)).before args0 about1 = true := code_word (m := ⟨2, 4⟩) (meth := k2m4) (c := k2c4) (by decide +kernel) rfl rfl rfl (by decide +kernel)
def codes1 : List Jvm.Cond := [Jvm.Cond.code x code maxLocals ret, Jvm.Cond.code ({ cls := "com/example/shared_weights/sharedweights/LinearExpression$Builder", name := "<init>", desc := "(I)V" } : Jvm.MethodName) prog_24_method_1_code (2 : Nat) (Option.none : Option Jvm.ClassFile.FieldType), Jvm.Cond.code ({ cls := "java/lang/Object", name := "<init>", desc := "()V" } : Jvm.MethodName) object_method_1_code (1 : Nat) (Option.none : Option Jvm.ClassFile.FieldType), Jvm.Cond.code ({ cls := "java/lang/Math", name := "max", desc := "(II)I" } : Jvm.MethodName) jdk_29_method_65_code (2 : Nat) (Option.some Jvm.ClassFile.FieldType.int), Jvm.Cond.code ({ cls := "com/example/shared_weights/sharedweights/LinearExpression$Builder", name := "addConstant", desc := "(D)Lcom/example/shared_weights/sharedweights/LinearExpression$Builder;" } : Jvm.MethodName) prog_24_method_3_code (3 : Nat) (Option.some (Jvm.ClassFile.FieldType.object "com/example/shared_weights/sharedweights/LinearExpression$Builder")), Jvm.Cond.code ({ cls := "com/example/shared_weights/sharedweights/LinearExpression$Builder", name := "build", desc := "()Lcom/example/shared_weights/sharedweights/LinearExpression;" } : Jvm.MethodName) prog_24_method_4_code (6 : Nat) (Option.some (Jvm.ClassFile.FieldType.object "com/example/shared_weights/sharedweights/LinearExpression")), Jvm.Cond.code ({ cls := "com/example/shared_weights/sharedweights/LinearExpression", name := "<init>", desc := "([I[DD)V" } : Jvm.MethodName) prog_23_method_1_code (5 : Nat) (Option.none : Option Jvm.ClassFile.FieldType), Jvm.Cond.code ({ cls := "com/example/shared_weights/sharedweights/LinearExpression", name := "constant", desc := "()D" } : Jvm.MethodName) prog_23_method_4_code (1 : Nat) (Option.some Jvm.ClassFile.FieldType.double), Jvm.Cond.code ({ cls := "com/example/shared_weights/sharedweights/LinearExpression", name := "variables", desc := "()[I" } : Jvm.MethodName) prog_23_method_2_code (1 : Nat) (Option.some (Jvm.ClassFile.FieldType.array Jvm.ClassFile.FieldType.int)), Jvm.Cond.code ({ cls := "com/example/shared_weights/sharedweights/LinearExpression", name := "coefficients", desc := "()[D" } : Jvm.MethodName) prog_23_method_3_code (1 : Nat) (Option.some (Jvm.ClassFile.FieldType.array Jvm.ClassFile.FieldType.double)), Jvm.Cond.code ({ cls := "com/example/shared_weights/sharedweights/LinearExpression$Builder", name := "add", desc := "(ID)Lcom/example/shared_weights/sharedweights/LinearExpression$Builder;" } : Jvm.MethodName) prog_24_method_2_code (6 : Nat) (Option.some (Jvm.ClassFile.FieldType.object "com/example/shared_weights/sharedweights/LinearExpression$Builder")), Jvm.Cond.code ({ cls := "com/example/shared_weights/sharedweights/LinearExpression$Builder", name := "placeOf", desc := "(I)I" } : Jvm.MethodName) prog_24_method_5_code (3 : Nat) (Option.some Jvm.ClassFile.FieldType.int)]
set_option maxRecDepth 65536 in
theorem codes_eq : words1.filter isCode = codes1 := rfl
theorem w_codes : ∀ c ∈ words1.filter isCode, c.before args0 about1 = true := by
  rw [codes_eq]
  intro c hc
  simp only [codes1, List.mem_cons, List.not_mem_nil, or_false] at hc
  rcases hc with rfl | rfl | rfl | rfl | rfl | rfl | rfl | rfl | rfl | rfl | rfl | rfl
  · exact w_c0
  · exact w_c1
  · exact w_c2
  · exact w_c3
  · exact w_c4
  · exact w_c5
  · exact w_c6
  · exact w_c7
  · exact w_c8
  · exact w_c9
  · exact w_c10
  · exact w_c11
set_option maxRecDepth 65536 in
theorem w_t1 : (words1.take 24).all (fun c => isCode c || c.before args0 about1) = true := by decide +kernel
set_option maxRecDepth 65536 in
theorem w_t2 : ((words1.drop 24).take 24).all (fun c => isCode c || c.before args0 about1) = true := by decide +kernel
set_option maxRecDepth 65536 in
theorem w_t3 : (((words1.drop 24).drop 24).take 24).all (fun c => isCode c || c.before args0 about1) = true := by decide +kernel
set_option maxRecDepth 65536 in
theorem w_t4 : (((words1.drop 24).drop 24).drop 24).all (fun c => isCode c || c.before args0 about1) = true := by decide +kernel
theorem w_tables : (allAtoms (Jvm.Cond.code x code maxLocals ret :: tables_1)).before args0 about1 = true := by
  rw [allAtoms_all]
  show words1.all (fun c => c.before args0 about1) = true
  refine all_split ?_ w_codes
  rw [← List.take_append_drop 24 words1, List.all_append, w_t1, ← List.take_append_drop 24 (words1.drop 24), List.all_append, w_t2, ← List.take_append_drop 24 ((words1.drop 24).drop 24), List.all_append, w_t3, w_t4]
  rfl
set_option maxRecDepth 65536 in
theorem w_case : (Jvm.Cond.and given_1 narrow_1).before args0 about1 = true := by decide +kernel
theorem w_applies : (headSpec (Jvm.Cond.code x code maxLocals ret :: tables_1) room_1).applies x e0.platform about1 = true :=
  (Spec.applies_iff w_frames).mpr ⟨w_running, w_runnable, w_alone, w_named, w_hears, w_ripe, w_room, w_tables⟩
theorem atStart : AtStart classFile x code maxLocals ret World_1 tables_1 room_1 Calls_1 rest_1 Pre_1 launch0 p0 e0 about1 theMethod args0 below0 :=
  ⟨lists_1, trivial, launch0.admits_env _ _ _, launch0.least_env, fairChoices_fair.cas, fairChoices_fair.clock, w_frames, w_args, w_heap, w_applies, trivial, trivial, w_case⟩
end start1
theorem witness_1 : WitnessClaimed_1 := ⟨start1.p0, start1.e0, start1.about1, start1.theMethod, start1.args0, start1.below0, start1.atStart⟩
end Jvm.Pilot.@@N@@
