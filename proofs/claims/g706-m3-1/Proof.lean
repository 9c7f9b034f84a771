import JvmDerived
import JvmDerived.Pilot.@@N@@Statement
import JvmDerived.Pilot.@@N@@Code
set_option linter.unusedVariables false
set_option linter.unusedSimpArgs false
namespace Jvm.OwnKit
open Sem ClassFile Op Lib Jvm.Stand Jvm.Free Jvm.LawKit Jvm.RoadKit
section Walk
variable {p : Program} {l : Launch} {e : Env} {R : Room} {s : State} {m : MethodId} {args : Array Value} {below : List Frame} {meth : Method} {c : Code} {T : State} {locs : List Loc} {cells slots : Nat} {Z : State} {a0 : Array Value} {h : Heap} {G : Outcome → State → Prop}
variable {x0 : MethodName} {code : ByteArray} {maxL : Nat} {ret : Option FieldType}
/-- what is still owed from the frame g on: the run ends, and G holds of the end -/
def Go (tb : Tables) (e : Env) (below : List Frame) (G : Outcome → State → Prop) (T : State) (g : JFrame) : Prop :=
  ∃ s₂ o, Steps tb e below (T.setTop g) s₂ ∧ s₂.status = .running ∧ Ended s₂ below o ∧ G o s₂
theorem Go.step {tb : Tables} {T T' : State} {g g' : JFrame} (q : ∀ t, Steps tb e below (T'.setTop g') t → Steps tb e below (T.setTop g) t) (k : Go tb e below G T' g') : Go tb e below G T g := by
  obtain ⟨s2, o, h1, h2⟩ := k
  exact ⟨s2, o, q _ h1, h2⟩
/-- what stands still while one body is walked -/
def Cx (p : Program) (l : Launch) (s : State) (m : MethodId) (meth : Method) (c : Code) (Z : State) (x0 : MethodName) (code : ByteArray) (maxL : Nat) (ret : Option FieldType) : Prop :=
  p.tables.exec = Jvm.exec ∧ Z.Warmed39 s.vm ∧ c.code = code ∧ c.maxLocals = maxL ∧ s.vm.findClass x0.cls = some m.cls ∧ meth.sig.returnType = ret ∧ meth.locks = false ∧ meth.name = x0.name
theorem Cx.exec (C : Cx p l s m meth c Z x0 code maxL ret) : p.tables.exec = Jvm.exec := C.1
theorem Cx.warm (C : Cx p l s m meth c Z x0 code maxL ret) : Z.Warmed39 s.vm := C.2.1
theorem Cx.bytes (C : Cx p l s m meth c Z x0 code maxL ret) : c.code = code := C.2.2.1
theorem Cx.maxl (C : Cx p l s m meth c Z x0 code maxL ret) : c.maxLocals = maxL := C.2.2.2.1
theorem Cx.own (C : Cx p l s m meth c Z x0 code maxL ret) : s.vm.findClass x0.cls = some m.cls := C.2.2.2.2.1
theorem Cx.rets (C : Cx p l s m meth c Z x0 code maxL ret) : meth.sig.returnType = ret := C.2.2.2.2.2.1
theorem Cx.unlocked (C : Cx p l s m meth c Z x0 code maxL ret) : meth.locks = false := C.2.2.2.2.2.2.1
theorem Cx.nm (C : Cx p l s m meth c Z x0 code maxL ret) : meth.name = x0.name := C.2.2.2.2.2.2.2
theorem Cx.at (C : Cx p l s m meth c Z x0 code maxL ret) {pc : Nat} {r : Except ClassFile.DecodeError (ClassFile.Instr × Nat)} (h2 : decode code pc = r) : decode c.code pc = r := hb C.bytes h2
/-- the end of a walk: what is returned, the heap and the places written answer Q -/
def End (s : State) (Q : Option Value → Heap → List Loc → Prop) (k n : Nat) (o : Outcome) (U : State) : Prop := ∃ v L, o = .returned v ∧ Q v U.heap L ∧ FrameEnd s o U L k n
/-- a body's contract at one call: the arguments as, the heap h -/
def Con (l : Launch) (Z : State) (y : MethodName) (bytes : ByteArray) (maxL : Nat) (ret : Option FieldType) (rm : Room) (as : Array Value) (h : Heap) (Q : Option Value → Heap → List Loc → Prop) : Prop :=
  ∀ ws, MetFree l y (head1 (Cond.code y bytes maxL ret :: ws) rm) (fun a U => a = as ∧ Z.Warmed39 U.vm ∧ U.heap = h) (fun _ _ _ _ _ => True) (fun _ U o U' => End U Q rm.cells rm.slots o U')
theorem con_of_goF {rm : Room} {as : Array Value} {Q : Option Value → Heap → List Loc → Prop} {Ls : Array Slot} (hn : plainFor x0 = true) (hef : ∀ m, entryFrame m as maxL = mkF m 0 Ls [])
    (H : ∀ (p : Program) (e : Env) (s : State) (m : MethodId) (below : List Frame) (meth : Method) (c : Code) (T : State), Cx p l s m meth c Z x0 code maxL ret → Stand p l e rm s m as below meth c T [] 0 0 → T.heap = h → Go p.tables e below (End s Q rm.cells rm.slots) T (mkF m 0 Ls [])) :
    Con l Z x0 code maxL ret rm as h Q := by
  intro ws
  refine MetFree.of_bodySF hn hisR ?_
  intro p e s m args below meth c s₁ Bd hml hP hK
  obtain ⟨rfl, hZ, hh⟩ := hP
  have X0 : Stand p l e rm s m args below meth c s₁ [] 0 0 := Stand.of_body Bd
  have e0 : s₁.heap = h := by rw [← hh, Bd.state]; rfl
  have q := H p e s m below meth c s₁ ⟨Bd.exec, hZ, Bd.bytes, hml, findClass_of_methodNamed Bd.named, Bd.returns, Bd.notSynchronized, (name_of_methodNamed Bd.named Bd.method).1⟩ X0 e0
  rw [hef]
  exact q
theorem con_of_go {rm : Room} {as : Array Value} {Q : Option Value → Heap → List Loc → Prop} {Ls : Array Slot} (hn : plainName x0.cls = true) (hef : ∀ m, entryFrame m as maxL = mkF m 0 Ls [])
    (H : ∀ (p : Program) (e : Env) (s : State) (m : MethodId) (below : List Frame) (meth : Method) (c : Code) (T : State), Cx p l s m meth c Z x0 code maxL ret → Stand p l e rm s m as below meth c T [] 0 0 → T.heap = h → Go p.tables e below (End s Q rm.cells rm.slots) T (mkF m 0 Ls [])) :
    Con l Z x0 code maxL ret rm as h Q := con_of_goF (plainFor_of_name hn) hef H
theorem g_aloadN (C : Cx p l s m meth c Z x0 code maxL ret) (X : Stand p l e R s m args below meth c T locs cells slots) {pc pc' : Nat} {Ls : Array Slot} {st : List Value} {k : Fin 4} {v : Value} (hd : decode code pc = .ok (.aload_n k, 1)) (hl : Ls[k.val]? = some (.val v)) (hv : v.isRef = true) (hp : pc + 1 = pc')
    (K : Go p.tables e below G T (mkF m pc' Ls (v :: st))) : Go p.tables e below G T (mkF m pc Ls (st)) := by
  subst hp; exact Go.step (fun _ k => XS.aloadN X.here C.exec rfl (C.at hd) hl hv k) K
theorem g_aload (C : Cx p l s m meth c Z x0 code maxL ret) (X : Stand p l e R s m args below meth c T locs cells slots) {pc pc' : Nat} {Ls : Array Slot} {st : List Value} {k : Nat} {v : Value} (hd : decode code pc = .ok (.aload k, 2)) (hl : Ls[k]? = some (.val v)) (hv : v.isRef = true) (hp : pc + 2 = pc')
    (K : Go p.tables e below G T (mkF m pc' Ls (v :: st))) : Go p.tables e below G T (mkF m pc Ls (st)) := by
  subst hp; exact Go.step (fun _ k => XS.aload X.here C.exec rfl (C.at hd) hl hv k) K
theorem g_iloadN (C : Cx p l s m meth c Z x0 code maxL ret) (X : Stand p l e R s m args below meth c T locs cells slots) {pc pc' : Nat} {Ls : Array Slot} {st : List Value} {k : Fin 4} {v : Int32} (hd : decode code pc = .ok (.iload_n k, 1)) (hl : Ls[k.val]? = some (.val (.int v))) (hp : pc + 1 = pc')
    (K : Go p.tables e below G T (mkF m pc' Ls (.int v :: st))) : Go p.tables e below G T (mkF m pc Ls (st)) := by
  subst hp; exact Go.step (fun _ k => XS.iloadN X.here C.exec rfl (C.at hd) hl k) K
theorem g_iload (C : Cx p l s m meth c Z x0 code maxL ret) (X : Stand p l e R s m args below meth c T locs cells slots) {pc pc' : Nat} {Ls : Array Slot} {st : List Value} {k : Nat} {v : Int32} (hd : decode code pc = .ok (.iload k, 2)) (hl : Ls[k]? = some (.val (.int v))) (hp : pc + 2 = pc')
    (K : Go p.tables e below G T (mkF m pc' Ls (.int v :: st))) : Go p.tables e below G T (mkF m pc Ls (st)) := by
  subst hp; exact Go.step (fun _ k => XS.iload X.here C.exec rfl (C.at hd) hl k) K
theorem g_istoreN (C : Cx p l s m meth c Z x0 code maxL ret) (X : Stand p l e R s m args below meth c T locs cells slots) {pc pc' : Nat} {Ls : Array Slot} {st : List Value} {k : Fin 4} {x y : Int32} {l' : Array Slot} (hd : decode code pc = .ok (.istore_n k, 1)) (hv : x = y) (hl : storeLocals Ls k.val (.int x) = some l') (hp : pc + 1 = pc')
    (K : Go p.tables e below G T (mkF m pc' l' (st))) : Go p.tables e below G T (mkF m pc Ls (.int y :: st)) := by
  subst hp; subst hv; exact Go.step (fun _ k => XS.istoreN X.here C.exec rfl (C.at hd) rfl hl k) K
theorem g_istore (C : Cx p l s m meth c Z x0 code maxL ret) (X : Stand p l e R s m args below meth c T locs cells slots) {pc pc' : Nat} {Ls : Array Slot} {st : List Value} {k : Nat} {x y : Int32} {l' : Array Slot} (hd : decode code pc = .ok (.istore k, 2)) (hv : x = y) (hl : storeLocals Ls k (.int x) = some l') (hp : pc + 2 = pc')
    (K : Go p.tables e below G T (mkF m pc' l' (st))) : Go p.tables e below G T (mkF m pc Ls (.int y :: st)) := by
  subst hp; subst hv; exact Go.step (fun _ k => XS.istore X.here C.exec rfl (C.at hd) rfl hl k) K
theorem g_lloadN (C : Cx p l s m meth c Z x0 code maxL ret) (X : Stand p l e R s m args below meth c T locs cells slots) {pc pc' : Nat} {Ls : Array Slot} {st : List Value} {k : Fin 4} {v : Int64} (hd : decode code pc = .ok (.lload_n k, 1)) (hl : Ls[k.val]? = some (.val (.long v))) (hp : pc + 1 = pc')
    (K : Go p.tables e below G T (mkF m pc' Ls (.long v :: st))) : Go p.tables e below G T (mkF m pc Ls (st)) := by
  subst hp; exact Go.step (fun _ k => XT.lloadN X.here C.exec rfl (C.at hd) hl k) K
theorem g_lload (C : Cx p l s m meth c Z x0 code maxL ret) (X : Stand p l e R s m args below meth c T locs cells slots) {pc pc' : Nat} {Ls : Array Slot} {st : List Value} {k : Nat} {v : Int64} (hd : decode code pc = .ok (.lload k, 2)) (hl : Ls[k]? = some (.val (.long v))) (hp : pc + 2 = pc')
    (K : Go p.tables e below G T (mkF m pc' Ls (.long v :: st))) : Go p.tables e below G T (mkF m pc Ls (st)) := by
  subst hp; exact Go.step (fun _ k => XT.lload X.here C.exec rfl (C.at hd) hl k) K
theorem g_lstoreN (C : Cx p l s m meth c Z x0 code maxL ret) (X : Stand p l e R s m args below meth c T locs cells slots) {pc pc' : Nat} {Ls : Array Slot} {st : List Value} {k : Fin 4} {x y : Int64} {l' : Array Slot} (hd : decode code pc = .ok (.lstore_n k, 1)) (hv : x = y) (hl : storeLocals Ls k.val (.long x) = some l') (hp : pc + 1 = pc')
    (K : Go p.tables e below G T (mkF m pc' l' (st))) : Go p.tables e below G T (mkF m pc Ls (.long y :: st)) := by
  subst hp; subst hv; exact Go.step (fun _ k => XT.lstoreN X.here C.exec rfl (C.at hd) rfl hl k) K
theorem g_lstore (C : Cx p l s m meth c Z x0 code maxL ret) (X : Stand p l e R s m args below meth c T locs cells slots) {pc pc' : Nat} {Ls : Array Slot} {st : List Value} {k : Nat} {x y : Int64} {l' : Array Slot} (hd : decode code pc = .ok (.lstore k, 2)) (hv : x = y) (hl : storeLocals Ls k (.long x) = some l') (hp : pc + 2 = pc')
    (K : Go p.tables e below G T (mkF m pc' l' (st))) : Go p.tables e below G T (mkF m pc Ls (.long y :: st)) := by
  subst hp; subst hv; exact Go.step (fun _ k => XT.lstore X.here C.exec rfl (C.at hd) rfl hl k) K
theorem g_dloadN (C : Cx p l s m meth c Z x0 code maxL ret) (X : Stand p l e R s m args below meth c T locs cells slots) {pc pc' : Nat} {Ls : Array Slot} {st : List Value} {k : Fin 4} {v : UInt64} (hd : decode code pc = .ok (.dload_n k, 1)) (hl : Ls[k.val]? = some (.val (.double v))) (hp : pc + 1 = pc')
    (K : Go p.tables e below G T (mkF m pc' Ls (.double v :: st))) : Go p.tables e below G T (mkF m pc Ls (st)) := by
  subst hp; exact Go.step (fun _ k => XS.dloadN X.here C.exec rfl (C.at hd) hl k) K
theorem g_dload (C : Cx p l s m meth c Z x0 code maxL ret) (X : Stand p l e R s m args below meth c T locs cells slots) {pc pc' : Nat} {Ls : Array Slot} {st : List Value} {k : Nat} {v : UInt64} (hd : decode code pc = .ok (.dload k, 2)) (hl : Ls[k]? = some (.val (.double v))) (hp : pc + 2 = pc')
    (K : Go p.tables e below G T (mkF m pc' Ls (.double v :: st))) : Go p.tables e below G T (mkF m pc Ls (st)) := by
  subst hp; exact Go.step (fun _ k => XS.dload X.here C.exec rfl (C.at hd) hl k) K
theorem g_dstoreN (C : Cx p l s m meth c Z x0 code maxL ret) (X : Stand p l e R s m args below meth c T locs cells slots) {pc pc' : Nat} {Ls : Array Slot} {st : List Value} {k : Fin 4} {x y : UInt64} {l' : Array Slot} (hd : decode code pc = .ok (.dstore_n k, 1)) (hv : x = y) (hl : storeLocals Ls k.val (.double x) = some l') (hp : pc + 1 = pc')
    (K : Go p.tables e below G T (mkF m pc' l' (st))) : Go p.tables e below G T (mkF m pc Ls (.double y :: st)) := by
  subst hp; subst hv; exact Go.step (fun _ k => XS.dstoreN X.here C.exec rfl (C.at hd) rfl hl k) K
theorem g_dstore (C : Cx p l s m meth c Z x0 code maxL ret) (X : Stand p l e R s m args below meth c T locs cells slots) {pc pc' : Nat} {Ls : Array Slot} {st : List Value} {k : Nat} {x y : UInt64} {l' : Array Slot} (hd : decode code pc = .ok (.dstore k, 2)) (hv : x = y) (hl : storeLocals Ls k (.double x) = some l') (hp : pc + 2 = pc')
    (K : Go p.tables e below G T (mkF m pc' l' (st))) : Go p.tables e below G T (mkF m pc Ls (.double y :: st)) := by
  subst hp; subst hv; exact Go.step (fun _ k => XS.dstore X.here C.exec rfl (C.at hd) rfl hl k) K
theorem g_astoreN (C : Cx p l s m meth c Z x0 code maxL ret) (X : Stand p l e R s m args below meth c T locs cells slots) {pc pc' : Nat} {Ls : Array Slot} {st : List Value} {k : Fin 4} {v : Value} {l' : Array Slot} (hd : decode code pc = .ok (.astore_n k, 1)) (hv : v.isRef = true) (hl : storeLocals Ls k.val v = some l') (hp : pc + 1 = pc')
    (K : Go p.tables e below G T (mkF m pc' l' (st))) : Go p.tables e below G T (mkF m pc Ls (v :: st)) := by
  subst hp; exact Go.step (fun _ k => XS.astoreN X.here C.exec rfl (C.at hd) rfl hv hl k) K
theorem g_astore (C : Cx p l s m meth c Z x0 code maxL ret) (X : Stand p l e R s m args below meth c T locs cells slots) {pc pc' : Nat} {Ls : Array Slot} {st : List Value} {k : Nat} {v : Value} {l' : Array Slot} (hd : decode code pc = .ok (.astore k, 2)) (hv : v.isRef = true) (hl : storeLocals Ls k v = some l') (hp : pc + 2 = pc')
    (K : Go p.tables e below G T (mkF m pc' l' (st))) : Go p.tables e below G T (mkF m pc Ls (v :: st)) := by
  subst hp; exact Go.step (fun _ k => XS.astore X.here C.exec rfl (C.at hd) rfl hv hl k) K
theorem g_iconst (C : Cx p l s m meth c Z x0 code maxL ret) (X : Stand p l e R s m args below meth c T locs cells slots) {pc pc' : Nat} {Ls : Array Slot} {st : List Value} {i : Int} {v : Int32} (hd : decode code pc = .ok (.iconst i, 1)) (hv : Int32.ofInt i = v) (hp : pc + 1 = pc')
    (K : Go p.tables e below G T (mkF m pc' Ls (.int v :: st))) : Go p.tables e below G T (mkF m pc Ls (st)) := by
  subst hp; subst hv; exact Go.step (fun _ k => XS.iconst X.here C.exec rfl (C.at hd)  k) K
theorem g_bipush (C : Cx p l s m meth c Z x0 code maxL ret) (X : Stand p l e R s m args below meth c T locs cells slots) {pc pc' : Nat} {Ls : Array Slot} {st : List Value} {i : Int} {v : Int32} (hd : decode code pc = .ok (.bipush i, 2)) (hv : (Int8.ofInt i).toInt32 = v) (hp : pc + 2 = pc')
    (K : Go p.tables e below G T (mkF m pc' Ls (.int v :: st))) : Go p.tables e below G T (mkF m pc Ls (st)) := by
  subst hp; subst hv; exact Go.step (fun _ k => XS.bipush X.here C.exec rfl (C.at hd)  k) K
theorem g_sipush (C : Cx p l s m meth c Z x0 code maxL ret) (X : Stand p l e R s m args below meth c T locs cells slots) {pc pc' : Nat} {Ls : Array Slot} {st : List Value} {i : Int} {v : Int32} (hd : decode code pc = .ok (.sipush i, 3)) (hv : (Int16.ofInt i).toInt32 = v) (hp : pc + 3 = pc')
    (K : Go p.tables e below G T (mkF m pc' Ls (.int v :: st))) : Go p.tables e below G T (mkF m pc Ls (st)) := by
  subst hp; subst hv; exact Go.step (fun _ k => XS.sipush X.here C.exec rfl (C.at hd)  k) K
theorem g_aconstNull (C : Cx p l s m meth c Z x0 code maxL ret) (X : Stand p l e R s m args below meth c T locs cells slots) {pc pc' : Nat} {Ls : Array Slot} {st : List Value}  (hd : decode code pc = .ok (.aconst_null, 1))  (hp : pc + 1 = pc')
    (K : Go p.tables e below G T (mkF m pc' Ls (.null :: st))) : Go p.tables e below G T (mkF m pc Ls (st)) := by
  subst hp; exact Go.step (fun _ k => XS.aconstNull X.here C.exec rfl (C.at hd)  k) K
theorem g_lconst (C : Cx p l s m meth c Z x0 code maxL ret) (X : Stand p l e R s m args below meth c T locs cells slots) {pc pc' : Nat} {Ls : Array Slot} {st : List Value} {k : Fin 2} {v : Int64} (hd : decode code pc = .ok (.lconst k, 1)) (hv : Int64.ofNat k = v) (hp : pc + 1 = pc')
    (K : Go p.tables e below G T (mkF m pc' Ls (.long v :: st))) : Go p.tables e below G T (mkF m pc Ls (st)) := by
  subst hp; subst hv; exact Go.step (fun _ k => XT.lconst X.here C.exec rfl (C.at hd)  k) K
theorem g_dconst0 (C : Cx p l s m meth c Z x0 code maxL ret) (X : Stand p l e R s m args below meth c T locs cells slots) {pc pc' : Nat} {Ls : Array Slot} {st : List Value} {v : UInt64} (hd : decode code pc = .ok (.dconst 0, 1)) (hv : FP.dconst0 = v) (hp : pc + 1 = pc')
    (K : Go p.tables e below G T (mkF m pc' Ls (.double v :: st))) : Go p.tables e below G T (mkF m pc Ls (st)) := by
  subst hp; exact Go.step (fun _ k => XS.dconst0 X.here C.exec rfl (C.at hd) hv k) K
theorem g_dconst1 (C : Cx p l s m meth c Z x0 code maxL ret) (X : Stand p l e R s m args below meth c T locs cells slots) {pc pc' : Nat} {Ls : Array Slot} {st : List Value} {v : UInt64} (hd : decode code pc = .ok (.dconst 1, 1)) (hv : FP.dconst1 = v) (hp : pc + 1 = pc')
    (K : Go p.tables e below G T (mkF m pc' Ls (.double v :: st))) : Go p.tables e below G T (mkF m pc Ls (st)) := by
  subst hp; exact Go.step (fun _ k => XS.dconst1 X.here C.exec rfl (C.at hd) hv k) K
theorem g_iadd (C : Cx p l s m meth c Z x0 code maxL ret) (X : Stand p l e R s m args below meth c T locs cells slots) {pc pc' : Nat} {Ls : Array Slot} {st : List Value} {x y : Int32} (hd : decode code pc = .ok (.iadd, 1))  (hp : pc + 1 = pc')
    (K : Go p.tables e below G T (mkF m pc' Ls (.int (x + y) :: st))) : Go p.tables e below G T (mkF m pc Ls (.int y :: .int x :: st)) := by
  subst hp; exact Go.step (fun _ k => XS.iadd X.here C.exec rfl (C.at hd) rfl k) K
theorem g_isub (C : Cx p l s m meth c Z x0 code maxL ret) (X : Stand p l e R s m args below meth c T locs cells slots) {pc pc' : Nat} {Ls : Array Slot} {st : List Value} {x y : Int32} (hd : decode code pc = .ok (.isub, 1))  (hp : pc + 1 = pc')
    (K : Go p.tables e below G T (mkF m pc' Ls (.int (x - y) :: st))) : Go p.tables e below G T (mkF m pc Ls (.int y :: .int x :: st)) := by
  subst hp; exact Go.step (fun _ k => XS.isub X.here C.exec rfl (C.at hd) rfl k) K
theorem g_iand (C : Cx p l s m meth c Z x0 code maxL ret) (X : Stand p l e R s m args below meth c T locs cells slots) {pc pc' : Nat} {Ls : Array Slot} {st : List Value} {x y : Int32} (hd : decode code pc = .ok (.iand, 1))  (hp : pc + 1 = pc')
    (K : Go p.tables e below G T (mkF m pc' Ls (.int (x &&& y) :: st))) : Go p.tables e below G T (mkF m pc Ls (.int y :: .int x :: st)) := by
  subst hp; exact Go.step (fun _ k => XS.iand X.here C.exec rfl (C.at hd) rfl k) K
theorem g_imul (C : Cx p l s m meth c Z x0 code maxL ret) (X : Stand p l e R s m args below meth c T locs cells slots) {pc pc' : Nat} {Ls : Array Slot} {st : List Value} {x y : Int32} (hd : decode code pc = .ok (.imul, 1))  (hp : pc + 1 = pc')
    (K : Go p.tables e below G T (mkF m pc' Ls (.int (x * y) :: st))) : Go p.tables e below G T (mkF m pc Ls (.int y :: .int x :: st)) := by
  subst hp; exact Go.step (fun _ k => XS.imul X.here C.exec rfl (C.at hd) rfl k) K
theorem g_idiv (C : Cx p l s m meth c Z x0 code maxL ret) (X : Stand p l e R s m args below meth c T locs cells slots) {pc pc' : Nat} {Ls : Array Slot} {st : List Value} {x y : Int32} (hd : decode code pc = .ok (.idiv, 1)) (hy : y ≠ 0) (hp : pc + 1 = pc')
    (K : Go p.tables e below G T (mkF m pc' Ls (.int (x / y) :: st))) : Go p.tables e below G T (mkF m pc Ls (.int y :: .int x :: st)) := by
  subst hp; exact Go.step (fun _ k => XS.idiv X.here C.exec rfl (C.at hd) rfl hy k) K
theorem g_ineg (C : Cx p l s m meth c Z x0 code maxL ret) (X : Stand p l e R s m args below meth c T locs cells slots) {pc pc' : Nat} {Ls : Array Slot} {st : List Value} {x : Int32} (hd : decode code pc = .ok (.ineg, 1))  (hp : pc + 1 = pc')
    (K : Go p.tables e below G T (mkF m pc' Ls (.int (-x) :: st))) : Go p.tables e below G T (mkF m pc Ls (.int x :: st)) := by
  subst hp; exact Go.step (fun _ k => XS.ineg X.here C.exec rfl (C.at hd) rfl k) K
theorem g_ixor (C : Cx p l s m meth c Z x0 code maxL ret) (X : Stand p l e R s m args below meth c T locs cells slots) {pc pc' : Nat} {Ls : Array Slot} {st : List Value} {x y : Int32} (hd : decode code pc = .ok (.ixor, 1))  (hp : pc + 1 = pc')
    (K : Go p.tables e below G T (mkF m pc' Ls (.int (x ^^^ y) :: st))) : Go p.tables e below G T (mkF m pc Ls (.int y :: .int x :: st)) := by
  subst hp; exact Go.step (fun _ k => XT.ixor X.here C.exec rfl (C.at hd) rfl k) K
theorem g_ior (C : Cx p l s m meth c Z x0 code maxL ret) (X : Stand p l e R s m args below meth c T locs cells slots) {pc pc' : Nat} {Ls : Array Slot} {st : List Value} {x y : Int32} (hd : decode code pc = .ok (.ior, 1))  (hp : pc + 1 = pc')
    (K : Go p.tables e below G T (mkF m pc' Ls (.int (x ||| y) :: st))) : Go p.tables e below G T (mkF m pc Ls (.int y :: .int x :: st)) := by
  subst hp; exact Go.step (fun _ k => XT.ior X.here C.exec rfl (C.at hd) rfl k) K
theorem g_ishl (C : Cx p l s m meth c Z x0 code maxL ret) (X : Stand p l e R s m args below meth c T locs cells slots) {pc pc' : Nat} {Ls : Array Slot} {st : List Value} {x y : Int32} (hd : decode code pc = .ok (.ishl, 1))  (hp : pc + 1 = pc')
    (K : Go p.tables e below G T (mkF m pc' Ls (.int (x <<< (y &&& 31)) :: st))) : Go p.tables e below G T (mkF m pc Ls (.int y :: .int x :: st)) := by
  subst hp; exact Go.step (fun _ k => XT.ishl X.here C.exec rfl (C.at hd) rfl k) K
theorem g_ishr (C : Cx p l s m meth c Z x0 code maxL ret) (X : Stand p l e R s m args below meth c T locs cells slots) {pc pc' : Nat} {Ls : Array Slot} {st : List Value} {x y : Int32} (hd : decode code pc = .ok (.ishr, 1))  (hp : pc + 1 = pc')
    (K : Go p.tables e below G T (mkF m pc' Ls (.int (x >>> (y &&& 31)) :: st))) : Go p.tables e below G T (mkF m pc Ls (.int y :: .int x :: st)) := by
  subst hp; exact Go.step (fun _ k => XT.ishr X.here C.exec rfl (C.at hd) rfl k) K
theorem g_iushr (C : Cx p l s m meth c Z x0 code maxL ret) (X : Stand p l e R s m args below meth c T locs cells slots) {pc pc' : Nat} {Ls : Array Slot} {st : List Value} {x y : Int32} (hd : decode code pc = .ok (.iushr, 1))  (hp : pc + 1 = pc')
    (K : Go p.tables e below G T (mkF m pc' Ls (.int (XT.ushr x y) :: st))) : Go p.tables e below G T (mkF m pc Ls (.int y :: .int x :: st)) := by
  subst hp; exact Go.step (fun _ k => XT.iushr X.here C.exec rfl (C.at hd) rfl k) K
theorem g_ladd (C : Cx p l s m meth c Z x0 code maxL ret) (X : Stand p l e R s m args below meth c T locs cells slots) {pc pc' : Nat} {Ls : Array Slot} {st : List Value} {x y : Int64} (hd : decode code pc = .ok (.ladd, 1))  (hp : pc + 1 = pc')
    (K : Go p.tables e below G T (mkF m pc' Ls (.long (x + y) :: st))) : Go p.tables e below G T (mkF m pc Ls (.long y :: .long x :: st)) := by
  subst hp; exact Go.step (fun _ k => XT.ladd X.here C.exec rfl (C.at hd) rfl k) K
theorem g_lsub (C : Cx p l s m meth c Z x0 code maxL ret) (X : Stand p l e R s m args below meth c T locs cells slots) {pc pc' : Nat} {Ls : Array Slot} {st : List Value} {x y : Int64} (hd : decode code pc = .ok (.lsub, 1))  (hp : pc + 1 = pc')
    (K : Go p.tables e below G T (mkF m pc' Ls (.long (x - y) :: st))) : Go p.tables e below G T (mkF m pc Ls (.long y :: .long x :: st)) := by
  subst hp; exact Go.step (fun _ k => XT.lsub X.here C.exec rfl (C.at hd) rfl k) K
theorem g_lmul (C : Cx p l s m meth c Z x0 code maxL ret) (X : Stand p l e R s m args below meth c T locs cells slots) {pc pc' : Nat} {Ls : Array Slot} {st : List Value} {x y : Int64} (hd : decode code pc = .ok (.lmul, 1))  (hp : pc + 1 = pc')
    (K : Go p.tables e below G T (mkF m pc' Ls (.long (x * y) :: st))) : Go p.tables e below G T (mkF m pc Ls (.long y :: .long x :: st)) := by
  subst hp; exact Go.step (fun _ k => XT.lmul X.here C.exec rfl (C.at hd) rfl k) K
theorem g_land (C : Cx p l s m meth c Z x0 code maxL ret) (X : Stand p l e R s m args below meth c T locs cells slots) {pc pc' : Nat} {Ls : Array Slot} {st : List Value} {x y : Int64} (hd : decode code pc = .ok (.land, 1))  (hp : pc + 1 = pc')
    (K : Go p.tables e below G T (mkF m pc' Ls (.long (x &&& y) :: st))) : Go p.tables e below G T (mkF m pc Ls (.long y :: .long x :: st)) := by
  subst hp; exact Go.step (fun _ k => XT.land X.here C.exec rfl (C.at hd) rfl k) K
theorem g_lor (C : Cx p l s m meth c Z x0 code maxL ret) (X : Stand p l e R s m args below meth c T locs cells slots) {pc pc' : Nat} {Ls : Array Slot} {st : List Value} {x y : Int64} (hd : decode code pc = .ok (.lor, 1))  (hp : pc + 1 = pc')
    (K : Go p.tables e below G T (mkF m pc' Ls (.long (x ||| y) :: st))) : Go p.tables e below G T (mkF m pc Ls (.long y :: .long x :: st)) := by
  subst hp; exact Go.step (fun _ k => XT.lor X.here C.exec rfl (C.at hd) rfl k) K
theorem g_lxor (C : Cx p l s m meth c Z x0 code maxL ret) (X : Stand p l e R s m args below meth c T locs cells slots) {pc pc' : Nat} {Ls : Array Slot} {st : List Value} {x y : Int64} (hd : decode code pc = .ok (.lxor, 1))  (hp : pc + 1 = pc')
    (K : Go p.tables e below G T (mkF m pc' Ls (.long (x ^^^ y) :: st))) : Go p.tables e below G T (mkF m pc Ls (.long y :: .long x :: st)) := by
  subst hp; exact Go.step (fun _ k => XT.lxor X.here C.exec rfl (C.at hd) rfl k) K
theorem g_lneg (C : Cx p l s m meth c Z x0 code maxL ret) (X : Stand p l e R s m args below meth c T locs cells slots) {pc pc' : Nat} {Ls : Array Slot} {st : List Value} {x : Int64} (hd : decode code pc = .ok (.lneg, 1))  (hp : pc + 1 = pc')
    (K : Go p.tables e below G T (mkF m pc' Ls (.long (-x) :: st))) : Go p.tables e below G T (mkF m pc Ls (.long x :: st)) := by
  subst hp; exact Go.step (fun _ k => XT.lneg X.here C.exec rfl (C.at hd) rfl k) K
theorem g_i2l (C : Cx p l s m meth c Z x0 code maxL ret) (X : Stand p l e R s m args below meth c T locs cells slots) {pc pc' : Nat} {Ls : Array Slot} {st : List Value} {x : Int32} (hd : decode code pc = .ok (.i2l, 1))  (hp : pc + 1 = pc')
    (K : Go p.tables e below G T (mkF m pc' Ls (.long x.toInt64 :: st))) : Go p.tables e below G T (mkF m pc Ls (.int x :: st)) := by
  subst hp; exact Go.step (fun _ k => XT.i2l X.here C.exec rfl (C.at hd) rfl k) K
theorem g_l2i (C : Cx p l s m meth c Z x0 code maxL ret) (X : Stand p l e R s m args below meth c T locs cells slots) {pc pc' : Nat} {Ls : Array Slot} {st : List Value} {x : Int64} (hd : decode code pc = .ok (.l2i, 1))  (hp : pc + 1 = pc')
    (K : Go p.tables e below G T (mkF m pc' Ls (.int x.toInt32 :: st))) : Go p.tables e below G T (mkF m pc Ls (.long x :: st)) := by
  subst hp; exact Go.step (fun _ k => XT.l2i X.here C.exec rfl (C.at hd) rfl k) K
theorem g_i2b (C : Cx p l s m meth c Z x0 code maxL ret) (X : Stand p l e R s m args below meth c T locs cells slots) {pc pc' : Nat} {Ls : Array Slot} {st : List Value} {x : Int32} (hd : decode code pc = .ok (.i2b, 1))  (hp : pc + 1 = pc')
    (K : Go p.tables e below G T (mkF m pc' Ls (.int x.toInt8.toInt32 :: st))) : Go p.tables e below G T (mkF m pc Ls (.int x :: st)) := by
  subst hp; exact Go.step (fun _ k => XT.i2b X.here C.exec rfl (C.at hd) rfl k) K
theorem g_i2s (C : Cx p l s m meth c Z x0 code maxL ret) (X : Stand p l e R s m args below meth c T locs cells slots) {pc pc' : Nat} {Ls : Array Slot} {st : List Value} {x : Int32} (hd : decode code pc = .ok (.i2s, 1))  (hp : pc + 1 = pc')
    (K : Go p.tables e below G T (mkF m pc' Ls (.int x.toInt16.toInt32 :: st))) : Go p.tables e below G T (mkF m pc Ls (.int x :: st)) := by
  subst hp; exact Go.step (fun _ k => XT.i2s X.here C.exec rfl (C.at hd) rfl k) K
theorem g_i2d (C : Cx p l s m meth c Z x0 code maxL ret) (X : Stand p l e R s m args below meth c T locs cells slots) {pc pc' : Nat} {Ls : Array Slot} {st : List Value} {x : Int32} (hd : decode code pc = .ok (.i2d, 1))  (hp : pc + 1 = pc')
    (K : Go p.tables e below G T (mkF m pc' Ls (.double (FP.i2d x) :: st))) : Go p.tables e below G T (mkF m pc Ls (.int x :: st)) := by
  subst hp; exact Go.step (fun _ k => XS.i2dS X.here C.exec rfl (C.at hd) rfl rfl k) K
theorem g_l2d (C : Cx p l s m meth c Z x0 code maxL ret) (X : Stand p l e R s m args below meth c T locs cells slots) {pc pc' : Nat} {Ls : Array Slot} {st : List Value} {x : Int64} (hd : decode code pc = .ok (.l2d, 1))  (hp : pc + 1 = pc')
    (K : Go p.tables e below G T (mkF m pc' Ls (.double (FP.l2d x) :: st))) : Go p.tables e below G T (mkF m pc Ls (.long x :: st)) := by
  subst hp; exact Go.step (fun _ k => XS.l2dS X.here C.exec rfl (C.at hd) rfl rfl k) K
theorem g_dneg (C : Cx p l s m meth c Z x0 code maxL ret) (X : Stand p l e R s m args below meth c T locs cells slots) {pc pc' : Nat} {Ls : Array Slot} {st : List Value} {x : UInt64} (hd : decode code pc = .ok (.dneg, 1))  (hp : pc + 1 = pc')
    (K : Go p.tables e below G T (mkF m pc' Ls (.double (FP.dneg x) :: st))) : Go p.tables e below G T (mkF m pc Ls (.double x :: st)) := by
  subst hp; exact Go.step (fun _ k => XS.dnegS X.here C.exec rfl (C.at hd) rfl rfl k) K
theorem g_dcmp (C : Cx p l s m meth c Z x0 code maxL ret) (X : Stand p l e R s m args below meth c T locs cells slots) {pc pc' : Nat} {Ls : Array Slot} {st : List Value} {o : CmpOp} {x y : UInt64} (hd : decode code pc = .ok (.dcmp o, 1))  (hp : pc + 1 = pc')
    (K : Go p.tables e below G T (mkF m pc' Ls (.int (cmpValue (FP.dcmp x y) o) :: st))) : Go p.tables e below G T (mkF m pc Ls (.double y :: .double x :: st)) := by
  subst hp; exact Go.step (fun _ k => XS.dcmpS X.here C.exec rfl (C.at hd) rfl rfl k) K
theorem g_dcmpV (C : Cx p l s m meth c Z x0 code maxL ret) (X : Stand p l e R s m args below meth c T locs cells slots) {pc pc' : Nat} {Ls : Array Slot} {st : List Value} {o : CmpOp} {x y : UInt64} {v : Int32} (hd : decode code pc = .ok (.dcmp o, 1)) (hv : cmpValue (FP.dcmp x y) o = v) (hp : pc + 1 = pc')
    (K : Go p.tables e below G T (mkF m pc' Ls (.int v :: st))) : Go p.tables e below G T (mkF m pc Ls (.double y :: .double x :: st)) := by
  subst hp; exact Go.step (fun _ k => XS.dcmpS X.here C.exec rfl (C.at hd) rfl hv k) K
theorem g_dadd (C : Cx p l s m meth c Z x0 code maxL ret) (X : Stand p l e R s m args below meth c T locs cells slots) {pc pc' : Nat} {Ls : Array Slot} {st : List Value} {x y : UInt64} (hd : decode code pc = .ok (.dadd, 1)) (hn : Jvm.Free.Fl.NoNaN64 (FP.dadd x y)) (hp : pc + 1 = pc')
    (K : Go p.tables e below G T (mkF m pc' Ls (.double (FP.dadd x y) :: st))) : Go p.tables e below G T (mkF m pc Ls (.double y :: .double x :: st)) := by
  subst hp; exact Go.step (fun _ k => XS.daddS X.here C.exec rfl (C.at hd) rfl hn rfl k) K
theorem g_dsub (C : Cx p l s m meth c Z x0 code maxL ret) (X : Stand p l e R s m args below meth c T locs cells slots) {pc pc' : Nat} {Ls : Array Slot} {st : List Value} {x y : UInt64} (hd : decode code pc = .ok (.dsub, 1)) (hn : Jvm.Free.Fl.NoNaN64 (FP.dsub x y)) (hp : pc + 1 = pc')
    (K : Go p.tables e below G T (mkF m pc' Ls (.double (FP.dsub x y) :: st))) : Go p.tables e below G T (mkF m pc Ls (.double y :: .double x :: st)) := by
  subst hp; exact Go.step (fun _ k => XS.dsubS X.here C.exec rfl (C.at hd) rfl hn rfl k) K
theorem g_dmul (C : Cx p l s m meth c Z x0 code maxL ret) (X : Stand p l e R s m args below meth c T locs cells slots) {pc pc' : Nat} {Ls : Array Slot} {st : List Value} {x y : UInt64} (hd : decode code pc = .ok (.dmul, 1)) (hn : Jvm.Free.Fl.NoNaN64 (FP.dmul x y)) (hp : pc + 1 = pc')
    (K : Go p.tables e below G T (mkF m pc' Ls (.double (FP.dmul x y) :: st))) : Go p.tables e below G T (mkF m pc Ls (.double y :: .double x :: st)) := by
  subst hp; exact Go.step (fun _ k => XS.dmulS X.here C.exec rfl (C.at hd) rfl hn rfl k) K
theorem g_ddiv (C : Cx p l s m meth c Z x0 code maxL ret) (X : Stand p l e R s m args below meth c T locs cells slots) {pc pc' : Nat} {Ls : Array Slot} {st : List Value} {x y : UInt64} (hd : decode code pc = .ok (.ddiv, 1)) (hn : Jvm.Free.Fl.NoNaN64 (FP.ddiv x y)) (hp : pc + 1 = pc')
    (K : Go p.tables e below G T (mkF m pc' Ls (.double (FP.ddiv x y) :: st))) : Go p.tables e below G T (mkF m pc Ls (.double y :: .double x :: st)) := by
  subst hp; exact Go.step (fun _ k => XS.ddivS X.here C.exec rfl (C.at hd) rfl hn rfl k) K
theorem g_lcmp (C : Cx p l s m meth c Z x0 code maxL ret) (X : Stand p l e R s m args below meth c T locs cells slots) {pc pc' : Nat} {Ls : Array Slot} {st : List Value} {x y : Int64} (hd : decode code pc = .ok (.lcmp, 1))  (hp : pc + 1 = pc')
    (K : Go p.tables e below G T (mkF m pc' Ls (.int (XT.cmpL x y) :: st))) : Go p.tables e below G T (mkF m pc Ls (.long y :: .long x :: st)) := by
  subst hp; exact Go.step (fun _ k => XT.lcmp X.here C.exec rfl (C.at hd) rfl k) K
theorem g_pop (C : Cx p l s m meth c Z x0 code maxL ret) (X : Stand p l e R s m args below meth c T locs cells slots) {pc pc' : Nat} {Ls : Array Slot} {st : List Value} {x : Value} (hd : decode code pc = .ok (.pop, 1)) (hc : x.category = 1) (hp : pc + 1 = pc')
    (K : Go p.tables e below G T (mkF m pc' Ls (st))) : Go p.tables e below G T (mkF m pc Ls (x :: st)) := by
  subst hp; exact Go.step (fun _ k => XT.pop X.here C.exec rfl (C.at hd) rfl hc k) K
theorem g_dup (C : Cx p l s m meth c Z x0 code maxL ret) (X : Stand p l e R s m args below meth c T locs cells slots) {pc pc' : Nat} {Ls : Array Slot} {st : List Value} {x : Value} (hd : decode code pc = .ok (.dup, 1)) (hc : x.category = 1) (hp : pc + 1 = pc')
    (K : Go p.tables e below G T (mkF m pc' Ls (x :: x :: st))) : Go p.tables e below G T (mkF m pc Ls (x :: st)) := by
  subst hp; exact Go.step (fun _ k => XS.dup X.here C.exec rfl (C.at hd) rfl hc k) K
theorem g_dupX1 (C : Cx p l s m meth c Z x0 code maxL ret) (X : Stand p l e R s m args below meth c T locs cells slots) {pc pc' : Nat} {Ls : Array Slot} {st : List Value} {x y : Value} (hd : decode code pc = .ok (.dup_x1, 1)) (hc : x.category = 1) (hc' : y.category = 1) (hp : pc + 1 = pc')
    (K : Go p.tables e below G T (mkF m pc' Ls (x :: y :: x :: st))) : Go p.tables e below G T (mkF m pc Ls (x :: y :: st)) := by
  subst hp; exact Go.step (fun _ k => XT.dupX1 X.here C.exec rfl (C.at hd) rfl hc hc' k) K
theorem g_dup2 (C : Cx p l s m meth c Z x0 code maxL ret) (X : Stand p l e R s m args below meth c T locs cells slots) {pc pc' : Nat} {Ls : Array Slot} {st : List Value} {x y : Value} (hd : decode code pc = .ok (.dup2, 1)) (hc : x.category = 1) (hc' : y.category = 1) (hp : pc + 1 = pc')
    (K : Go p.tables e below G T (mkF m pc' Ls (x :: y :: x :: y :: st))) : Go p.tables e below G T (mkF m pc Ls (x :: y :: st)) := by
  subst hp; exact Go.step (fun _ k => XT.dup2 X.here C.exec rfl (C.at hd) rfl hc hc' k) K
theorem g_iinc (C : Cx p l s m meth c Z x0 code maxL ret) (X : Stand p l e R s m args below meth c T locs cells slots) {pc pc' : Nat} {Ls : Array Slot} {st : List Value} {k : Nat} {cst : Int} {x z : Int32} {l' : Array Slot} (hd : decode code pc = .ok (.iinc k cst, 3)) (hl : Ls[k]? = some (.val (.int x))) (hz : z = x + Int32.ofInt cst) (hl' : storeLocals Ls k (.int z) = some l') (hp : pc + 3 = pc')
    (K : Go p.tables e below G T (mkF m pc' l' (st))) : Go p.tables e below G T (mkF m pc Ls (st)) := by
  subst hp; subst hz; exact Go.step (fun _ k => XS.iinc X.here C.exec rfl (C.at hd) hl hl' k) K
theorem g_irem (C : Cx p l s m meth c Z x0 code maxL ret) (X : Stand p l e R s m args below meth c T locs cells slots) {pc pc' : Nat} {Ls : Array Slot} {st : List Value} {x y : Int32} (hd : decode code pc = .ok (.irem, 1)) (hy : y ≠ 0) (hp : pc + 1 = pc')
    (K : Go p.tables e below G T (mkF m pc' Ls (.int (x % y) :: st))) : Go p.tables e below G T (mkF m pc Ls (.int y :: .int x :: st)) := by
  subst hp; exact Go.step (fun _ k => iremM X C.exec rfl (C.at hd) rfl hy k) K
theorem g_lushr (C : Cx p l s m meth c Z x0 code maxL ret) (X : Stand p l e R s m args below meth c T locs cells slots) {pc pc' : Nat} {Ls : Array Slot} {st : List Value} {x : Int64} {y : Int32} (hd : decode code pc = .ok (.lushr, 1)) (hp : pc + 1 = pc')
    (K : Go p.tables e below G T (mkF m pc' Ls (.long (XT.ushrL x y) :: st))) : Go p.tables e below G T (mkF m pc Ls (.int y :: .long x :: st)) := by
  subst hp; exact Go.step (fun _ k => XT.lushr X.here C.exec rfl (C.at hd) rfl k) K
/-- what a branch asks, of whole numbers -/
abbrev cpI : ClassFile.Cond → Int → Int → Prop
  | .eq, x, y => x = y
  | .ne, x, y => ¬ x = y
  | .lt, x, y => x < y
  | .ge, x, y => ¬ x < y
  | .gt, x, y => y < x
  | .le, x, y => ¬ y < x
theorem holds_icmp (cd : ClassFile.Cond) (x y : Int32) : if_icmp.holds cd x y = true ↔ cpI cd x.toInt y.toInt := by
  cases cd <;> simp only [if_icmp.holds, cpI, decide_eq_true_eq, beq_iff_eq, bne_iff_ne, ne_eq, Int32.lt_iff_toInt_lt, Int32.le_iff_toInt_le, Int32.toInt_inj, Int.not_lt, ge_iff_le, gt_iff_lt]
theorem holds_if (cd : ClassFile.Cond) (x : Int32) : ifCond.holds cd x = true ↔ cpI cd x.toInt 0 := by
  rw [if0]; exact holds_icmp cd x 0
theorem g_goto (C : Cx p l s m meth c Z x0 code maxL ret) (X : Stand p l e R s m args below meth c T locs cells slots) {pc pc' : Nat} {Ls : Array Slot} {st : List Value} {o : Int} (hd : decode code pc = .ok (.goto o, 3)) (ho : 0 ≤ (pc : Int) + o) (hp : ((pc : Int) + o).toNat = pc')
    (K : Go p.tables e below G T (mkF m pc' Ls st)) : Go p.tables e below G T (mkF m pc Ls st) :=
  Go.step (fun _ k => XS.goto X.here C.exec rfl rfl (C.at hd) ho hp k) K
theorem g_if (C : Cx p l s m meth c Z x0 code maxL ret) (X : Stand p l e R s m args below meth c T locs cells slots) {pc pc' pc'' : Nat} {Ls : Array Slot} {st : List Value} {cd : ClassFile.Cond} {x : Int32} {o : Int} (hd : decode code pc = .ok (.ifCond cd o, 3)) (ho : 0 ≤ (pc : Int) + o) (hp : ((pc : Int) + o).toNat = pc') (hp3 : pc + 3 = pc'')
    (K1 : cpI cd x.toInt 0 → Go p.tables e below G T (mkF m pc' Ls st)) (K2 : ¬ cpI cd x.toInt 0 → Go p.tables e below G T (mkF m pc'' Ls st)) : Go p.tables e below G T (mkF m pc Ls (.int x :: st)) := by
  subst hp3
  cases hc : ifCond.holds cd x with
  | true => exact Go.step (fun _ k => XS.ifYes X.here C.exec rfl rfl (C.at hd) rfl hc ho hp k) (K1 ((holds_if cd x).mp hc))
  | false => exact Go.step (fun _ k => XS.ifNo X.here C.exec rfl (C.at hd) rfl hc k) (K2 fun q => by rw [(holds_if cd x).mpr q] at hc; cases hc)
theorem g_icmp (C : Cx p l s m meth c Z x0 code maxL ret) (X : Stand p l e R s m args below meth c T locs cells slots) {pc pc' pc'' : Nat} {Ls : Array Slot} {st : List Value} {cd : ClassFile.Cond} {x y : Int32} {o : Int} (hd : decode code pc = .ok (.if_icmp cd o, 3)) (ho : 0 ≤ (pc : Int) + o) (hp : ((pc : Int) + o).toNat = pc') (hp3 : pc + 3 = pc'')
    (K1 : cpI cd x.toInt y.toInt → Go p.tables e below G T (mkF m pc' Ls st)) (K2 : ¬ cpI cd x.toInt y.toInt → Go p.tables e below G T (mkF m pc'' Ls st)) : Go p.tables e below G T (mkF m pc Ls (.int y :: .int x :: st)) := by
  subst hp3
  cases hc : if_icmp.holds cd x y with
  | true => exact Go.step (fun _ k => XS.icmpYes X.here C.exec rfl rfl (C.at hd) rfl hc ho hp k) (K1 ((holds_icmp cd x y).mp hc))
  | false => exact Go.step (fun _ k => XS.icmpNo X.here C.exec rfl (C.at hd) rfl hc k) (K2 fun q => by rw [(holds_icmp cd x y).mpr q] at hc; cases hc)
theorem g_ifY (C : Cx p l s m meth c Z x0 code maxL ret) (X : Stand p l e R s m args below meth c T locs cells slots) {pc pc' : Nat} {Ls : Array Slot} {st : List Value} {cd : ClassFile.Cond} {x : Int32} {o : Int} (hd : decode code pc = .ok (.ifCond cd o, 3)) (ho : 0 ≤ (pc : Int) + o) (hp : ((pc : Int) + o).toNat = pc') (hc : cpI cd x.toInt 0)
    (K1 : Go p.tables e below G T (mkF m pc' Ls st)) : Go p.tables e below G T (mkF m pc Ls (.int x :: st)) :=
  Go.step (fun _ k => XS.ifYes X.here C.exec rfl rfl (C.at hd) rfl ((holds_if cd x).mpr hc) ho hp k) K1
theorem g_ifN (C : Cx p l s m meth c Z x0 code maxL ret) (X : Stand p l e R s m args below meth c T locs cells slots) {pc pc' : Nat} {Ls : Array Slot} {st : List Value} {cd : ClassFile.Cond} {x : Int32} {o : Int} (hd : decode code pc = .ok (.ifCond cd o, 3)) (hc : ¬ cpI cd x.toInt 0) (hp : pc + 3 = pc')
    (K1 : Go p.tables e below G T (mkF m pc' Ls st)) : Go p.tables e below G T (mkF m pc Ls (.int x :: st)) := by
  subst hp
  exact Go.step (fun _ k => XS.ifNo X.here C.exec rfl (C.at hd) rfl (Bool.eq_false_iff.mpr fun q => hc ((holds_if cd x).mp q)) k) K1
theorem g_icmpY (C : Cx p l s m meth c Z x0 code maxL ret) (X : Stand p l e R s m args below meth c T locs cells slots) {pc pc' : Nat} {Ls : Array Slot} {st : List Value} {cd : ClassFile.Cond} {x y : Int32} {o : Int} (hd : decode code pc = .ok (.if_icmp cd o, 3)) (ho : 0 ≤ (pc : Int) + o) (hp : ((pc : Int) + o).toNat = pc') (hc : cpI cd x.toInt y.toInt)
    (K1 : Go p.tables e below G T (mkF m pc' Ls st)) : Go p.tables e below G T (mkF m pc Ls (.int y :: .int x :: st)) :=
  Go.step (fun _ k => XS.icmpYes X.here C.exec rfl rfl (C.at hd) rfl ((holds_icmp cd x y).mpr hc) ho hp k) K1
theorem g_icmpN (C : Cx p l s m meth c Z x0 code maxL ret) (X : Stand p l e R s m args below meth c T locs cells slots) {pc pc' : Nat} {Ls : Array Slot} {st : List Value} {cd : ClassFile.Cond} {x y : Int32} {o : Int} (hd : decode code pc = .ok (.if_icmp cd o, 3)) (hc : ¬ cpI cd x.toInt y.toInt) (hp : pc + 3 = pc')
    (K1 : Go p.tables e below G T (mkF m pc' Ls st)) : Go p.tables e below G T (mkF m pc Ls (.int y :: .int x :: st)) := by
  subst hp
  exact Go.step (fun _ k => XS.icmpNo X.here C.exec rfl (C.at hd) rfl (Bool.eq_false_iff.mpr fun q => hc ((holds_icmp cd x y).mp q)) k) K1
/-! leaving the body -/
theorem g_out {k n : Nat} {Q : Option Value → Heap → List Loc → Prop} (C : Cx p l s m meth c Z x0 code maxL ret) (X : Stand p l e R s m args below meth c T locs cells slots) {v : Option Value} {g : JFrame} (hv : ret = none → v = none)
    (st : ∀ fs, (∀ (f : JFrame) (acts : List Action), f.method = m → f.locked = none → f.entered = [] → (doReturn e (T.setTop f) acts v).1 = T.setFrames fs) → Steps p.tables e below (T.setTop g) (T.setFrames fs))
    (hQ : Q v T.heap locs) (hk : cells ≤ k) (hn : slots ≤ n) : Go p.tables e below (End s Q k n) T g := by
  obtain ⟨fs, hr, hrun, hended, hW, hsame⟩ := X.leave (v := v) (fun q => hv (C.rets ▸ q)) C.unlocked
  exact ⟨_, _, st fs hr, hrun, hended, v, locs, rfl, hQ, ⟨_, rfl⟩, hW, hsame.mono hk hn⟩
theorem g_ireturn {k n : Nat} {Q : Option Value → Heap → List Loc → Prop} (C : Cx p l s m meth c Z x0 code maxL (some .int)) (X : Stand p l e R s m args below meth c T locs cells slots) {pc : Nat} {Ls : Array Slot} {st : List Value} {z : Int32} (hd : decode code pc = .ok (.ireturn, 1))
    (hQ : Q (some (.int z)) T.heap locs) (hk : cells ≤ k) (hn : slots ≤ n) : Go p.tables e below (End s Q k n) T (mkF m pc Ls (.int z :: st)) :=
  g_out C X (v := some (.int z)) (fun q => by cases q) (fun fs hr => retOut X C.exec C.rets rfl (Or.inl ⟨rfl, Or.inl rfl, _, rfl⟩) (C.at hd) hr) hQ hk hn
theorem g_zreturn {k n : Nat} {Q : Option Value → Heap → List Loc → Prop} (C : Cx p l s m meth c Z x0 code maxL (some .boolean)) (X : Stand p l e R s m args below meth c T locs cells slots) {pc : Nat} {Ls : Array Slot} {st : List Value} {z w : Int32} (hd : decode code pc = .ok (.ireturn, 1)) (hw : nar .boolean z = w)
    (hQ : Q (some (.int w)) T.heap locs) (hk : cells ≤ k) (hn : slots ≤ n) : Go p.tables e below (End s Q k n) T (mkF m pc Ls (.int z :: st)) :=
  g_out C X (v := some (.int w)) (fun q => by cases q) (fun fs hr => retN X C.exec (t := .boolean) C.rets (by simp) (C.at hd) (hw ▸ hr)) hQ hk hn
theorem g_lreturn {k n : Nat} {Q : Option Value → Heap → List Loc → Prop} (C : Cx p l s m meth c Z x0 code maxL (some .long)) (X : Stand p l e R s m args below meth c T locs cells slots) {pc : Nat} {Ls : Array Slot} {st : List Value} {z : Int64} (hd : decode code pc = .ok (.lreturn, 1))
    (hQ : Q (some (.long z)) T.heap locs) (hk : cells ≤ k) (hn : slots ≤ n) : Go p.tables e below (End s Q k n) T (mkF m pc Ls (.long z :: st)) :=
  g_out C X (v := some (.long z)) (fun q => by cases q) (fun fs hr => retOut X C.exec C.rets rfl (Or.inr (Or.inl ⟨rfl, rfl, _, rfl⟩)) (C.at hd) hr) hQ hk hn
theorem g_dreturn {k n : Nat} {Q : Option Value → Heap → List Loc → Prop} (C : Cx p l s m meth c Z x0 code maxL (some .double)) (X : Stand p l e R s m args below meth c T locs cells slots) {pc : Nat} {Ls : Array Slot} {st : List Value} {z : UInt64} (hd : decode code pc = .ok (.dreturn, 1))
    (hQ : Q (some (.double z)) T.heap locs) (hk : cells ≤ k) (hn : slots ≤ n) : Go p.tables e below (End s Q k n) T (mkF m pc Ls (.double z :: st)) :=
  g_out C X (v := some (.double z)) (fun q => by cases q) (fun fs hr => retOut X C.exec C.rets rfl (Or.inr (Or.inr (Or.inl ⟨rfl, rfl, _, rfl⟩))) (C.at hd) hr) hQ hk hn
theorem g_areturn {k n : Nat} {Q : Option Value → Heap → List Loc → Prop} {t : FieldType} (C : Cx p l s m meth c Z x0 code maxL (some t)) (X : Stand p l e R s m args below meth c T locs cells slots) {pc : Nat} {Ls : Array Slot} {st : List Value} {w : Value} (hd : decode code pc = .ok (.areturn, 1)) (ht : t.isReference = true) (hw : w.isRef = true) (hna : narrow t w = w)
    (hQ : Q (some w) T.heap locs) (hk : cells ≤ k) (hn : slots ≤ n) : Go p.tables e below (End s Q k n) T (mkF m pc Ls (w :: st)) :=
  g_out C X (v := some w) (fun q => by cases q) (fun fs hr => retOut X C.exec C.rets hna (Or.inr (Or.inr (Or.inr (Or.inr ⟨rfl, ht, hw⟩)))) (C.at hd) hr) hQ hk hn
theorem g_return {k n : Nat} {Q : Option Value → Heap → List Loc → Prop} (C : Cx p l s m meth c Z x0 code maxL none) (X : Stand p l e R s m args below meth c T locs cells slots) {pc : Nat} {Ls : Array Slot} (hd : decode code pc = .ok (.return_, 1))
    (hQ : Q none T.heap locs) (hk : cells ≤ k) (hn : slots ≤ n) : Go p.tables e below (End s Q k n) T (mkF m pc Ls []) :=
  g_out C X (v := none) (fun _ => rfl) (fun fs hr => X.returnOut C.exec C.rets (C.at hd) hr) hQ hk hn
/-! calls -/
theorem g_callS (C : Cx p l s m meth c Z x0 code maxL ret) (X : Stand p l e R s m args below meth c T locs cells slots) {index : Nat} {y : MethodName} {bytes : ByteArray} {mL : Nat} {rt : Option FieldType} {rm : Room} {as : Array Value} {Q : Option Value → Heap → List Loc → Prop} (K0 : Con l Z y bytes mL rt rm as h Q)
    (w1 : (Cond.methodLink x0.cls index y).before a0 Z = true) (w2 : (Cond.static y).before a0 Z = true) (w3 : (Cond.initialized y.cls).before a0 Z = true) (w4 : (Cond.code y bytes mL rt).before a0 Z = true)
    (hy : y.cls ≠ "java/lang/invoke/MethodHandle" ∧ y.cls ≠ "java/lang/invoke/VarHandle") (eT : T.heap = h) {pc pc' : Nat} {Ls : Array Slot} {st : List Value} (hd : decode code pc = .ok (.invokestatic index, 3)) (hsz : Ls.size = maxL)
    {ps : List FieldType} {r : Option FieldType} (hpd : parseMethodDescriptor y.desc = some ⟨ps, r⟩) (argsL rest : List Value) (hlen : argsL.length = ps.length) (has : argsL.toArray = as) (hst : st = argsL.reverse ++ rest) (W : Nat) (hW : (rest.map fun v => v.category).sum = W)
    (hfr : rm.frames + 1 ≤ R.frames) (hlo : W + (mL + 11) + rm.locals ≤ R.locals) (hce : cells + rm.cells ≤ R.cells) (hsl : slots + rm.slots ≤ R.slots) (hp : pc + 3 = pc')
    (K : ∀ v T' L, Stand p l e R s m args below meth c T' (locs ++ L) (cells + rm.cells) (slots + rm.slots) → Q v T'.heap L → Go p.tables e below G T' (mkF m pc' Ls (v.toList ++ rest))) : Go p.tables e below G T (mkF m pc Ls st) := by
  subst hp has
  obtain ⟨v, _, ⟨T1, L1, k1, n1⟩, -, X1, ⟨Lc, hQ, q1, q2, q3⟩, st1⟩ := Jvm.LawKit.callS X C.exec (y := y) C.own (mvT C.warm w1) (mvT C.warm w2) (mvT C.warm w3) (mvT C.warm w4) hy (backOf (W := W) (K0 []) C.warm w4 w3 hfr hlo)
    (g := mkF m pc Ls st) rfl (by rw [C.maxl]; exact hsz) (argsL := argsL) (rest := rest) (lenOf hpd hlen) hst (by show 2 * 0 + _ ≤ _; rw [hW]; omega) (C.at hd) (fun _ _ => ⟨rfl, eT, hce, hsl⟩)
  dsimp only [Pt.U, Pt.locs, Pt.cells, Pt.slots] at X1 q1 q2 q3 st1 hQ
  subst q1 q2 q3
  exact Go.step st1 (K v T1 Lc X1 hQ)
theorem go_trans {tb : Tables} {T1 : State} {g g1 : JFrame} (st : Steps tb e below (T.setTop g) (T1.setTop g1)) (k : Go tb e below G T1 g1) : Go tb e below G T g := by
  obtain ⟨s2, o, h1, h2⟩ := k
  exact ⟨s2, o, st.trans h1, h2⟩
theorem g_callI (C : Cx p l s m meth c Z x0 code maxL ret) (X : Stand p l e R s m args below meth c T locs cells slots) {index : Nat} {y : MethodName} {bytes : ByteArray} {mL : Nat} {rm : Room} {as : Array Value} {Q : Option Value → Heap → List Loc → Prop} (K0 : Con l Z y bytes mL none rm as h Q) (hy1 : y.name = "<init>")
    (w1 : (Cond.methodLink x0.cls index y).before a0 Z = true) (w2 : (Cond.instanceMethod y).before a0 Z = true) (w3 : (Cond.initialized y.cls).before a0 Z = true) (w4 : (Cond.code y bytes mL none).before a0 Z = true)
    (hy : y.cls ≠ "java/lang/invoke/MethodHandle" ∧ y.cls ≠ "java/lang/invoke/VarHandle") (eT : T.heap = h) {pc pc' : Nat} {Ls : Array Slot} {st : List Value} (hd : decode code pc = .ok (.invokespecial index, 3)) (hsz : Ls.size = maxL)
    {ps : List FieldType} {r : Option FieldType} (hpd : parseMethodDescriptor y.desc = some ⟨ps, r⟩) (a : Addr) (argsL rest : List Value) (hlen : argsL.length = ps.length) (has : (.ref a :: argsL).toArray = as) (hst : st = argsL.reverse ++ .ref a :: rest) (W : Nat) (hW : (rest.map fun v => v.category).sum = W)
    (hfr : rm.frames + 1 ≤ R.frames) (hlo : W + (mL + 11) + rm.locals ≤ R.locals) (hce : cells + rm.cells ≤ R.cells) (hsl : slots + rm.slots ≤ R.slots) (hp : pc + 3 = pc')
    (K : ∀ v T' L, Stand p l e R s m args below meth c T' (locs ++ L) (cells + rm.cells) (slots + rm.slots) → Q v T'.heap L → Go p.tables e below G T' (mkF m pc' Ls (v.toList ++ rest))) : Go p.tables e below G T (mkF m pc Ls st) := by
  subst hp has
  obtain ⟨v, _, ⟨T1, L1, k1, n1⟩, -, X1, ⟨Lc, hQ, q1, q2, q3⟩, st1⟩ := X.specialBack C.exec (y := y) hy1 C.own (mvT C.warm w1) (mvT C.warm w2) (mvT C.warm w4) hy (backOf (W := W) (K0 []) C.warm w4 w3 hfr hlo)
    (g := mkF m pc Ls st) rfl (by rw [C.maxl]; exact hsz) (Steps.refl _) (a := a) (argsL := argsL) (rest := rest) (lenOf hpd hlen) hst (by show 2 * 0 + _ ≤ _; rw [hW]; omega) (C.at hd) (fun _ _ => ⟨rfl, eT, hce, hsl⟩)
  dsimp only [Pt.U, Pt.locs, Pt.cells, Pt.slots] at X1 q1 q2 q3 st1 hQ
  subst q1 q2 q3
  exact go_trans st1 (K v T1 Lc X1 hQ)
theorem g_callV (C : Cx p l s m meth c Z x0 code maxL ret) (X : Stand p l e R s m args below meth c T locs cells slots) {index : Nat} {y : MethodName} {cls : String} {bytes : ByteArray} {mL : Nat} {rt : Option FieldType} {rm : Room} {as : Array Value} {Q : Option Value → Heap → List Loc → Prop} (K0 : Con l Z y bytes mL rt rm as h Q)
    (w1 : (Cond.methodLink x0.cls index y).before a0 Z = true) (w2 : (Cond.declares y).before a0 Z = true) (w5 : (Cond.selects cls y y).before a0 Z = true) (w6 : (Cond.instanceMethod y).before a0 Z = true) (w3 : (Cond.initialized y.cls).before a0 Z = true) (w4 : (Cond.code y bytes mL rt).before a0 Z = true)
    (hy : y.cls ≠ "java/lang/invoke/MethodHandle" ∧ y.cls ≠ "java/lang/invoke/VarHandle") (eT : T.heap = h) {a : Addr} (E : Exa Z h a cls) {pc pc' : Nat} {Ls : Array Slot} {st : List Value} (hd : decode code pc = .ok (.invokevirtual index, 3)) (hsz : Ls.size = maxL)
    {ps : List FieldType} {r : Option FieldType} (hpd : parseMethodDescriptor y.desc = some ⟨ps, r⟩) (argsL rest : List Value) (hlen : argsL.length = ps.length) (has : (.ref a :: argsL).toArray = as) (hst : st = argsL.reverse ++ .ref a :: rest) (W : Nat) (hW : (rest.map fun v => v.category).sum = W)
    (hfr : rm.frames + 1 ≤ R.frames) (hlo : W + (mL + 11) + rm.locals ≤ R.locals) (hce : cells + rm.cells ≤ R.cells) (hsl : slots + rm.slots ≤ R.slots) (hp : pc + 3 = pc')
    (K : ∀ v T' L, Stand p l e R s m args below meth c T' (locs ++ L) (cells + rm.cells) (slots + rm.slots) → Q v T'.heap L → Go p.tables e below G T' (mkF m pc' Ls (v.toList ++ rest))) : Go p.tables e below G T (mkF m pc Ls st) := by
  subst hp has
  obtain ⟨cq, kq, qa, qb, qc⟩ := isOf C.warm eT E
  obtain ⟨v, _, ⟨T1, L1, k1, n1⟩, -, X1, ⟨Lc, hQ, q1, q2, q3⟩, st1⟩ := X.virtualBack C.exec (y := y) (z := y) C.own (mvT C.warm w1) (mvT C.warm w2) (notFace_of_selects (args := #[]) (mvT C.warm w5)) (mvT C.warm w5) (mvT C.warm w6) hy (backOf (W := W) (K0 []) C.warm w4 w3 hfr hlo) qa qc
    (g := mkF m pc Ls st) rfl (by rw [C.maxl]; exact hsz) (Steps.refl _) (argsL := argsL) (rest := rest) (lenOf hpd hlen) hst (by show 2 * 0 + _ ≤ _; rw [hW]; omega) (C.at hd) (fun _ _ => ⟨rfl, eT, hce, hsl⟩)
  dsimp only [Pt.U, Pt.locs, Pt.cells, Pt.slots] at X1 q1 q2 q3 st1 hQ
  subst q1 q2 q3
  exact go_trans st1 (K v T1 Lc X1 hQ)
theorem g_initO (C : Cx p l s m meth c Z x0 code maxL ret) (X : Stand p l e R s m args below meth c T locs cells slots) {index : Nat} (w1 : (Cond.methodLink x0.cls index Lib.objectInit).before a0 Z = true) (w2 : (Cond.instanceMethod Lib.objectInit).before a0 Z = true) (w3 : (Cond.code Lib.objectInit ⟨#[0xb1]⟩ 1 none).before a0 Z = true) (eT : T.heap = h)
    {pc pc' : Nat} {Ls : Array Slot} {a : Addr} {rest : List Value} (hd : decode code pc = .ok (.invokespecial index, 3)) (hsz : Ls.size = maxL) (W : Nat) (hW : (rest.map fun v => v.category).sum = W) (hfr : 1 ≤ R.frames) (hlo : W + 12 ≤ R.locals) (hp : pc + 3 = pc')
    (K : ∀ T', Stand p l e R s m args below meth c T' locs cells slots → T'.heap = h → Go p.tables e below G T' (mkF m pc' Ls rest)) : Go p.tables e below G T (mkF m pc Ls (.ref a :: rest)) := by
  subst hp
  obtain ⟨T1, X1, e1, st1⟩ := initO X C.exec C.warm C.own w1 w2 w3 eT (g := mkF m pc Ls (.ref a :: rest)) rfl (by rw [C.maxl]; exact hsz) rfl (C.at hd) hfr (W := W) (by show 2 * 0 + _ ≤ _; rw [hW]; omega) hlo
  exact Go.step st1 (K T1 X1 e1)
/-! the heap -/
theorem g_new (C : Cx p l s m meth c Z x0 code maxL ret) (X : Stand p l e R s m args below meth c T locs cells slots) {cls : String} {index n : Nat} (w : (Cond.classLink x0.cls index cls).before a0 Z = true) (wi : (Cond.instantiable cls n).before a0 Z = true) (wz : (Cond.initialized cls).before a0 Z = true) (eT : T.heap = h)
    {pc pc' : Nat} {Ls : Array Slot} {st : List Value} (hd : decode code pc = .ok (.new index, 3)) (hc : cells + 1 ≤ R.cells) (hl : slots + n ≤ R.slots) (hp : pc + 3 = pc')
    (K : ∀ T' h' a, a = h.size → Stand p l e R s m args below meth c T' locs (cells + 1) (slots + n) → T'.heap = h' → Ext h h' → Exa Z h' a cls → (∀ {O nm d : String} {ty : FieldType}, Laid Z a0 cls O nm d → parseFieldDescriptor d = some ty → Fld Z h' a O nm d (defaultValue ty)) → Go p.tables e below G T' (mkF m pc' Ls (.ref a :: st))) :
    Go p.tables e below G T (mkF m pc Ls st) := by
  subst hp
  obtain ⟨T1, h1, X1, e1, E1, A1, D1, -, st1⟩ := newO X C.exec C.warm C.own w wi wz eT (g := mkF m pc Ls st) rfl (C.at hd) hc hl
  exact Go.step st1 (K T1 h1 h.size rfl X1 e1 E1 A1 D1)
theorem g_newP (C : Cx p l s m meth c Z x0 code maxL ret) (X : Stand p l e R s m args below meth c T locs cells slots) {aty : ArrayType} (w : (Cond.arrayClass (newarray.typeOf aty)).before a0 Z = true) (eT : T.heap = h)
    {pc pc' : Nat} {Ls : Array Slot} {st : List Value} {z : Int32} (hd : decode code pc = .ok (.newarray aty, 2)) (hz : ¬ z < 0) (cap : Nat) (hcap : z.toNatClampNeg ≤ cap) (hb : cap * 8 ≤ 536870912) (hc : cells + 1 ≤ R.cells) (hl : slots + cap ≤ R.slots) (hp : pc + 2 = pc')
    (K : ∀ T' h' a k, a = h.size → Stand p l e R s m args below meth c T' locs (cells + 1) (slots + cap) → T'.heap = h' → Ext h h' → Arv Z h' a k (newarray.typeOf aty) z [] (defaultValue (newarray.typeOf aty)) → Go p.tables e below G T' (mkF m pc' Ls (.ref a :: st))) :
    Go p.tables e below G T (mkF m pc Ls (.int z :: st)) := by
  subst hp
  obtain ⟨T1, h1, cA, X1, e1, E1, A1, st1⟩ := newP X C.exec C.warm w eT (g := mkF m pc Ls (.int z :: st)) rfl (C.at hd) rfl hz hcap hb hc hl
  exact Go.step st1 (K T1 h1 h.size cA rfl X1 e1 E1 (Arv.new A1 hz))
theorem g_getF (C : Cx p l s m meth c Z x0 code maxL ret) (X : Stand p l e R s m args below meth c T locs cells slots) {R0 O n d host : String} {index : Nat} (w : (Cond.fieldLink x0.cls index R0 n d).before a0 Z = true ∨ (Cond.fieldLinkNest x0.cls index R0 n d host).before a0 Z = true) (via : Via Z R0 O n d) (eT : T.heap = h) {a : Addr} {v : Value} (F : Fld Z h a O n d v)
    {pc pc' : Nat} {Ls : Array Slot} {st : List Value} (hd : decode code pc = .ok (.getfield index, 3)) (hp : pc + 3 = pc')
    (K : ∀ T', Stand p l e R s m args below meth c T' locs cells slots → T'.heap = h → Go p.tables e below G T' (mkF m pc' Ls (v :: st))) : Go p.tables e below G T (mkF m pc Ls (.ref a :: st)) := by
  subst hp
  obtain ⟨T1, X1, e1, st1⟩ := getF X C.exec C.warm C.own w via eT F (g := mkF m pc Ls (.ref a :: st)) rfl rfl (C.at hd)
  exact Go.step st1 (K T1 X1 e1)
theorem g_putF (C : Cx p l s m meth c Z x0 code maxL ret) (X : Stand p l e R s m args below meth c T locs cells slots) {R0 O n d host cls : String} {index kk : Nat} {ty : FieldType} (w : (Cond.fieldLink x0.cls index R0 n d).before a0 Z = true ∨ (Cond.fieldLinkNest x0.cls index R0 n d host).before a0 Z = true) (via : Via Z R0 O n d) (eT : T.heap = h) {a : Addr} {v old : Value} (F : Fld Z h a O n d old) (E : Exa Z h a cls)
    (L : (Cond.lays cls O n d).before a0 Z = true ∨ ((Cond.laysFinal cls O n d).before a0 Z = true ∧ x0.cls = O ∧ x0.name = "<init>")) (wi : (Cond.instantiable cls kk).before a0 Z = true) (hty : parseFieldDescriptor d = some ty) (hn : narrow ty v = v) (hf : fits ty v = true)
    {pc pc' : Nat} {Ls : Array Slot} {st : List Value} (hd : decode code pc = .ok (.putfield index, 3)) (hp : pc + 3 = pc')
    (K : ∀ T' h', Stand p l e R s m args below meth c T' (locs ++ [⟨a, RoadKit.slotOf Z O n d⟩]) cells slots → T'.heap = h' → Wr h h' a (RoadKit.slotOf Z O n d) v → Go p.tables e below G T' (mkF m pc' Ls st)) : Go p.tables e below G T (mkF m pc Ls (v :: .ref a :: st)) := by
  subst hp
  obtain ⟨T1, h1, X1, e1, W1, st1⟩ := putF X C.exec C.warm C.own w via eT F E (L.imp id fun q => ⟨q.1, q.2.1, C.nm.trans q.2.2⟩) wi hty hn hf (g := mkF m pc Ls (v :: .ref a :: st)) rfl rfl (C.at hd)
  exact Go.step st1 (K T1 h1 X1 e1 W1)
/-- an array whose values are a list: read, length, store -/
theorem Arv.cell {a : Addr} {k : ClassId} {ty : FieldType} {z : Int32} {vs : List Value} {d : Value} (A : Arv Z h a k ty z vs d) : ∃ cl : Cell, Arr Z h a cl ty ∧ cl.slots.size = z.toNatClampNeg ∧ ¬ z < 0 ∧ Has cl vs d := by
  obtain ⟨cl, A1, -, S, N, H, -⟩ := A
  exact ⟨cl, A1, S, N, H⟩
theorem g_len (C : Cx p l s m meth c Z x0 code maxL ret) (X : Stand p l e R s m args below meth c T locs cells slots) {a : Addr} {k : ClassId} {ty : FieldType} {z : Int32} {vs : List Value} {d : Value} (eT : T.heap = h) (A : Arv Z h a k ty z vs d) {pc pc' : Nat} {Ls : Array Slot} {st : List Value} (hd : decode code pc = .ok (.arraylength, 1)) (hp : pc + 1 = pc')
    (K : Go p.tables e below G T (mkF m pc' Ls (.int z :: st))) : Go p.tables e below G T (mkF m pc Ls (.ref a :: st)) := by
  subst hp
  obtain ⟨cl, A1, S, N, H⟩ := Arv.cell A
  refine Go.step (fun t q => X.arraylength C.exec (cell := cl) (by rw [eT]; exact A1.1) (State.isArrayOf_alike C.warm.alike A1.2.1) (g := mkF m pc Ls (.ref a :: st)) rfl rfl (C.at hd) t ?_) K
  rw [len_of S N]; exact q
theorem inb {cl : Cell} {z j : Int32} (S : cl.slots.size = z.toNatClampNeg) (h0 : 0 ≤ j.toInt) (h1 : j.toInt < z.toInt) : ¬ (j < 0 ∨ cl.slots.size ≤ j.toNatClampNeg) :=
  inb_of S ⟨fun q => by rw [Int32.lt_iff_toInt_lt] at q; exact absurd q (Int.not_lt.mpr h0), Int32.lt_iff_toInt_lt.mpr h1⟩
theorem g_iaload (C : Cx p l s m meth c Z x0 code maxL ret) (X : Stand p l e R s m args below meth c T locs cells slots) {a : Addr} {k : ClassId} {z j : Int32} {vs : List Value} {d : Value} {v : Int32} (eT : T.heap = h) (A : Arv Z h a k .int z vs d) (h0 : 0 ≤ j.toInt) (h1 : j.toInt < z.toInt) (i : Nat) (hj : j.toNatClampNeg = i) (hv : vs.getD i d = .int v) {pc pc' : Nat} {Ls : Array Slot} {st : List Value} (hd : decode code pc = .ok (.iaload, 1)) (hp : pc + 1 = pc')
    (K : Go p.tables e below G T (mkF m pc' Ls (.int v :: st))) : Go p.tables e below G T (mkF m pc Ls (.int j :: .ref a :: st)) := by
  subst hp
  obtain ⟨cl, A1, S, N, H⟩ := Arv.cell A
  exact Go.step (fun t q => X.iaload C.exec (j := j) (v := .int v) (by rw [eT]; exact A1.1) (State.isArrayOf_alike C.warm.alike A1.2.1) A1.2.2 (inb S h0 h1) (H.at (inb S h0 h1) (by rw [hj]; exact hv)) (g := mkF m pc Ls (.int j :: .ref a :: st)) rfl rfl (C.at hd) t q) K
theorem g_daload (C : Cx p l s m meth c Z x0 code maxL ret) (X : Stand p l e R s m args below meth c T locs cells slots) {a : Addr} {k : ClassId} {z j : Int32} {vs : List Value} {d : Value} {v : UInt64} (eT : T.heap = h) (A : Arv Z h a k .double z vs d) (h0 : 0 ≤ j.toInt) (h1 : j.toInt < z.toInt) (i : Nat) (hj : j.toNatClampNeg = i) (hv : vs.getD i d = .double v) {pc pc' : Nat} {Ls : Array Slot} {st : List Value} (hd : decode code pc = .ok (.daload, 1)) (hp : pc + 1 = pc')
    (K : Go p.tables e below G T (mkF m pc' Ls (.double v :: st))) : Go p.tables e below G T (mkF m pc Ls (.int j :: .ref a :: st)) := by
  subst hp
  obtain ⟨cl, A1, S, N, H⟩ := Arv.cell A
  exact Go.step (fun t q => X.daload C.exec (j := j) (v := .double v) (by rw [eT]; exact A1.1) (State.isArrayOf_alike C.warm.alike A1.2.1) A1.2.2 (inb S h0 h1) (H.at (inb S h0 h1) (by rw [hj]; exact hv)) (g := mkF m pc Ls (.int j :: .ref a :: st)) rfl rfl (C.at hd) t q) K
theorem g_aaload (C : Cx p l s m meth c Z x0 code maxL ret) (X : Stand p l e R s m args below meth c T locs cells slots) {a : Addr} {k : ClassId} {z j : Int32} {ty : FieldType} {vs : List Value} {d v : Value} (eT : T.heap = h) (A : Arv Z h a k ty z vs d) (hty : ty.isReference = true) (hr : v.isRef = true) (h0 : 0 ≤ j.toInt) (h1 : j.toInt < z.toInt) (i : Nat) (hj : j.toNatClampNeg = i) (hv : vs.getD i d = v) {pc pc' : Nat} {Ls : Array Slot} {st : List Value} (hd : decode code pc = .ok (.aaload, 1)) (hp : pc + 1 = pc')
    (K : Go p.tables e below G T (mkF m pc' Ls (v :: st))) : Go p.tables e below G T (mkF m pc Ls (.int j :: .ref a :: st)) := by
  subst hp
  obtain ⟨cl, A1, S, N, H⟩ := Arv.cell A
  exact Go.step (fun t q => X.aaload C.exec (j := j) (v := v) (by rw [eT]; exact A1.1) (State.isArrayOf_alike C.warm.alike A1.2.1) hty A1.2.2 (inb S h0 h1) (H.at (inb S h0 h1) (by rw [hj]; exact hv)) (g := mkF m pc Ls (.int j :: .ref a :: st)) rfl rfl (C.at hd) t q) K
theorem Arv.put {h' : Heap} {a : Addr} {k : ClassId} {ty : FieldType} {z j : Int32} {vs : List Value} {d v : Value} (A : Arv Z h a k ty z vs d) (W : Wr h h' a j.toNatClampNeg v) (hv : fits ty v = true) (i : Nat) (hj : j.toNatClampNeg = i) (n : Nat) (hi : i < vs.length + n) : Arv Z h' a k ty z ((vs ++ List.replicate n d).set i v) d := by
  obtain ⟨cl, A1, q1, S, N, H, Gf⟩ := Arv.pad A (pad_rep vs d n)
  exact Arv.set A1 q1 S N H Gf hv W i hj (by rw [List.length_append, List.length_replicate]; exact hi)
theorem g_iastore (C : Cx p l s m meth c Z x0 code maxL ret) (X : Stand p l e R s m args below meth c T locs cells slots) {a : Addr} {k : ClassId} {z j x : Int32} {vs : List Value} {d : Value} (eT : T.heap = h) (A : Arv Z h a k .int z vs d) (h0 : 0 ≤ j.toInt) (h1 : j.toInt < z.toInt) (i n : Nat) (hj : j.toNatClampNeg = i) (hi : i < vs.length + n) {pc pc' : Nat} {Ls : Array Slot} {st : List Value} (hd : decode code pc = .ok (.iastore, 1)) (hp : pc + 1 = pc')
    (K : ∀ T' h', Stand p l e R s m args below meth c T' (locs ++ [⟨a, j.toNatClampNeg⟩]) cells slots → T'.heap = h' → Wr h h' a j.toNatClampNeg (.int x) → Arv Z h' a k .int z ((vs ++ List.replicate n d).set i (.int x)) d → Go p.tables e below G T' (mkF m pc' Ls st)) : Go p.tables e below G T (mkF m pc Ls (.int x :: .int j :: .ref a :: st)) := by
  subst hp
  obtain ⟨cl, A1, S, N, H⟩ := Arv.cell A
  obtain ⟨T1, h2, X1, e1, W1, st1⟩ := stI X C.exec C.warm eT A1 (inb S h0 h1) (g := mkF m pc Ls (.int x :: .int j :: .ref a :: st)) rfl rfl (C.at hd)
  exact Go.step st1 (K T1 h2 X1 e1 W1 (Arv.put A W1 rfl i hj n hi))
theorem g_dastore (C : Cx p l s m meth c Z x0 code maxL ret) (X : Stand p l e R s m args below meth c T locs cells slots) {a : Addr} {k : ClassId} {z j : Int32} {x : UInt64} {vs : List Value} {d : Value} (eT : T.heap = h) (A : Arv Z h a k .double z vs d) (h0 : 0 ≤ j.toInt) (h1 : j.toInt < z.toInt) (i n : Nat) (hj : j.toNatClampNeg = i) (hi : i < vs.length + n) {pc pc' : Nat} {Ls : Array Slot} {st : List Value} (hd : decode code pc = .ok (.dastore, 1)) (hp : pc + 1 = pc')
    (K : ∀ T' h', Stand p l e R s m args below meth c T' (locs ++ [⟨a, j.toNatClampNeg⟩]) cells slots → T'.heap = h' → Wr h h' a j.toNatClampNeg (.double x) → Arv Z h' a k .double z ((vs ++ List.replicate n d).set i (.double x)) d → Go p.tables e below G T' (mkF m pc' Ls st)) : Go p.tables e below G T (mkF m pc Ls (.double x :: .int j :: .ref a :: st)) := by
  subst hp
  obtain ⟨cl, A1, S, N, H⟩ := Arv.cell A
  obtain ⟨T1, h2, X1, e1, W1, st1⟩ := stD X C.exec C.warm eT A1 (inb S h0 h1) (g := mkF m pc Ls (.double x :: .int j :: .ref a :: st)) rfl rfl (C.at hd)
  exact Go.step st1 (K T1 h2 X1 e1 W1 (Arv.put A W1 rfl i hj n hi))
theorem g_ldc2J (C : Cx p l s m meth c Z x0 code maxL ret) (X : Stand p l e R s m args below meth c T locs cells slots) {index : Nat} {v : Int64} (w : (Cond.constantLong x0.cls index v).before a0 Z = true) {pc pc' : Nat} {Ls : Array Slot} {st : List Value} (hd : decode code pc = .ok (.ldc2_w index, 3)) (hp : pc + 3 = pc')
    (K : Go p.tables e below G T (mkF m pc' Ls (.long v :: st))) : Go p.tables e below G T (mkF m pc Ls st) := by
  subst hp
  exact Go.step (fun t q => X.ldc2Long C.exec C.own (mvT C.warm w) (g := mkF m pc Ls st) rfl (C.at hd) t q) K
theorem g_ldcI (C : Cx p l s m meth c Z x0 code maxL ret) (X : Stand p l e R s m args below meth c T locs cells slots) {index : Nat} {v : Int32} (w : (Cond.constant x0.cls index v).before a0 Z = true) {pc pc' : Nat} {Ls : Array Slot} {st : List Value} (hd : decode code pc = .ok (.ldc index, 2)) (hp : pc + 2 = pc')
    (K : Go p.tables e below G T (mkF m pc' Ls (.int v :: st))) : Go p.tables e below G T (mkF m pc Ls st) := by
  subst hp
  exact Go.step (fun t q => X.ldcInt C.exec C.own (mvT C.warm w) (g := mkF m pc Ls st) rfl (C.at hd) t q) K
theorem FldE.wr {h' : Heap} {a b : Addr} {C n d : String} {sl : Nat} {v : Value} (W : Wr h h' b sl v) (F : ∃ w, Fld Z h a C n d w) : ∃ w, Fld Z h' a C n d w := by
  obtain ⟨w, F⟩ := F
  by_cases q : a ≠ b ∨ RoadKit.slotOf Z C n d ≠ sl
  · exact ⟨w, F.other W q⟩
  · have q1 : a = b := Decidable.not_not.mp fun z => q (Or.inl z)
    have q2 : RoadKit.slotOf Z C n d = sl := Decidable.not_not.mp fun z => q (Or.inr z)
    subst q1 q2
    exact ⟨v, F.same W⟩
theorem g_ldc2D (C : Cx p l s m meth c Z x0 code maxL ret) (X : Stand p l e R s m args below meth c T locs cells slots) {index : Nat} {b : UInt64} (w : (Cond.constantDouble x0.cls index b).before a0 Z = true) {pc pc' : Nat} {Ls : Array Slot} {st : List Value} (hd : decode code pc = .ok (.ldc2_w index, 3)) (hp : pc + 3 = pc')
    (K : Go p.tables e below G T (mkF m pc' Ls (.double b :: st))) : Go p.tables e below G T (mkF m pc Ls st) := by
  subst hp
  exact Go.step (fun t q => X.ldc2DoubleC C.exec C.own (mvT C.warm w) (g := mkF m pc Ls st) rfl (C.at hd) t q) K
end Walk
/-! doubles that are whole numbers -/
section Dbl
open Jvm.FP.Core Jvm.Free.Fl
theorem nn_of_int {i : Int} {a : UInt64} (q : DInt i a) : NoNaN64 a := val64_no.mpr (DInt_ne_nan q)
def cmpI (i j : Int) : Int32 := if j < i then 1 else if i = j then 0 else -1
theorem cmpI_lt (i j : Int) : (cmpI i j).toInt < 0 ↔ i < j := by
  unfold cmpI
  split
  · exact ⟨fun q => absurd q (by decide), fun q => by omega⟩
  · split
    · exact ⟨fun q => absurd q (by decide), fun q => by omega⟩
    · exact ⟨fun _ => by omega, fun _ => by decide⟩
theorem cmpI_gt (i j : Int) : 0 < (cmpI i j).toInt ↔ j < i := by
  unfold cmpI
  split
  · exact ⟨fun _ => by assumption, fun _ => by decide⟩
  · split
    · exact ⟨fun q => absurd q (by decide), fun q => by omega⟩
    · exact ⟨fun q => absurd q (by decide), fun q => by omega⟩
theorem cmpI_eq (i j : Int) : (cmpI i j).toInt = 0 ↔ i = j := by
  unfold cmpI
  split
  · exact ⟨fun q => absurd q (by decide), fun q => by omega⟩
  · split
    · exact ⟨fun _ => by assumption, fun _ => by decide⟩
    · exact ⟨fun q => absurd q (by decide), fun q => by omega⟩
theorem cmpI_self (i : Int) : cmpI i i = 0 := by
  unfold cmpI
  rw [if_neg (Int.lt_irrefl i), if_pos rfl]
theorem cmpL_lt (x y : Int64) : (XT.cmpL x y).toInt < 0 ↔ x.toInt < y.toInt := by
  unfold XT.cmpL
  rw [← Int64.lt_iff_toInt_lt]
  split
  · rename_i q; exact ⟨fun q => absurd q (by decide), fun q' => absurd q' (Int64.lt_asymm q)⟩
  · split
    · rename_i q; subst q; exact ⟨fun q => absurd q (by decide), fun q' => absurd q' Int64.lt_irrefl⟩
    · rename_i q1 q2; exact ⟨fun _ => by have q3 : ¬ x.toInt = y.toInt := fun q => q2 (Int64.toInt_inj.mp q); rw [Int64.lt_iff_toInt_lt] at q1 ⊢; omega, fun _ => by decide⟩
theorem cmpL_gt (x y : Int64) : 0 < (XT.cmpL x y).toInt ↔ y.toInt < x.toInt := by
  unfold XT.cmpL
  rw [← Int64.lt_iff_toInt_lt]
  split
  · rename_i q; exact ⟨fun _ => q, fun _ => by decide⟩
  · split
    · rename_i q0 q; exact ⟨fun q => absurd q (by decide), fun q' => absurd q' q0⟩
    · rename_i q0 q; exact ⟨fun q => absurd q (by decide), fun q' => absurd q' q0⟩
theorem cmpL_eq (x y : Int64) : (XT.cmpL x y).toInt = 0 ↔ x.toInt = y.toInt := by
  unfold XT.cmpL
  rw [Int64.toInt_inj]
  split
  · rename_i q; exact ⟨fun q => absurd q (by decide), fun q' => absurd q (by rw [q']; exact Int64.lt_irrefl)⟩
  · split
    · rename_i q; exact ⟨fun _ => q, fun _ => by decide⟩
    · rename_i q0 q; exact ⟨fun q => absurd q (by decide), fun q' => absurd q' q⟩
theorem cmpV_of {r : Option Ordering} {i j : Int} (q : r = some (compare i j)) (o : CmpOp) : cmpValue r o = cmpI i j := by
  subst q
  unfold cmpI
  split
  · rename_i q; rw [(compare_gt_iff i j).mpr q]; rfl
  · split
    · rename_i q; rw [(compare_eq_iff i j).mpr q]; rfl
    · rename_i q1 q2; rw [(compare_lt_iff i j).mpr (by omega)]; rfl
theorem dcmp_cmpI {i j : Int} {a b : UInt64} (ha : DInt i a) (hb : DInt j b) (o : CmpOp) : cmpValue (FP.dcmp a b) o = cmpI i j := cmpV_of (dcmp_int ha hb) o
theorem dint_zero : DInt 0 FP.dconst0 := by
  unfold DInt
  rw [show val64 FP.dconst0 = _ from val64_dconst0]
  show signed false (0 * _) = 0 * _
  rw [Nat.zero_mul, Int.zero_mul]; rfl
end Dbl
end Jvm.OwnKit
namespace Jvm.OwnKit
open Sem ClassFile Op Lib Jvm.Stand Jvm.Free Jvm.LawKit Jvm.RoadKit
section More
variable {p : Program} {l : Launch} {e : Env} {R : Room} {s : State} {m : MethodId} {args : Array Value} {below : List Frame} {meth : Method} {c : Code} {T : State} {locs : List Loc} {cells slots : Nat} {Z : State} {a0 : Array Value} {h : Heap} {G : Outcome → State → Prop}
variable {x0 : MethodName} {code : ByteArray} {maxL : Nat} {ret : Option FieldType}
theorem g_newPE (C : Cx p l s m meth c Z x0 code maxL ret) (X : Stand p l e R s m args below meth c T locs cells slots) {aty : ArrayType} {ad : String} (had : "[" ++ (newarray.typeOf aty).toString = ad) (w : (Cond.arrayClass (newarray.typeOf aty)).before a0 Z = true) (eT : T.heap = h)
    {pc pc' : Nat} {Ls : Array Slot} {st : List Value} {z : Int32} (hd : decode code pc = .ok (.newarray aty, 2)) (hz : ¬ z < 0) (cap : Nat) (hcap : z.toNatClampNeg ≤ cap) (hb : cap * 8 ≤ 536870912) (hc : cells + 1 ≤ R.cells) (hl : slots + cap ≤ R.slots) (hp : pc + 2 = pc')
    (K : ∀ T' h' a k, a = h.size → Stand p l e R s m args below meth c T' locs (cells + 1) (slots + cap) → T'.heap = h' → Ext h h' → Arv Z h' a k (newarray.typeOf aty) z [] (defaultValue (newarray.typeOf aty)) → Exa Z h' a ad → Go p.tables e below G T' (mkF m pc' Ls (.ref a :: st))) :
    Go p.tables e below G T (mkF m pc Ls (.int z :: st)) := by
  subst hp
  obtain ⟨T1, h1, cA, X1, e1, E1, A1, B1, st1⟩ := newPE X C.exec C.warm w eT (g := mkF m pc Ls (.int z :: st)) rfl (C.at hd) rfl hz hcap hb hc hl had
  exact Go.step st1 (K T1 h1 h.size cA rfl X1 e1 E1 (Arv.new A1 hz) B1)
theorem g_clone (C : Cx p l s m meth c Z x0 code maxL ret) (X : Stand p l e R s m args below meth c T locs cells slots) {index : Nat} {ad : String} {ty : FieldType} (w1 : (Cond.methodLink x0.cls index ⟨ad, "clone", "()Ljava/lang/Object;"⟩).before a0 Z = true) (w2 : (Cond.sameMethod ad "java/lang/Object" "clone" "()Ljava/lang/Object;").before a0 Z = true) (w3 : (Cond.native ⟨"java/lang/Object", "clone", "()Ljava/lang/Object;"⟩).before a0 Z = true)
    (w4 : (Cond.instanceMethod ⟨"java/lang/Object", "clone", "()Ljava/lang/Object;"⟩).before a0 Z = true) (w5 : (Cond.selects ad ⟨ad, "clone", "()Ljava/lang/Object;"⟩ ⟨"java/lang/Object", "clone", "()Ljava/lang/Object;"⟩).before a0 Z = true) (w6 : (Cond.castable ad "java/lang/Cloneable").before a0 Z = true) (eT : T.heap = h)
    {a : Addr} {k : ClassId} {z : Int32} {vs : List Value} {d : Value} (A : Arv Z h a k ty z vs d) (E : Exa Z h a ad) {pc pc' : Nat} {Ls : Array Slot} {rest : List Value} (hd : decode code pc = .ok (.invokevirtual index, 3)) (hsz : Ls.size = maxL) (W : Nat) (hW : (rest.map fun v => v.category).sum = W) (hfr : 1 ≤ R.frames) (hlo : W + 14 ≤ R.locals)
    (cap : Nat) (hcap : z.toNatClampNeg ≤ cap) (hc : cells + 1 ≤ R.cells) (hl : slots + cap ≤ R.slots) (hp : pc + 3 = pc')
    (K : ∀ T' h' a', a' = h.size → Stand p l e R s m args below meth c T' locs (cells + 1) (slots + cap) → T'.heap = h' → Ext h h' → Arv Z h' a' k ty z vs d → Exa Z h' a' ad → Go p.tables e below G T' (mkF m pc' Ls (.ref a' :: rest))) :
    Go p.tables e below G T (mkF m pc Ls (.ref a :: rest)) := by
  subst hp
  obtain ⟨T1, h1, X1, e1, E1, A1, B1, st1⟩ := cloneH X C.exec C.warm C.own w1 w2 w3 w4 w5 w6 eT A.arh E (g := mkF m pc Ls (.ref a :: rest)) rfl (by rw [C.maxl]; exact hsz) rfl (C.at hd) hfr (W := W) (by show 2 * 0 + _ ≤ _; rw [hW]; omega) hlo hcap hc hl
  exact Go.step st1 (K T1 h1 h.size rfl X1 e1 E1 A1 B1)
theorem g_cast (C : Cx p l s m meth c Z x0 code maxL ret) (X : Stand p l e R s m args below meth c T locs cells slots) {cls : String} {index : Nat} (w : (Cond.classLink x0.cls index cls).before a0 Z = true) (eT : T.heap = h) {a : Addr} (F : Ins Z h a cls true) {pc pc' : Nat} {Ls : Array Slot} {rest : List Value} (hd : decode code pc = .ok (.checkcast index, 3)) (hp : pc + 3 = pc')
    (K : ∀ T', Stand p l e R s m args below meth c T' locs cells slots → T'.heap = h → Go p.tables e below G T' (mkF m pc' Ls (.ref a :: rest))) : Go p.tables e below G T (mkF m pc Ls (.ref a :: rest)) := by
  subst hp
  obtain ⟨T1, X1, e1, st1⟩ := castY X C.exec C.warm C.own w eT F (g := mkF m pc Ls (.ref a :: rest)) rfl rfl (C.at hd)
  exact Go.step st1 (K T1 X1 e1)
theorem g_acmpY (C : Cx p l s m meth c Z x0 code maxL ret) (X : Stand p l e R s m args below meth c T locs cells slots) {pc pc' : Nat} {Ls : Array Slot} {st : List Value} {cd : ClassFile.ACond} {v w : Value} {o : Int} (hd : decode code pc = .ok (.if_acmp cd o, 3)) (hv : v.isRef = true) (hw : w.isRef = true) (hc : XT.acmp cd v w = true) (ho : 0 ≤ (pc : Int) + o) (hp : ((pc : Int) + o).toNat = pc')
    (K : Go p.tables e below G T (mkF m pc' Ls st)) : Go p.tables e below G T (mkF m pc Ls (w :: v :: st)) :=
  Go.step (fun _ k => XT.acmpYes X.here C.exec rfl rfl (C.at hd) rfl hv hw hc ho hp k) K
theorem g_acmpN (C : Cx p l s m meth c Z x0 code maxL ret) (X : Stand p l e R s m args below meth c T locs cells slots) {pc pc' : Nat} {Ls : Array Slot} {st : List Value} {cd : ClassFile.ACond} {v w : Value} {o : Int} (hd : decode code pc = .ok (.if_acmp cd o, 3)) (hv : v.isRef = true) (hw : w.isRef = true) (hc : XT.acmp cd v w = false) (hp : pc + 3 = pc')
    (K : Go p.tables e below G T (mkF m pc' Ls st)) : Go p.tables e below G T (mkF m pc Ls (w :: v :: st)) := by
  subst hp
  exact Go.step (fun _ k => XT.acmpNo X.here C.exec rfl (C.at hd) rfl hv hw hc k) K
theorem ac_same (v : Value) : XT.acmp .eq v v = true ∧ XT.acmp .ne v v = false := by simp [XT.acmp]
theorem ac_diff {v w : Value} (q : v ≠ w) : XT.acmp .eq v w = false ∧ XT.acmp .ne v w = true := by simp [XT.acmp, q]
theorem ref_ne {a b : Addr} (q : a ≠ b) : Value.ref a ≠ Value.ref b := fun z => q (Value.ref.inj z)
theorem g_ifnullY (C : Cx p l s m meth c Z x0 code maxL ret) (X : Stand p l e R s m args below meth c T locs cells slots) {pc pc' : Nat} {Ls : Array Slot} {st : List Value} {o : Int} (hd : decode code pc = .ok (.ifnull o, 3)) (ho : 0 ≤ (pc : Int) + o) (hp : ((pc : Int) + o).toNat = pc')
    (K : Go p.tables e below G T (mkF m pc' Ls st)) : Go p.tables e below G T (mkF m pc Ls (.null :: st)) :=
  Go.step (fun _ k => XS.ifnullYes X.here C.exec rfl rfl (C.at hd) rfl ho hp k) K
theorem g_ifnullN (C : Cx p l s m meth c Z x0 code maxL ret) (X : Stand p l e R s m args below meth c T locs cells slots) {pc pc' : Nat} {Ls : Array Slot} {st : List Value} {a : Addr} {o : Int} (hd : decode code pc = .ok (.ifnull o, 3)) (hp : pc + 3 = pc')
    (K : Go p.tables e below G T (mkF m pc' Ls st)) : Go p.tables e below G T (mkF m pc Ls (.ref a :: st)) := by
  subst hp
  exact Go.step (fun _ k => XS.ifnullNo X.here C.exec rfl (C.at hd) rfl k) K
theorem g_ifnonnullN (C : Cx p l s m meth c Z x0 code maxL ret) (X : Stand p l e R s m args below meth c T locs cells slots) {pc pc' : Nat} {Ls : Array Slot} {st : List Value} {o : Int} (hd : decode code pc = .ok (.ifnonnull o, 3)) (hp : pc + 3 = pc')
    (K : Go p.tables e below G T (mkF m pc' Ls st)) : Go p.tables e below G T (mkF m pc Ls (.null :: st)) := by
  subst hp
  exact Go.step (fun _ k => XT.ifnonnullNo X.here C.exec rfl (C.at hd) rfl k) K
theorem g_ifnonnullY (C : Cx p l s m meth c Z x0 code maxL ret) (X : Stand p l e R s m args below meth c T locs cells slots) {pc pc' : Nat} {Ls : Array Slot} {st : List Value} {a : Addr} {o : Int} (hd : decode code pc = .ok (.ifnonnull o, 3)) (ho : 0 ≤ (pc : Int) + o) (hp : ((pc : Int) + o).toNat = pc')
    (K : Go p.tables e below G T (mkF m pc' Ls st)) : Go p.tables e below G T (mkF m pc Ls (.ref a :: st)) :=
  Go.step (fun _ k => XT.ifnonnullYes X.here C.exec rfl rfl (C.at hd) rfl ho hp k) K
theorem g_getS (C : Cx p l s m meth c Z x0 code maxL ret) (X : Stand p l e R s m args below meth c T locs cells slots) {R0 O n d : String} {index : Nat} (w : (Cond.fieldLink x0.cls index R0 n d).before a0 Z = true) (via : Via Z R0 O n d) (eT : T.heap = h) {v : Value} (F : Sta Z h O n d v)
    {pc pc' : Nat} {Ls : Array Slot} {st : List Value} (hd : decode code pc = .ok (.getstatic index, 3)) (hp : pc + 3 = pc')
    (K : ∀ T', Stand p l e R s m args below meth c T' locs cells slots → T'.heap = h → Go p.tables e below G T' (mkF m pc' Ls (v :: st))) : Go p.tables e below G T (mkF m pc Ls st) := by
  subst hp
  obtain ⟨T1, X1, e1, st1⟩ := getS (host := "") X C.exec C.warm C.own w via eT F (g := mkF m pc Ls st) rfl (C.at hd)
  exact Go.step st1 (K T1 X1 e1)
theorem g_lshl (C : Cx p l s m meth c Z x0 code maxL ret) (X : Stand p l e R s m args below meth c T locs cells slots) {pc pc' : Nat} {Ls : Array Slot} {st : List Value} {x : Int64} {y : Int32} (hd : decode code pc = .ok (.lshl, 1)) (hp : pc + 1 = pc')
    (K : Go p.tables e below G T (mkF m pc' Ls (.long (x <<< (y.toInt64 &&& 63)) :: st))) : Go p.tables e below G T (mkF m pc Ls (.int y :: .long x :: st)) := by
  subst hp; exact Go.step (fun _ k => XT.lshl X.here C.exec rfl (C.at hd) rfl k) K
end More
end Jvm.OwnKit
namespace Jvm.OwnKit
open Sem ClassFile Op Lib Jvm.Stand Jvm.Free Jvm.LawKit Jvm.RoadKit
section More2
variable {p : Program} {l : Launch} {e : Env} {R : Room} {s : State} {m : MethodId} {args : Array Value} {below : List Frame} {meth : Method} {c : Code} {T : State} {locs : List Loc} {cells slots : Nat} {Z : State} {a0 : Array Value} {h : Heap} {G : Outcome → State → Prop}
variable {x0 : MethodName} {code : ByteArray} {maxL : Nat} {ret : Option FieldType}
/-- a virtual call of a method that a superclass declares -/
theorem g_callVU (C : Cx p l s m meth c Z x0 code maxL ret) (X : Stand p l e R s m args below meth c T locs cells slots) {index : Nat} {w y : MethodName} {owner cls : String} {bytes : ByteArray} {mL : Nat} {rt : Option FieldType} {rm : Room} {as : Array Value} {Q : Option Value → Heap → List Loc → Prop} (K0 : Con l Z y bytes mL rt rm as h Q)
    (w1 : (Cond.methodLink x0.cls index w).before a0 Z = true) (w2 : (Cond.sameMethod w.cls owner w.name w.desc).before a0 Z = true) (w7 : (Cond.declares ⟨owner, w.name, w.desc⟩).before a0 Z = true) (w5 : (Cond.selects cls w y).before a0 Z = true) (w6 : (Cond.instanceMethod y).before a0 Z = true) (w3 : (Cond.initialized y.cls).before a0 Z = true) (w4 : (Cond.code y bytes mL rt).before a0 Z = true)
    (hy : owner ≠ "java/lang/invoke/MethodHandle" ∧ owner ≠ "java/lang/invoke/VarHandle") (eT : T.heap = h) {a : Addr} (E : Exa Z h a cls) {pc pc' : Nat} {Ls : Array Slot} {st : List Value} (hd : decode code pc = .ok (.invokevirtual index, 3)) (hsz : Ls.size = maxL)
    {ps : List FieldType} {r : Option FieldType} (hpd : parseMethodDescriptor w.desc = some ⟨ps, r⟩) (argsL rest : List Value) (hlen : argsL.length = ps.length) (has : (.ref a :: argsL).toArray = as) (hst : st = argsL.reverse ++ .ref a :: rest) (W : Nat) (hW : (rest.map fun v => v.category).sum = W)
    (hfr : rm.frames + 1 ≤ R.frames) (hlo : W + (mL + 11) + rm.locals ≤ R.locals) (hce : cells + rm.cells ≤ R.cells) (hsl : slots + rm.slots ≤ R.slots) (hp : pc + 3 = pc')
    (K : ∀ v T' L, Stand p l e R s m args below meth c T' (locs ++ L) (cells + rm.cells) (slots + rm.slots) → Q v T'.heap L → Go p.tables e below G T' (mkF m pc' Ls (v.toList ++ rest))) : Go p.tables e below G T (mkF m pc Ls st) := by
  subst hp has
  obtain ⟨cq, kq, qa, qb, qc⟩ := isOf C.warm eT E
  obtain ⟨v, _, ⟨T1, L1, k1, n1⟩, -, X1, ⟨Lc, hQ, q1, q2, q3⟩, st1⟩ := X.virtualBackUp C.exec C.own (mvT C.warm w1) (mvT C.warm w2) (mvT C.warm w7) hy (mvT C.warm w5) (mvT C.warm w6) (backOf (W := W) (K0 []) C.warm w4 w3 hfr hlo) qa qc
    (g := mkF m pc Ls st) rfl (by rw [C.maxl]; exact hsz) (Steps.refl _) (argsL := argsL) (rest := rest) (lenOf hpd hlen) hst (by show 2 * 0 + _ ≤ _; rw [hW]; omega) (C.at hd) (fun _ _ => ⟨rfl, eT, hce, hsl⟩)
  dsimp only [Pt.U, Pt.locs, Pt.cells, Pt.slots] at X1 q1 q2 q3 st1 hQ
  subst q1 q2 q3
  exact go_trans st1 (K v T1 Lc X1 hQ)
theorem g_tsw (C : Cx p l s m meth c Z x0 code maxL ret) (X : Stand p l e R s m args below meth c T locs cells slots) {pc pc' : Nat} {Ls : Array Slot} {st : List Value} {dflt low high : Int} {offs : Array Int} {len : Nat} {o : Int} {i : Int32} (hd : decode code pc = .ok (.tableswitch dflt low high offs, len)) (hin : ¬ (i.toInt < low ∨ i.toInt > high)) (hoff : offs[(i.toInt - low).toNat]? = some o) (ho : 0 ≤ (pc : Int) + o) (hp : ((pc : Int) + o).toNat = pc')
    (K : Go p.tables e below G T (mkF m pc' Ls st)) : Go p.tables e below G T (mkF m pc Ls (.int i :: st)) :=
  Go.step (fun _ k => XS.tswIn X.here C.exec rfl rfl (C.at hd) rfl hin hoff ho hp k) K
end More2
end Jvm.OwnKit
namespace Jvm.OwnKit
section Dbl
open Jvm.FP.Core Jvm.Free.Fl
theorem i2d_D (x : Int32) : DInt x.toInt (FP.i2d x) := i2d_int x
theorem l2d_D {x : Int64} (h : x.toInt.natAbs ≤ 2 ^ 53) : DInt x.toInt (FP.l2d x) := l2d_int h
theorem dadd_D {i j : Int} {a b : UInt64} (ha : DInt i a) (hb : DInt j b) (h : (i + j).natAbs ≤ 2 ^ 53) : DInt (i + j) (FP.dadd a b) := dadd_int ha hb h
theorem dsub_D {i j : Int} {a b : UInt64} (ha : DInt i a) (hb : DInt j b) (h : (i - j).natAbs ≤ 2 ^ 53) : DInt (i - j) (FP.dsub a b) := dsub_int ha hb h
theorem dmul_D {i j : Int} {a b : UInt64} (ha : DInt i a) (hb : DInt j b) (h : (i * j).natAbs ≤ 2 ^ 53) : DInt (i * j) (FP.dmul a b) := dmul_int ha hb h
theorem dint_one' : DInt 1 FP.dconst1 := dint_one
theorem dneg_int' {i : Int} {a : UInt64} (ha : DInt i a) : DInt (-i) (FP.dneg a) := by
  unfold DInt
  rw [FP.val64_dneg]
  exact whole_negate ha
theorem own_pow_cancel {c k d q1 q2 r1 r2 : Nat} {q r : Int} (hq : (q1 : Int) - q2 = q) (hr : (r1 : Int) - r2 = r) (h : c * 2 ^ (q1 + r2) = k * d * 2 ^ (q2 + r1)) : c * 2 ^ (q - r).toNat = k * d * 2 ^ (r - q).toNat := by
  obtain ⟨n, hn⟩ : ∃ n : Nat, n = min (q1 + r2) (q2 + r1) := ⟨_, rfl⟩
  have e1 : q1 + r2 = (q - r).toNat + n := by omega
  have e2 : q2 + r1 = (r - q).toNat + n := by omega
  rw [e1, e2, Nat.pow_add, Nat.pow_add, ← Nat.mul_assoc, ← Nat.mul_assoc] at h
  exact Nat.eq_of_mul_eq_mul_right (Nat.two_pow_pos n) h
theorem ddiv_int {i j k : Int} {a b : UInt64} (ha : DInt i a) (hb : DInt j b) (hj : j ≠ 0) (hk : i = k * j) (h : k.natAbs ≤ 2 ^ 53) : DInt k (FP.ddiv a b) := by
  unfold DInt at *
  show Whole k (val64 (ddiv a b))
  rw [val64_ddiv]
  cases hva : val64 a with
  | nan => rw [hva] at ha; exact ha.elim
  | inf => rw [hva] at ha; exact ha.elim
  | fin s c q =>
    cases hvb : val64 b with
    | nan => rw [hvb] at hb; exact hb.elim
    | inf => rw [hvb] at hb; exact hb.elim
    | fin t d r =>
      rw [hva] at ha
      rw [hvb] at hb
      have hd : d ≠ 0 := fun q => hj ((whole_zero hb).mp q)
      have h1 := whole_natAbs ha
      have h2 := whole_natAbs hb
      have e1 : quotient b64 (.fin s c q) (.fin t d r) = round b64 (.fin (s != t) k.natAbs 0) := by
        show (if d = 0 then _ else roundRatio b64 (s != t) c d (q - r)) = roundRatio b64 (s != t) k.natAbs 1 0
        rw [if_neg hd]
        refine roundRatio_congr (by omega) (by decide) ?_
        have e2 : c * 2 ^ (q.toNat + (-r).toNat) = k.natAbs * d * 2 ^ ((-q).toNat + r.toNat) := by
          rw [Nat.pow_add, Nat.pow_add, ← Nat.mul_assoc, h1, hk, Int.natAbs_mul]
          calc k.natAbs * j.natAbs * 2 ^ (-q).toNat * 2 ^ (-r).toNat = k.natAbs * 2 ^ (-q).toNat * (j.natAbs * 2 ^ (-r).toNat) := by ac_rfl
            _ = k.natAbs * 2 ^ (-q).toNat * (d * 2 ^ r.toNat) := by rw [h2]
            _ = k.natAbs * d * (2 ^ (-q).toNat * 2 ^ r.toNat) := by ac_rfl
        have e3 := own_pow_cancel (q := q) (r := r) (by omega) (by omega) e2
        rw [Nat.mul_one, show (q - r - 0).toNat = (q - r).toNat by omega, show (0 - (q - r)).toNat = (r - q).toNat by omega]
        exact e3
      rw [e1]
      refine whole_round good_b64 wide_b64 h ?_
      show signed (s != t) (k.natAbs * 2 ^ 0) = k * ((2 ^ 0 : Nat) : Int)
      rw [Nat.pow_zero, Nat.mul_one]
      by_cases hk0 : k = 0
      · subst hk0; exact signed_zero _
      · have hi : i ≠ 0 := by rw [hk]; exact Int.mul_ne_zero hk0 hj
        rw [whole_sign ha hi, whole_sign hb hj]
        unfold signed
        rcases Int.lt_or_gt_of_ne hj with q1 | q1 <;> rcases Int.lt_or_gt_of_ne hk0 with q2 | q2
        · have q3 := Int.mul_pos_of_neg_of_neg q2 q1
          rw [← hk] at q3
          simp [q1, show ¬ i < 0 by omega]; omega
        · have q3 := Int.mul_neg_of_pos_of_neg q2 q1
          rw [← hk] at q3
          simp [q1, q3]; omega
        · have q3 := Int.mul_neg_of_neg_of_pos q2 q1
          rw [← hk] at q3
          simp [show ¬ j < 0 by omega, q3]; omega
        · have q3 := Int.mul_pos q2 q1
          rw [← hk] at q3
          simp [show ¬ j < 0 by omega, show ¬ i < 0 by omega]; omega
end Dbl
end Jvm.OwnKit
namespace Jvm.Pilot.@@N@@
open Jvm Jvm.ClassFile Sem Op Lib Jvm.Free Jvm.Stand Jvm.LawKit Jvm.RoadKit Jvm.OwnKit Bundle Jvm.Pilot.@@N@@.Jvm.D
theorem d1_0 : decode jdk_29_method_69_code 0 = .ok (.iload_n 0, 1) := by decide +kernel
theorem d1_1 : decode jdk_29_method_69_code 1 = .ok (.iload_n 1, 1) := by decide +kernel
theorem d1_2 : decode jdk_29_method_69_code 2 = .ok (.if_icmp .gt 7, 3) := by decide +kernel
theorem d1_5 : decode jdk_29_method_69_code 5 = .ok (.iload_n 0, 1) := by decide +kernel
theorem d1_6 : decode jdk_29_method_69_code 6 = .ok (.goto 4, 3) := by decide +kernel
theorem d1_9 : decode jdk_29_method_69_code 9 = .ok (.iload_n 1, 1) := by decide +kernel
theorem d1_10 : decode jdk_29_method_69_code 10 = .ok (.ireturn, 1) := by decide +kernel
theorem d2_0 : decode jdk_29_method_65_code 0 = .ok (.iload_n 0, 1) := by decide +kernel
theorem d2_1 : decode jdk_29_method_65_code 1 = .ok (.iload_n 1, 1) := by decide +kernel
theorem d2_2 : decode jdk_29_method_65_code 2 = .ok (.if_icmp .lt 7, 3) := by decide +kernel
theorem d2_5 : decode jdk_29_method_65_code 5 = .ok (.iload_n 0, 1) := by decide +kernel
theorem d2_6 : decode jdk_29_method_65_code 6 = .ok (.goto 4, 3) := by decide +kernel
theorem d2_9 : decode jdk_29_method_65_code 9 = .ok (.iload_n 1, 1) := by decide +kernel
theorem d2_10 : decode jdk_29_method_65_code 10 = .ok (.ireturn, 1) := by decide +kernel
theorem d3_0 : decode prog_11_method_6_code 0 = .ok (.aload_n 0, 1) := by decide +kernel
theorem d3_1 : decode prog_11_method_6_code 1 = .ok (.invokevirtual 55, 3) := by decide +kernel
theorem d3_4 : decode prog_11_method_6_code 4 = .ok (.tableswitch 28 0 2 #[38, 61, 76], 28) := by decide +kernel
theorem d3_32 : decode prog_11_method_6_code 32 = .ok (.new 59, 3) := by decide +kernel
theorem d3_35 : decode prog_11_method_6_code 35 = .ok (.dup, 1) := by decide +kernel
theorem d3_36 : decode prog_11_method_6_code 36 = .ok (.aconst_null, 1) := by decide +kernel
theorem d3_37 : decode prog_11_method_6_code 37 = .ok (.aconst_null, 1) := by decide +kernel
theorem d3_38 : decode prog_11_method_6_code 38 = .ok (.invokespecial 61, 3) := by decide +kernel
theorem d3_41 : decode prog_11_method_6_code 41 = .ok (.athrow, 1) := by decide +kernel
theorem d3_42 : decode prog_11_method_6_code 42 = .ok (.dload_n 1, 1) := by decide +kernel
theorem d3_43 : decode prog_11_method_6_code 43 = .ok (.dload 5, 2) := by decide +kernel
theorem d3_45 : decode prog_11_method_6_code 45 = .ok (.dcmp .g, 1) := by decide +kernel
theorem d3_46 : decode prog_11_method_6_code 46 = .ok (.ifCond .gt 15, 3) := by decide +kernel
theorem d3_49 : decode prog_11_method_6_code 49 = .ok (.dload_n 3, 1) := by decide +kernel
theorem d3_50 : decode prog_11_method_6_code 50 = .ok (.dload 5, 2) := by decide +kernel
theorem d3_52 : decode prog_11_method_6_code 52 = .ok (.dneg, 1) := by decide +kernel
theorem d3_53 : decode prog_11_method_6_code 53 = .ok (.dcmp .l, 1) := by decide +kernel
theorem d3_54 : decode prog_11_method_6_code 54 = .ok (.ifCond .lt 7, 3) := by decide +kernel
theorem d3_57 : decode prog_11_method_6_code 57 = .ok (.iconst 1, 1) := by decide +kernel
theorem d3_58 : decode prog_11_method_6_code 58 = .ok (.goto 35, 3) := by decide +kernel
theorem d3_61 : decode prog_11_method_6_code 61 = .ok (.iconst 0, 1) := by decide +kernel
theorem d3_62 : decode prog_11_method_6_code 62 = .ok (.goto 31, 3) := by decide +kernel
theorem d3_65 : decode prog_11_method_6_code 65 = .ok (.dload_n 1, 1) := by decide +kernel
theorem d3_66 : decode prog_11_method_6_code 66 = .ok (.dload 5, 2) := by decide +kernel
theorem d3_68 : decode prog_11_method_6_code 68 = .ok (.dcmp .g, 1) := by decide +kernel
theorem d3_69 : decode prog_11_method_6_code 69 = .ok (.ifCond .gt 7, 3) := by decide +kernel
theorem d3_72 : decode prog_11_method_6_code 72 = .ok (.iconst 1, 1) := by decide +kernel
theorem d3_73 : decode prog_11_method_6_code 73 = .ok (.goto 20, 3) := by decide +kernel
theorem d3_76 : decode prog_11_method_6_code 76 = .ok (.iconst 0, 1) := by decide +kernel
theorem d3_77 : decode prog_11_method_6_code 77 = .ok (.goto 16, 3) := by decide +kernel
theorem d3_80 : decode prog_11_method_6_code 80 = .ok (.dload_n 3, 1) := by decide +kernel
theorem d3_81 : decode prog_11_method_6_code 81 = .ok (.dload 5, 2) := by decide +kernel
theorem d3_83 : decode prog_11_method_6_code 83 = .ok (.dneg, 1) := by decide +kernel
theorem d3_84 : decode prog_11_method_6_code 84 = .ok (.dcmp .l, 1) := by decide +kernel
theorem d3_85 : decode prog_11_method_6_code 85 = .ok (.ifCond .lt 7, 3) := by decide +kernel
theorem d3_88 : decode prog_11_method_6_code 88 = .ok (.iconst 1, 1) := by decide +kernel
theorem d3_89 : decode prog_11_method_6_code 89 = .ok (.goto 4, 3) := by decide +kernel
theorem d3_92 : decode prog_11_method_6_code 92 = .ok (.iconst 0, 1) := by decide +kernel
theorem d3_93 : decode prog_11_method_6_code 93 = .ok (.ireturn, 1) := by decide +kernel
theorem d4_0 : decode jdk_37_method_2_code 0 = .ok (.aload_n 0, 1) := by decide +kernel
theorem d4_1 : decode jdk_37_method_2_code 1 = .ok (.getfield 7, 3) := by decide +kernel
theorem d4_4 : decode jdk_37_method_2_code 4 = .ok (.ireturn, 1) := by decide +kernel
theorem pn0 : plainName x.cls = true := by first | (simp [x, plainName, overriddenIn]; done) | decide +kernel
theorem pnC : plainName "com/example/shared_weights/sharedweights/Comparison" = true := by first | (simp [plainName, overriddenIn]; done) | decide +kernel
theorem pf_min : plainFor (⟨"java/lang/Math", "min", "(II)I"⟩ : MethodName) = true := by decide +kernel
theorem pf_max : plainFor (⟨"java/lang/Math", "max", "(II)I"⟩ : MethodName) = true := by decide +kernel
theorem pnE : plainName "java/lang/Enum" = true := by first | (simp [plainName, overriddenIn]; done) | decide +kernel
theorem pdM : parseMethodDescriptor "(II)I" = some ⟨[.int, .int], some .int⟩ := by decide +kernel
theorem pdO : parseMethodDescriptor "()I" = some ⟨[], some .int⟩ := by decide +kernel
theorem pdH : parseMethodDescriptor "(DDD)Z" = some ⟨[.double, .double, .double], some .boolean⟩ := by decide +kernel
theorem efM (m : MethodId) (i j : Int32) : entryFrame m #[(.int i), (.int j)] 2 = mkF m 0 #[.val (.int i), .val (.int j)] [] := by first | (simp [entryFrame, mkF, argsToLocals, Value.category, maxLocals]; done) | rfl
theorem efO (m : MethodId) (a : Addr) : entryFrame m #[(.ref a)] 1 = mkF m 0 #[.val (.ref a)] [] := by first | (simp [entryFrame, mkF, argsToLocals, Value.category, maxLocals]; done) | rfl
theorem efH (m : MethodId) (a : Addr) (x y z : UInt64) : entryFrame m #[(.ref a), (.double x), (.double y), (.double z)] 7 = mkF m 0 #[.val (.ref a), .val (.double x), .second, .val (.double y), .second, .val (.double z), .second] [] := by first | (simp [entryFrame, mkF, argsToLocals, Value.category, maxLocals]; done) | rfl
theorem ef0 (m : MethodId) (x0 x1 x2 x3 : Int32) : entryFrame m #[(.int x0), (.int x1), (.int x2), (.int x3)] maxLocals = mkF m 0 #[.val (.int x0), .val (.int x1), .val (.int x2), .val (.int x3), .unset, .unset, .unset, .unset, .unset, .unset, .unset, .unset, .unset, .unset, .unset] [] := by first | (simp [entryFrame, mkF, argsToLocals, Value.category, maxLocals]; done) | rfl
set_option maxRecDepth 65536 in
set_option maxHeartbeats 40000000 in
theorem c_min (l : Launch) (Z : State) (h : Heap) (i j : Int32) :
    Con l Z (⟨"java/lang/Math", "min", "(II)I"⟩ : MethodName) jdk_29_method_69_code 2 (some .int) ⟨0, 0, 0, 0⟩ #[.int i, .int j] h (fun v h' L => ∃ r : Int32, v = some (.int r) ∧ (r.toInt ≤ i.toInt ∧ r.toInt ≤ j.toInt) ∧ (r.toInt = i.toInt ∨ r.toInt = j.toInt) ∧ L = [] ∧ h' = h) := by
  refine con_of_goF pf_min (fun m => efM m i j) ?_
  intro p e s m below meth c T0 C X0 e0
  refine g_iloadN C X0 (pc' := 1) d1_0 rfl rfl ?_
  refine g_iloadN C X0 (pc' := 2) d1_1 rfl rfl ?_
  refine g_icmp C X0 d1_2 (pc' := 9) (pc'' := 5) (by decide) (by decide) rfl (fun c2 => ?_) (fun c2 => ?_)
  · have c2 : j.toInt < i.toInt := c2
    refine g_iloadN C X0 (pc' := 10) d1_9 rfl rfl ?_
    exact g_ireturn C X0 d1_10 ⟨_, rfl, by omega, by omega, rfl, e0⟩ (by decide) (by decide)
  · have c2 : ¬ (j.toInt < i.toInt) := c2
    refine g_iloadN C X0 (pc' := 6) d1_5 rfl rfl ?_
    refine g_goto C X0 d1_6 (pc' := 10) (by decide) (by decide) ?_
    exact g_ireturn C X0 d1_10 ⟨_, rfl, by omega, by omega, rfl, e0⟩ (by decide) (by decide)
set_option maxRecDepth 65536 in
set_option maxHeartbeats 40000000 in
theorem c_max (l : Launch) (Z : State) (h : Heap) (i j : Int32) :
    Con l Z (⟨"java/lang/Math", "max", "(II)I"⟩ : MethodName) jdk_29_method_65_code 2 (some .int) ⟨0, 0, 0, 0⟩ #[.int i, .int j] h (fun v h' L => ∃ r : Int32, v = some (.int r) ∧ (i.toInt ≤ r.toInt ∧ j.toInt ≤ r.toInt) ∧ (r.toInt = i.toInt ∨ r.toInt = j.toInt) ∧ L = [] ∧ h' = h) := by
  refine con_of_goF pf_max (fun m => efM m i j) ?_
  intro p e s m below meth c T0 C X0 e0
  refine g_iloadN C X0 (pc' := 1) d2_0 rfl rfl ?_
  refine g_iloadN C X0 (pc' := 2) d2_1 rfl rfl ?_
  refine g_icmp C X0 d2_2 (pc' := 9) (pc'' := 5) (by decide) (by decide) rfl (fun c2 => ?_) (fun c2 => ?_)
  · have c2 : i.toInt < j.toInt := c2
    refine g_iloadN C X0 (pc' := 10) d2_9 rfl rfl ?_
    exact g_ireturn C X0 d2_10 ⟨_, rfl, by omega, by omega, rfl, e0⟩ (by decide) (by decide)
  · have c2 : ¬ (i.toInt < j.toInt) := c2
    refine g_iloadN C X0 (pc' := 6) d2_5 rfl rfl ?_
    refine g_goto C X0 d2_6 (pc' := 10) (by decide) (by decide) ?_
    exact g_ireturn C X0 d2_10 ⟨_, rfl, by omega, by omega, rfl, e0⟩ (by decide) (by decide)
set_option maxRecDepth 65536 in
set_option maxHeartbeats 40000000 in
theorem c_ord (l : Launch) (Z : State) (a0 : Array Value) (hw : ∀ d ∈ tables_1, d.before a0 Z = true) (h : Heap) (a : Addr) (w : Int32) (F : Fld Z h a "java/lang/Enum" "ordinal" "I" (.int w)) :
    Con l Z (⟨"java/lang/Enum", "ordinal", "()I"⟩ : MethodName) jdk_37_method_2_code 1 (some .int) ⟨0, 0, 0, 0⟩ #[.ref a] h (fun v h' L => v = some (.int w) ∧ L = [] ∧ h' = h) := by
  refine con_of_go pnE (fun m => efO m a) ?_
  intro p e s m below meth c T0 C X0 e0
  refine g_aloadN C X0 (pc' := 1) d4_0 rfl rfl rfl ?_
  refine g_getF C X0 (host := "") (Or.inl (hw _ (List.mem_of_getElem? (i := 23) rfl))) Via.refl e0 F d4_1 rfl ?_
  intro T1 X1 e1
  exact g_ireturn C X1 d4_4 ⟨rfl, rfl, e1⟩ (by decide) (by decide)
set_option maxRecDepth 65536 in
set_option maxHeartbeats 40000000 in
theorem c_hs0 (l : Launch) (Z : State) (a0 : Array Value) (hw : ∀ d ∈ tables_1, d.before a0 Z = true) (h : Heap) (a : Addr) (x y z : UInt64) (LO HI TT : Int) (D1 : FP.Core.DInt LO x) (D2 : FP.Core.DInt HI y) (D3 : FP.Core.DInt TT z) (A : Exa Z h a "com/example/shared_weights/sharedweights/Comparison") (F : Fld Z h a "java/lang/Enum" "ordinal" "I" (.int (0 : Int32))) :
    Con l Z (⟨"com/example/shared_weights/sharedweights/Comparison", "holdsSomewhere", "(DDD)Z"⟩ : MethodName) prog_11_method_6_code 7 (some .boolean) ⟨1, 0, 0, 20⟩ #[.ref a, .double x, .double y, .double z] h (fun v h' L => ∃ r : Int32, v = some (.int r) ∧ (r.toInt = 1 ∧ (LO ≤ TT ∧ -TT ≤ HI) ∨ r.toInt = 0 ∧ ¬ (LO ≤ TT ∧ -TT ≤ HI)) ∧ L = [] ∧ h' = h) := by
  refine con_of_go pnC (fun m => efH m a x y z) ?_
  intro p e s m below meth c T0 C X0 e0
  refine g_aloadN C X0 (pc' := 1) d3_0 rfl rfl rfl ?_
  refine g_callVU C X0 (c_ord l Z a0 hw h a _ F) (hw _ (List.mem_of_getElem? (i := 16) rfl)) (hw _ (List.mem_of_getElem? (i := 17) rfl)) (hw _ (List.mem_of_getElem? (i := 18) rfl)) (hw _ (List.mem_of_getElem? (i := 20) rfl)) (hw _ (List.mem_of_getElem? (i := 19) rfl)) (hw _ (List.mem_of_getElem? (i := 21) rfl)) (hw _ (List.mem_of_getElem? (i := 22) rfl)) (by decide) e0 A d3_1 rfl pdO [] [] rfl rfl rfl 0 rfl (by decide) (by decide) (by decide) (by decide) rfl ?_
  rintro _ T1 _ X1 ⟨rfl, rfl, e1⟩
  rw [List.append_nil] at X1
  show Go p.tables e below _ T1 (mkF m 4 #[.val (.ref a), .val (.double x), .second, .val (.double y), .second, .val (.double z), .second] [(.int (0 : Int32))])
  refine g_tsw C X1 d3_4 (o := 38) (pc' := 42) (by decide) (by decide) (by decide) (by decide) ?_
  refine g_dloadN C X1 (pc' := 43) d3_42 rfl rfl ?_
  refine g_dload C X1 (pc' := 45) d3_43 rfl rfl ?_
  refine g_dcmpV C X1 (pc' := 46) d3_45 (dcmp_cmpI D1 D3 _) rfl ?_
  refine g_if C X1 d3_46 (pc' := 61) (pc'' := 49) (by decide) (by decide) rfl (fun c46 => ?_) (fun c46 => ?_)
  · have c46 : 0 < (cmpI LO TT).toInt := c46
    have c46 : TT < LO := (cmpI_gt _ _).mp c46
    refine g_iconst C X1 (pc' := 62) d3_61 (v := (0 : Int32)) (by decide) rfl ?_
    refine g_goto C X1 d3_62 (pc' := 93) (by decide) (by decide) ?_
    exact g_zreturn C X1 d3_93 (w := (0 : Int32)) (by decide) ⟨_, rfl, Or.inr ⟨rfl, by omega⟩, rfl, e1⟩ (by decide) (by decide)
  · have c46 : ¬ (0 < (cmpI LO TT).toInt) := c46
    have c46 : ¬ (TT < LO) := fun q => c46 ((cmpI_gt _ _).mpr q)
    refine g_dloadN C X1 (pc' := 50) d3_49 rfl rfl ?_
    refine g_dload C X1 (pc' := 52) d3_50 rfl rfl ?_
    refine g_dneg C X1 (pc' := 53) d3_52 rfl ?_
    refine g_dcmpV C X1 (pc' := 54) d3_53 (dcmp_cmpI D2 (dneg_int' D3) _) rfl ?_
    refine g_if C X1 d3_54 (pc' := 61) (pc'' := 57) (by decide) (by decide) rfl (fun c54 => ?_) (fun c54 => ?_)
    · have c54 : (cmpI HI (-TT)).toInt < 0 := c54
      have c54 : HI < -TT := (cmpI_lt _ _).mp c54
      refine g_iconst C X1 (pc' := 62) d3_61 (v := (0 : Int32)) (by decide) rfl ?_
      refine g_goto C X1 d3_62 (pc' := 93) (by decide) (by decide) ?_
      exact g_zreturn C X1 d3_93 (w := (0 : Int32)) (by decide) ⟨_, rfl, Or.inr ⟨rfl, by omega⟩, rfl, e1⟩ (by decide) (by decide)
    · have c54 : ¬ ((cmpI HI (-TT)).toInt < 0) := c54
      have c54 : ¬ (HI < -TT) := fun q => c54 ((cmpI_lt _ _).mpr q)
      refine g_iconst C X1 (pc' := 58) d3_57 (v := (1 : Int32)) (by decide) rfl ?_
      refine g_goto C X1 d3_58 (pc' := 93) (by decide) (by decide) ?_
      exact g_zreturn C X1 d3_93 (w := (1 : Int32)) (by decide) ⟨_, rfl, Or.inl ⟨rfl, by omega⟩, rfl, e1⟩ (by decide) (by decide)
set_option maxRecDepth 65536 in
set_option maxHeartbeats 40000000 in
theorem c_hs1 (l : Launch) (Z : State) (a0 : Array Value) (hw : ∀ d ∈ tables_1, d.before a0 Z = true) (h : Heap) (a : Addr) (x y z : UInt64) (LO HI TT : Int) (D1 : FP.Core.DInt LO x) (D2 : FP.Core.DInt HI y) (D3 : FP.Core.DInt TT z) (A : Exa Z h a "com/example/shared_weights/sharedweights/Comparison") (F : Fld Z h a "java/lang/Enum" "ordinal" "I" (.int (1 : Int32))) :
    Con l Z (⟨"com/example/shared_weights/sharedweights/Comparison", "holdsSomewhere", "(DDD)Z"⟩ : MethodName) prog_11_method_6_code 7 (some .boolean) ⟨1, 0, 0, 20⟩ #[.ref a, .double x, .double y, .double z] h (fun v h' L => ∃ r : Int32, v = some (.int r) ∧ (r.toInt = 1 ∧ (LO ≤ TT) ∨ r.toInt = 0 ∧ ¬ (LO ≤ TT)) ∧ L = [] ∧ h' = h) := by
  refine con_of_go pnC (fun m => efH m a x y z) ?_
  intro p e s m below meth c T0 C X0 e0
  refine g_aloadN C X0 (pc' := 1) d3_0 rfl rfl rfl ?_
  refine g_callVU C X0 (c_ord l Z a0 hw h a _ F) (hw _ (List.mem_of_getElem? (i := 16) rfl)) (hw _ (List.mem_of_getElem? (i := 17) rfl)) (hw _ (List.mem_of_getElem? (i := 18) rfl)) (hw _ (List.mem_of_getElem? (i := 20) rfl)) (hw _ (List.mem_of_getElem? (i := 19) rfl)) (hw _ (List.mem_of_getElem? (i := 21) rfl)) (hw _ (List.mem_of_getElem? (i := 22) rfl)) (by decide) e0 A d3_1 rfl pdO [] [] rfl rfl rfl 0 rfl (by decide) (by decide) (by decide) (by decide) rfl ?_
  rintro _ T1 _ X1 ⟨rfl, rfl, e1⟩
  rw [List.append_nil] at X1
  show Go p.tables e below _ T1 (mkF m 4 #[.val (.ref a), .val (.double x), .second, .val (.double y), .second, .val (.double z), .second] [(.int (1 : Int32))])
  refine g_tsw C X1 d3_4 (o := 61) (pc' := 65) (by decide) (by decide) (by decide) (by decide) ?_
  refine g_dloadN C X1 (pc' := 66) d3_65 rfl rfl ?_
  refine g_dload C X1 (pc' := 68) d3_66 rfl rfl ?_
  refine g_dcmpV C X1 (pc' := 69) d3_68 (dcmp_cmpI D1 D3 _) rfl ?_
  refine g_if C X1 d3_69 (pc' := 76) (pc'' := 72) (by decide) (by decide) rfl (fun c69 => ?_) (fun c69 => ?_)
  · have c69 : 0 < (cmpI LO TT).toInt := c69
    have c69 : TT < LO := (cmpI_gt _ _).mp c69
    refine g_iconst C X1 (pc' := 77) d3_76 (v := (0 : Int32)) (by decide) rfl ?_
    refine g_goto C X1 d3_77 (pc' := 93) (by decide) (by decide) ?_
    exact g_zreturn C X1 d3_93 (w := (0 : Int32)) (by decide) ⟨_, rfl, Or.inr ⟨rfl, by omega⟩, rfl, e1⟩ (by decide) (by decide)
  · have c69 : ¬ (0 < (cmpI LO TT).toInt) := c69
    have c69 : ¬ (TT < LO) := fun q => c69 ((cmpI_gt _ _).mpr q)
    refine g_iconst C X1 (pc' := 73) d3_72 (v := (1 : Int32)) (by decide) rfl ?_
    refine g_goto C X1 d3_73 (pc' := 93) (by decide) (by decide) ?_
    exact g_zreturn C X1 d3_93 (w := (1 : Int32)) (by decide) ⟨_, rfl, Or.inl ⟨rfl, by omega⟩, rfl, e1⟩ (by decide) (by decide)
set_option maxRecDepth 65536 in
set_option maxHeartbeats 40000000 in
theorem c_hs2 (l : Launch) (Z : State) (a0 : Array Value) (hw : ∀ d ∈ tables_1, d.before a0 Z = true) (h : Heap) (a : Addr) (x y z : UInt64) (LO HI TT : Int) (D1 : FP.Core.DInt LO x) (D2 : FP.Core.DInt HI y) (D3 : FP.Core.DInt TT z) (A : Exa Z h a "com/example/shared_weights/sharedweights/Comparison") (F : Fld Z h a "java/lang/Enum" "ordinal" "I" (.int (2 : Int32))) :
    Con l Z (⟨"com/example/shared_weights/sharedweights/Comparison", "holdsSomewhere", "(DDD)Z"⟩ : MethodName) prog_11_method_6_code 7 (some .boolean) ⟨1, 0, 0, 20⟩ #[.ref a, .double x, .double y, .double z] h (fun v h' L => ∃ r : Int32, v = some (.int r) ∧ (r.toInt = 1 ∧ (-TT ≤ HI) ∨ r.toInt = 0 ∧ ¬ (-TT ≤ HI)) ∧ L = [] ∧ h' = h) := by
  refine con_of_go pnC (fun m => efH m a x y z) ?_
  intro p e s m below meth c T0 C X0 e0
  refine g_aloadN C X0 (pc' := 1) d3_0 rfl rfl rfl ?_
  refine g_callVU C X0 (c_ord l Z a0 hw h a _ F) (hw _ (List.mem_of_getElem? (i := 16) rfl)) (hw _ (List.mem_of_getElem? (i := 17) rfl)) (hw _ (List.mem_of_getElem? (i := 18) rfl)) (hw _ (List.mem_of_getElem? (i := 20) rfl)) (hw _ (List.mem_of_getElem? (i := 19) rfl)) (hw _ (List.mem_of_getElem? (i := 21) rfl)) (hw _ (List.mem_of_getElem? (i := 22) rfl)) (by decide) e0 A d3_1 rfl pdO [] [] rfl rfl rfl 0 rfl (by decide) (by decide) (by decide) (by decide) rfl ?_
  rintro _ T1 _ X1 ⟨rfl, rfl, e1⟩
  rw [List.append_nil] at X1
  show Go p.tables e below _ T1 (mkF m 4 #[.val (.ref a), .val (.double x), .second, .val (.double y), .second, .val (.double z), .second] [(.int (2 : Int32))])
  refine g_tsw C X1 d3_4 (o := 76) (pc' := 80) (by decide) (by decide) (by decide) (by decide) ?_
  refine g_dloadN C X1 (pc' := 81) d3_80 rfl rfl ?_
  refine g_dload C X1 (pc' := 83) d3_81 rfl rfl ?_
  refine g_dneg C X1 (pc' := 84) d3_83 rfl ?_
  refine g_dcmpV C X1 (pc' := 85) d3_84 (dcmp_cmpI D2 (dneg_int' D3) _) rfl ?_
  refine g_if C X1 d3_85 (pc' := 92) (pc'' := 88) (by decide) (by decide) rfl (fun c85 => ?_) (fun c85 => ?_)
  · have c85 : (cmpI HI (-TT)).toInt < 0 := c85
    have c85 : HI < -TT := (cmpI_lt _ _).mp c85
    refine g_iconst C X1 (pc' := 93) d3_92 (v := (0 : Int32)) (by decide) rfl ?_
    exact g_zreturn C X1 d3_93 (w := (0 : Int32)) (by decide) ⟨_, rfl, Or.inr ⟨rfl, by omega⟩, rfl, e1⟩ (by decide) (by decide)
  · have c85 : ¬ ((cmpI HI (-TT)).toInt < 0) := c85
    have c85 : ¬ (HI < -TT) := fun q => c85 ((cmpI_lt _ _).mpr q)
    refine g_iconst C X1 (pc' := 89) d3_88 (v := (1 : Int32)) (by decide) rfl ?_
    refine g_goto C X1 d3_89 (pc' := 93) (by decide) (by decide) ?_
    exact g_zreturn C X1 d3_93 (w := (1 : Int32)) (by decide) ⟨_, rfl, Or.inl ⟨rfl, by omega⟩, rfl, e1⟩ (by decide) (by decide)
theorem own_n (x : Int32) : (x &&& 2147483647) % 3 = 0 ∨ (x &&& 2147483647) % 3 = 1 ∨ (x &&& 2147483647) % 3 = 2 := by
  have h1 := c_and x 2147483647 (by decide)
  have h2 := (c_irem (x &&& 2147483647) 3 3 (by decide)).1 h1.1
  have e0 : (0 : Int32).toInt = 0 := by decide
  have e1 : (1 : Int32).toInt = 1 := by decide
  have e2 : (2 : Int32).toInt = 2 := by decide
  simp only [← Int32.toInt_inj]
  omega
set_option maxRecDepth 65536 in
set_option maxHeartbeats 40000000 in
theorem law (l : Launch) (Z : State) (a0 : Array Value) (hw : ∀ d ∈ tables_1, d.before a0 Z = true) (p0 p1 p2 p3 : Int32) (h : Heap) (n0 : Nat) (Z0 : n0 ≤ h.size) (y0 : Addr) (S0 : Sta Z h "com/example/shared_weights/sharedweights/Comparison" "EQUAL" "Lcom/example/shared_weights/sharedweights/Comparison;" (.ref y0)) (E0 : Exa Z h y0 "com/example/shared_weights/sharedweights/Comparison") (F0 : Fld Z h y0 "java/lang/Enum" "ordinal" "I" (.int (0 : Int32))) (y1 : Addr) (S1 : Sta Z h "com/example/shared_weights/sharedweights/Comparison" "AT_MOST" "Lcom/example/shared_weights/sharedweights/Comparison;" (.ref y1)) (E1 : Exa Z h y1 "com/example/shared_weights/sharedweights/Comparison") (F1 : Fld Z h y1 "java/lang/Enum" "ordinal" "I" (.int (1 : Int32))) (y2 : Addr) (S2 : Sta Z h "com/example/shared_weights/sharedweights/Comparison" "AT_LEAST" "Lcom/example/shared_weights/sharedweights/Comparison;" (.ref y2)) (E2 : Exa Z h y2 "com/example/shared_weights/sharedweights/Comparison") (F2 : Fld Z h y2 "java/lang/Enum" "ordinal" "I" (.int (2 : Int32))) :
    Con l Z x code maxLocals ret room_1 #[.int p0, .int p1, .int p2, .int p3] h (fun v _ L => v = some (.int 1) ∧ Fr n0 L) := by
  refine con_of_go pn0 (fun m => ef0 m p0 p1 p2 p3) ?_
  intro p e s m below meth c T0 C X0 e0
  refine g_iloadN C X0 (pc' := 1) at_0 rfl rfl ?_
  refine g_ldcI C X0 (pc' := 3) (hw _ (List.mem_of_getElem? (i := 0) rfl)) at_1 rfl ?_
  refine g_iand C X0 (pc' := 4) at_3 rfl ?_
  refine g_iconst C X0 (pc' := 5) at_4 (v := (3 : Int32)) (by decide) rfl ?_
  refine g_irem C X0 (pc' := 6) at_5 (by decide) rfl ?_
  obtain ⟨i1, e_i1⟩ : ∃ z : Int32, z = (p0 &&& (2147483647 : Int32)) % (3 : Int32) := ⟨_, rfl⟩
  refine g_istore C X0 (pc' := 8) at_6 (x := i1) e_i1 (l' := #[.val (.int p0), .val (.int p1), .val (.int p2), .val (.int p3), .val (.int i1), .unset, .unset, .unset, .unset, .unset, .unset, .unset, .unset, .unset, .unset]) rfl rfl ?_
  have nn := own_n p0
  rw [← e_i1] at nn
  clear e_i1
  rcases nn with rfl | rfl | rfl
  · show Go p.tables e below _ T0 (mkF m 8 #[.val (.int p0), .val (.int p1), .val (.int p2), .val (.int p3), .val (.int (0 : Int32)), .unset, .unset, .unset, .unset, .unset, .unset, .unset, .unset, .unset, .unset] [])
    refine g_iload C X0 (pc' := 10) at_8 rfl rfl ?_
    refine g_ifN C X0 at_10 (by decide) rfl ?_
    refine g_getS C X0 (hw _ (List.mem_of_getElem? (i := 1) rfl)) Via.refl e0 S0 at_13 rfl ?_
    intro T1 X1 e1
    refine g_goto C X1 at_16 (pc' := 34) (by decide) (by decide) ?_
    refine g_astore C X1 (pc' := 36) at_34 rfl (l' := #[.val (.int p0), .val (.int p1), .val (.int p2), .val (.int p3), .val (.int (0 : Int32)), .val (.ref y0), .unset, .unset, .unset, .unset, .unset, .unset, .unset, .unset, .unset]) rfl rfl ?_
    refine g_iloadN C X1 (pc' := 37) at_36 rfl rfl ?_
    refine g_iloadN C X1 (pc' := 38) at_37 rfl rfl ?_
    refine g_callS C X1 (c_min l Z h p1 p2) (hw _ (List.mem_of_getElem? (i := 4) rfl)) (hw _ (List.mem_of_getElem? (i := 5) rfl)) (hw _ (List.mem_of_getElem? (i := 6) rfl)) (hw _ (List.mem_of_getElem? (i := 7) rfl)) (by decide) e1 at_38 rfl pdM [(.int p1), (.int p2)] [] rfl rfl rfl 0 rfl (by decide) (by decide) (by decide) (by decide) rfl ?_
    rintro _ T2 _ X2 ⟨r2, rfl, b2, c2, rfl, e2⟩
    rw [List.append_nil] at X2
    show Go p.tables e below _ T2 (mkF m 41 #[.val (.int p0), .val (.int p1), .val (.int p2), .val (.int p3), .val (.int (0 : Int32)), .val (.ref y0), .unset, .unset, .unset, .unset, .unset, .unset, .unset, .unset, .unset] [(.int r2)])
    refine g_i2d C X2 (pc' := 42) at_41 rfl ?_
    obtain ⟨d2, e_d2⟩ : ∃ z : UInt64, z = FP.i2d r2 := ⟨_, rfl⟩
    have D_d2 : FP.Core.DInt r2.toInt d2 := e_d2 ▸ (i2d_D r2)
    refine g_dstore C X2 (pc' := 44) at_42 (x := d2) e_d2 (l' := #[.val (.int p0), .val (.int p1), .val (.int p2), .val (.int p3), .val (.int (0 : Int32)), .val (.ref y0), .val (.double d2), .second, .unset, .unset, .unset, .unset, .unset, .unset, .unset]) rfl rfl ?_
    refine g_iloadN C X2 (pc' := 45) at_44 rfl rfl ?_
    refine g_iloadN C X2 (pc' := 46) at_45 rfl rfl ?_
    refine g_callS C X2 (c_max l Z h p1 p2) (hw _ (List.mem_of_getElem? (i := 8) rfl)) (hw _ (List.mem_of_getElem? (i := 9) rfl)) (hw _ (List.mem_of_getElem? (i := 6) rfl)) (hw _ (List.mem_of_getElem? (i := 10) rfl)) (by decide) e2 at_46 rfl pdM [(.int p1), (.int p2)] [] rfl rfl rfl 0 rfl (by decide) (by decide) (by decide) (by decide) rfl ?_
    rintro _ T3 _ X3 ⟨r3, rfl, b3, c3, rfl, e3⟩
    rw [List.append_nil] at X3
    show Go p.tables e below _ T3 (mkF m 49 #[.val (.int p0), .val (.int p1), .val (.int p2), .val (.int p3), .val (.int (0 : Int32)), .val (.ref y0), .val (.double d2), .second, .unset, .unset, .unset, .unset, .unset, .unset, .unset] [(.int r3)])
    refine g_i2d C X3 (pc' := 50) at_49 rfl ?_
    obtain ⟨d3, e_d3⟩ : ∃ z : UInt64, z = FP.i2d r3 := ⟨_, rfl⟩
    have D_d3 : FP.Core.DInt r3.toInt d3 := e_d3 ▸ (i2d_D r3)
    refine g_dstore C X3 (pc' := 52) at_50 (x := d3) e_d3 (l' := #[.val (.int p0), .val (.int p1), .val (.int p2), .val (.int p3), .val (.int (0 : Int32)), .val (.ref y0), .val (.double d2), .second, .val (.double d3), .second, .unset, .unset, .unset, .unset, .unset]) rfl rfl ?_
    refine g_iloadN C X3 (pc' := 53) at_52 rfl rfl ?_
    refine g_ldcI C X3 (pc' := 55) (hw _ (List.mem_of_getElem? (i := 0) rfl)) at_53 rfl ?_
    refine g_iand C X3 (pc' := 56) at_55 rfl ?_
    refine g_i2d C X3 (pc' := 57) at_56 rfl ?_
    have bt := c_and p3 2147483647 (by decide)
    obtain ⟨d4, e_d4⟩ : ∃ z : UInt64, z = FP.i2d (p3 &&& (2147483647 : Int32)) := ⟨_, rfl⟩
    have D_d4 : FP.Core.DInt ((p3 &&& (2147483647 : Int32)).toInt) d4 := e_d4 ▸ (i2d_D (p3 &&& (2147483647 : Int32)))
    refine g_dstore C X3 (pc' := 59) at_57 (x := d4) e_d4 (l' := #[.val (.int p0), .val (.int p1), .val (.int p2), .val (.int p3), .val (.int (0 : Int32)), .val (.ref y0), .val (.double d2), .second, .val (.double d3), .second, .val (.double d4), .second, .unset, .unset, .unset]) rfl rfl ?_
    refine g_dload C X3 (pc' := 61) at_59 rfl rfl ?_
    refine g_dconst0 C X3 (pc' := 62) at_61 rfl rfl ?_
    refine g_dcmpV C X3 (pc' := 63) at_62 (dcmp_cmpI D_d2 dint_zero _) rfl ?_
    refine g_if C X3 at_63 (pc' := 71) (pc'' := 66) (by decide) (by decide) rfl (fun c63 => ?_) (fun c63 => ?_)
    · have c63 : ¬ (0 < (cmpI r2.toInt 0).toInt) := c63
      have c63 : ¬ (0 < r2.toInt) := fun q => c63 ((cmpI_gt _ _).mpr q)
      refine g_dload C X3 (pc' := 73) at_71 rfl rfl ?_
      refine g_dconst0 C X3 (pc' := 74) at_73 rfl rfl ?_
      refine g_dcmpV C X3 (pc' := 75) at_74 (dcmp_cmpI D_d3 dint_zero _) rfl ?_
      refine g_if C X3 at_75 (pc' := 83) (pc'' := 78) (by decide) (by decide) rfl (fun c75 => ?_) (fun c75 => ?_)
      · have c75 : ¬ ((cmpI r3.toInt 0).toInt < 0) := c75
        have c75 : ¬ (r3.toInt < 0) := fun q => c75 ((cmpI_lt _ _).mpr q)
        refine g_dconst0 C X3 (pc' := 84) at_83 rfl rfl ?_
        refine g_dstore C X3 (pc' := 86) at_84 (x := FP.dconst0) rfl (l' := #[.val (.int p0), .val (.int p1), .val (.int p2), .val (.int p3), .val (.int (0 : Int32)), .val (.ref y0), .val (.double d2), .second, .val (.double d3), .second, .val (.double d4), .second, .val (.double FP.dconst0), .second, .unset]) rfl rfl ?_
        refine g_iload C X3 (pc' := 88) at_86 rfl rfl ?_
        refine g_ifN C X3 at_88 (by decide) rfl ?_
        refine g_dload C X3 (pc' := 93) at_91 rfl rfl ?_
        refine g_dload C X3 (pc' := 95) at_93 rfl rfl ?_
        refine g_dcmpV C X3 (pc' := 96) at_95 (dcmp_cmpI dint_zero D_d4 _) rfl ?_
        refine g_if C X3 at_96 (pc' := 112) (pc'' := 99) (by decide) (by decide) rfl (fun c96 => ?_) (fun c96 => ?_)
        · have c96 : 0 < (cmpI 0 ((p3 &&& (2147483647 : Int32)).toInt)).toInt := c96
          have c96 : (p3 &&& (2147483647 : Int32)).toInt < 0 := (cmpI_gt _ _).mp c96
          refine g_iconst C X3 (pc' := 113) at_112 (v := (0 : Int32)) (by decide) rfl ?_
          refine g_istore C X3 (pc' := 115) at_113 (x := (0 : Int32)) rfl (l' := #[.val (.int p0), .val (.int p1), .val (.int p2), .val (.int p3), .val (.int (0 : Int32)), .val (.ref y0), .val (.double d2), .second, .val (.double d3), .second, .val (.double d4), .second, .val (.double FP.dconst0), .second, .val (.int (0 : Int32))]) rfl rfl ?_
          refine g_goto C X3 at_115 (pc' := 158) (by decide) (by decide) ?_
          refine g_aload C X3 (pc' := 160) at_158 rfl rfl rfl ?_
          refine g_dload C X3 (pc' := 162) at_160 rfl rfl ?_
          refine g_dload C X3 (pc' := 164) at_162 rfl rfl ?_
          refine g_dload C X3 (pc' := 166) at_164 rfl rfl ?_
          refine g_callV C X3 (c_hs0 l Z a0 hw h y0 d2 d3 d4 _ _ _ D_d2 D_d3 D_d4 E0 F0) (hw _ (List.mem_of_getElem? (i := 11) rfl)) (hw _ (List.mem_of_getElem? (i := 12) rfl)) (hw _ (List.mem_of_getElem? (i := 14) rfl)) (hw _ (List.mem_of_getElem? (i := 13) rfl)) (hw _ (List.mem_of_getElem? (i := 2) rfl)) (hw _ (List.mem_of_getElem? (i := 15) rfl)) (by decide) e3 E0 at_166 rfl pdH [(.double d2), (.double d3), (.double d4)] [] rfl rfl rfl 0 rfl (by decide) (by decide) (by decide) (by decide) rfl ?_
          rintro _ T4 _ X4 ⟨r4, rfl, b4, rfl, e4⟩
          rw [List.append_nil] at X4
          show Go p.tables e below _ T4 (mkF m 169 #[.val (.int p0), .val (.int p1), .val (.int p2), .val (.int p3), .val (.int (0 : Int32)), .val (.ref y0), .val (.double d2), .second, .val (.double d3), .second, .val (.double d4), .second, .val (.double FP.dconst0), .second, .val (.int (0 : Int32))] [(.int r4)])
          refine g_iload C X4 (pc' := 171) at_169 rfl rfl ?_
          refine g_icmp C X4 at_171 (pc' := 178) (pc'' := 174) (by decide) (by decide) rfl (fun c171 => ?_) (fun c171 => ?_)
          · have c171 : ¬ (r4.toInt = 0) := c171
            refine g_iconst C X4 (pc' := 179) at_178 (v := (0 : Int32)) (by decide) rfl ?_
            exfalso; omega
          · have c171 : r4.toInt = 0 := Decidable.not_not.mp c171
            refine g_iconst C X4 (pc' := 175) at_174 (v := (1 : Int32)) (by decide) rfl ?_
            refine g_goto C X4 at_175 (pc' := 179) (by decide) (by decide) ?_
            exact g_zreturn C X4 at_179 (w := 1) (by decide) ⟨rfl, Fr.nil n0⟩ (by decide) (by decide)
        · have c96 : ¬ (0 < (cmpI 0 ((p3 &&& (2147483647 : Int32)).toInt)).toInt) := c96
          have c96 : ¬ ((p3 &&& (2147483647 : Int32)).toInt < 0) := fun q => c96 ((cmpI_gt _ _).mpr q)
          refine g_dload C X3 (pc' := 101) at_99 rfl rfl ?_
          refine g_dload C X3 (pc' := 103) at_101 rfl rfl ?_
          refine g_dneg C X3 (pc' := 104) at_103 rfl ?_
          refine g_dcmpV C X3 (pc' := 105) at_104 (dcmp_cmpI dint_zero (dneg_int' D_d4) _) rfl ?_
          refine g_if C X3 at_105 (pc' := 112) (pc'' := 108) (by decide) (by decide) rfl (fun c105 => ?_) (fun c105 => ?_)
          · have c105 : (cmpI 0 (-((p3 &&& (2147483647 : Int32)).toInt))).toInt < 0 := c105
            have c105 : 0 < -((p3 &&& (2147483647 : Int32)).toInt) := (cmpI_lt _ _).mp c105
            refine g_iconst C X3 (pc' := 113) at_112 (v := (0 : Int32)) (by decide) rfl ?_
            refine g_istore C X3 (pc' := 115) at_113 (x := (0 : Int32)) rfl (l' := #[.val (.int p0), .val (.int p1), .val (.int p2), .val (.int p3), .val (.int (0 : Int32)), .val (.ref y0), .val (.double d2), .second, .val (.double d3), .second, .val (.double d4), .second, .val (.double FP.dconst0), .second, .val (.int (0 : Int32))]) rfl rfl ?_
            refine g_goto C X3 at_115 (pc' := 158) (by decide) (by decide) ?_
            refine g_aload C X3 (pc' := 160) at_158 rfl rfl rfl ?_
            refine g_dload C X3 (pc' := 162) at_160 rfl rfl ?_
            refine g_dload C X3 (pc' := 164) at_162 rfl rfl ?_
            refine g_dload C X3 (pc' := 166) at_164 rfl rfl ?_
            refine g_callV C X3 (c_hs0 l Z a0 hw h y0 d2 d3 d4 _ _ _ D_d2 D_d3 D_d4 E0 F0) (hw _ (List.mem_of_getElem? (i := 11) rfl)) (hw _ (List.mem_of_getElem? (i := 12) rfl)) (hw _ (List.mem_of_getElem? (i := 14) rfl)) (hw _ (List.mem_of_getElem? (i := 13) rfl)) (hw _ (List.mem_of_getElem? (i := 2) rfl)) (hw _ (List.mem_of_getElem? (i := 15) rfl)) (by decide) e3 E0 at_166 rfl pdH [(.double d2), (.double d3), (.double d4)] [] rfl rfl rfl 0 rfl (by decide) (by decide) (by decide) (by decide) rfl ?_
            rintro _ T5 _ X5 ⟨r5, rfl, b5, rfl, e5⟩
            rw [List.append_nil] at X5
            show Go p.tables e below _ T5 (mkF m 169 #[.val (.int p0), .val (.int p1), .val (.int p2), .val (.int p3), .val (.int (0 : Int32)), .val (.ref y0), .val (.double d2), .second, .val (.double d3), .second, .val (.double d4), .second, .val (.double FP.dconst0), .second, .val (.int (0 : Int32))] [(.int r5)])
            refine g_iload C X5 (pc' := 171) at_169 rfl rfl ?_
            refine g_icmp C X5 at_171 (pc' := 178) (pc'' := 174) (by decide) (by decide) rfl (fun c171 => ?_) (fun c171 => ?_)
            · have c171 : ¬ (r5.toInt = 0) := c171
              refine g_iconst C X5 (pc' := 179) at_178 (v := (0 : Int32)) (by decide) rfl ?_
              exfalso; omega
            · have c171 : r5.toInt = 0 := Decidable.not_not.mp c171
              refine g_iconst C X5 (pc' := 175) at_174 (v := (1 : Int32)) (by decide) rfl ?_
              refine g_goto C X5 at_175 (pc' := 179) (by decide) (by decide) ?_
              exact g_zreturn C X5 at_179 (w := 1) (by decide) ⟨rfl, Fr.nil n0⟩ (by decide) (by decide)
          · have c105 : ¬ ((cmpI 0 (-((p3 &&& (2147483647 : Int32)).toInt))).toInt < 0) := c105
            have c105 : ¬ (0 < -((p3 &&& (2147483647 : Int32)).toInt)) := fun q => c105 ((cmpI_lt _ _).mpr q)
            refine g_iconst C X3 (pc' := 109) at_108 (v := (1 : Int32)) (by decide) rfl ?_
            refine g_goto C X3 at_109 (pc' := 113) (by decide) (by decide) ?_
            refine g_istore C X3 (pc' := 115) at_113 (x := (1 : Int32)) rfl (l' := #[.val (.int p0), .val (.int p1), .val (.int p2), .val (.int p3), .val (.int (0 : Int32)), .val (.ref y0), .val (.double d2), .second, .val (.double d3), .second, .val (.double d4), .second, .val (.double FP.dconst0), .second, .val (.int (1 : Int32))]) rfl rfl ?_
            refine g_goto C X3 at_115 (pc' := 158) (by decide) (by decide) ?_
            refine g_aload C X3 (pc' := 160) at_158 rfl rfl rfl ?_
            refine g_dload C X3 (pc' := 162) at_160 rfl rfl ?_
            refine g_dload C X3 (pc' := 164) at_162 rfl rfl ?_
            refine g_dload C X3 (pc' := 166) at_164 rfl rfl ?_
            refine g_callV C X3 (c_hs0 l Z a0 hw h y0 d2 d3 d4 _ _ _ D_d2 D_d3 D_d4 E0 F0) (hw _ (List.mem_of_getElem? (i := 11) rfl)) (hw _ (List.mem_of_getElem? (i := 12) rfl)) (hw _ (List.mem_of_getElem? (i := 14) rfl)) (hw _ (List.mem_of_getElem? (i := 13) rfl)) (hw _ (List.mem_of_getElem? (i := 2) rfl)) (hw _ (List.mem_of_getElem? (i := 15) rfl)) (by decide) e3 E0 at_166 rfl pdH [(.double d2), (.double d3), (.double d4)] [] rfl rfl rfl 0 rfl (by decide) (by decide) (by decide) (by decide) rfl ?_
            rintro _ T6 _ X6 ⟨r6, rfl, b6, rfl, e6⟩
            rw [List.append_nil] at X6
            show Go p.tables e below _ T6 (mkF m 169 #[.val (.int p0), .val (.int p1), .val (.int p2), .val (.int p3), .val (.int (0 : Int32)), .val (.ref y0), .val (.double d2), .second, .val (.double d3), .second, .val (.double d4), .second, .val (.double FP.dconst0), .second, .val (.int (1 : Int32))] [(.int r6)])
            refine g_iload C X6 (pc' := 171) at_169 rfl rfl ?_
            refine g_icmp C X6 at_171 (pc' := 178) (pc'' := 174) (by decide) (by decide) rfl (fun c171 => ?_) (fun c171 => ?_)
            · have c171 : ¬ (r6.toInt = 1) := c171
              refine g_iconst C X6 (pc' := 179) at_178 (v := (0 : Int32)) (by decide) rfl ?_
              exfalso; omega
            · have c171 : r6.toInt = 1 := Decidable.not_not.mp c171
              refine g_iconst C X6 (pc' := 175) at_174 (v := (1 : Int32)) (by decide) rfl ?_
              refine g_goto C X6 at_175 (pc' := 179) (by decide) (by decide) ?_
              exact g_zreturn C X6 at_179 (w := 1) (by decide) ⟨rfl, Fr.nil n0⟩ (by decide) (by decide)
      · have c75 : (cmpI r3.toInt 0).toInt < 0 := Decidable.not_not.mp c75
        have c75 : r3.toInt < 0 := (cmpI_lt _ _).mp c75
        refine g_dload C X3 (pc' := 80) at_78 rfl rfl ?_
        refine g_goto C X3 at_80 (pc' := 84) (by decide) (by decide) ?_
        refine g_dstore C X3 (pc' := 86) at_84 (x := d3) rfl (l' := #[.val (.int p0), .val (.int p1), .val (.int p2), .val (.int p3), .val (.int (0 : Int32)), .val (.ref y0), .val (.double d2), .second, .val (.double d3), .second, .val (.double d4), .second, .val (.double d3), .second, .unset]) rfl rfl ?_
        refine g_iload C X3 (pc' := 88) at_86 rfl rfl ?_
        refine g_ifN C X3 at_88 (by decide) rfl ?_
        refine g_dload C X3 (pc' := 93) at_91 rfl rfl ?_
        refine g_dload C X3 (pc' := 95) at_93 rfl rfl ?_
        refine g_dcmpV C X3 (pc' := 96) at_95 (dcmp_cmpI D_d3 D_d4 _) rfl ?_
        refine g_if C X3 at_96 (pc' := 112) (pc'' := 99) (by decide) (by decide) rfl (fun c96 => ?_) (fun c96 => ?_)
        · have c96 : 0 < (cmpI r3.toInt ((p3 &&& (2147483647 : Int32)).toInt)).toInt := c96
          have c96 : (p3 &&& (2147483647 : Int32)).toInt < r3.toInt := (cmpI_gt _ _).mp c96
          refine g_iconst C X3 (pc' := 113) at_112 (v := (0 : Int32)) (by decide) rfl ?_
          refine g_istore C X3 (pc' := 115) at_113 (x := (0 : Int32)) rfl (l' := #[.val (.int p0), .val (.int p1), .val (.int p2), .val (.int p3), .val (.int (0 : Int32)), .val (.ref y0), .val (.double d2), .second, .val (.double d3), .second, .val (.double d4), .second, .val (.double d3), .second, .val (.int (0 : Int32))]) rfl rfl ?_
          refine g_goto C X3 at_115 (pc' := 158) (by decide) (by decide) ?_
          refine g_aload C X3 (pc' := 160) at_158 rfl rfl rfl ?_
          refine g_dload C X3 (pc' := 162) at_160 rfl rfl ?_
          refine g_dload C X3 (pc' := 164) at_162 rfl rfl ?_
          refine g_dload C X3 (pc' := 166) at_164 rfl rfl ?_
          refine g_callV C X3 (c_hs0 l Z a0 hw h y0 d2 d3 d4 _ _ _ D_d2 D_d3 D_d4 E0 F0) (hw _ (List.mem_of_getElem? (i := 11) rfl)) (hw _ (List.mem_of_getElem? (i := 12) rfl)) (hw _ (List.mem_of_getElem? (i := 14) rfl)) (hw _ (List.mem_of_getElem? (i := 13) rfl)) (hw _ (List.mem_of_getElem? (i := 2) rfl)) (hw _ (List.mem_of_getElem? (i := 15) rfl)) (by decide) e3 E0 at_166 rfl pdH [(.double d2), (.double d3), (.double d4)] [] rfl rfl rfl 0 rfl (by decide) (by decide) (by decide) (by decide) rfl ?_
          rintro _ T7 _ X7 ⟨r7, rfl, b7, rfl, e7⟩
          rw [List.append_nil] at X7
          show Go p.tables e below _ T7 (mkF m 169 #[.val (.int p0), .val (.int p1), .val (.int p2), .val (.int p3), .val (.int (0 : Int32)), .val (.ref y0), .val (.double d2), .second, .val (.double d3), .second, .val (.double d4), .second, .val (.double d3), .second, .val (.int (0 : Int32))] [(.int r7)])
          refine g_iload C X7 (pc' := 171) at_169 rfl rfl ?_
          refine g_icmp C X7 at_171 (pc' := 178) (pc'' := 174) (by decide) (by decide) rfl (fun c171 => ?_) (fun c171 => ?_)
          · have c171 : ¬ (r7.toInt = 0) := c171
            refine g_iconst C X7 (pc' := 179) at_178 (v := (0 : Int32)) (by decide) rfl ?_
            exfalso; omega
          · have c171 : r7.toInt = 0 := Decidable.not_not.mp c171
            refine g_iconst C X7 (pc' := 175) at_174 (v := (1 : Int32)) (by decide) rfl ?_
            refine g_goto C X7 at_175 (pc' := 179) (by decide) (by decide) ?_
            exact g_zreturn C X7 at_179 (w := 1) (by decide) ⟨rfl, Fr.nil n0⟩ (by decide) (by decide)
        · have c96 : ¬ (0 < (cmpI r3.toInt ((p3 &&& (2147483647 : Int32)).toInt)).toInt) := c96
          have c96 : ¬ ((p3 &&& (2147483647 : Int32)).toInt < r3.toInt) := fun q => c96 ((cmpI_gt _ _).mpr q)
          refine g_dload C X3 (pc' := 101) at_99 rfl rfl ?_
          refine g_dload C X3 (pc' := 103) at_101 rfl rfl ?_
          refine g_dneg C X3 (pc' := 104) at_103 rfl ?_
          refine g_dcmpV C X3 (pc' := 105) at_104 (dcmp_cmpI D_d3 (dneg_int' D_d4) _) rfl ?_
          refine g_if C X3 at_105 (pc' := 112) (pc'' := 108) (by decide) (by decide) rfl (fun c105 => ?_) (fun c105 => ?_)
          · have c105 : (cmpI r3.toInt (-((p3 &&& (2147483647 : Int32)).toInt))).toInt < 0 := c105
            have c105 : r3.toInt < -((p3 &&& (2147483647 : Int32)).toInt) := (cmpI_lt _ _).mp c105
            refine g_iconst C X3 (pc' := 113) at_112 (v := (0 : Int32)) (by decide) rfl ?_
            refine g_istore C X3 (pc' := 115) at_113 (x := (0 : Int32)) rfl (l' := #[.val (.int p0), .val (.int p1), .val (.int p2), .val (.int p3), .val (.int (0 : Int32)), .val (.ref y0), .val (.double d2), .second, .val (.double d3), .second, .val (.double d4), .second, .val (.double d3), .second, .val (.int (0 : Int32))]) rfl rfl ?_
            refine g_goto C X3 at_115 (pc' := 158) (by decide) (by decide) ?_
            refine g_aload C X3 (pc' := 160) at_158 rfl rfl rfl ?_
            refine g_dload C X3 (pc' := 162) at_160 rfl rfl ?_
            refine g_dload C X3 (pc' := 164) at_162 rfl rfl ?_
            refine g_dload C X3 (pc' := 166) at_164 rfl rfl ?_
            refine g_callV C X3 (c_hs0 l Z a0 hw h y0 d2 d3 d4 _ _ _ D_d2 D_d3 D_d4 E0 F0) (hw _ (List.mem_of_getElem? (i := 11) rfl)) (hw _ (List.mem_of_getElem? (i := 12) rfl)) (hw _ (List.mem_of_getElem? (i := 14) rfl)) (hw _ (List.mem_of_getElem? (i := 13) rfl)) (hw _ (List.mem_of_getElem? (i := 2) rfl)) (hw _ (List.mem_of_getElem? (i := 15) rfl)) (by decide) e3 E0 at_166 rfl pdH [(.double d2), (.double d3), (.double d4)] [] rfl rfl rfl 0 rfl (by decide) (by decide) (by decide) (by decide) rfl ?_
            rintro _ T8 _ X8 ⟨r8, rfl, b8, rfl, e8⟩
            rw [List.append_nil] at X8
            show Go p.tables e below _ T8 (mkF m 169 #[.val (.int p0), .val (.int p1), .val (.int p2), .val (.int p3), .val (.int (0 : Int32)), .val (.ref y0), .val (.double d2), .second, .val (.double d3), .second, .val (.double d4), .second, .val (.double d3), .second, .val (.int (0 : Int32))] [(.int r8)])
            refine g_iload C X8 (pc' := 171) at_169 rfl rfl ?_
            refine g_icmp C X8 at_171 (pc' := 178) (pc'' := 174) (by decide) (by decide) rfl (fun c171 => ?_) (fun c171 => ?_)
            · have c171 : ¬ (r8.toInt = 0) := c171
              refine g_iconst C X8 (pc' := 179) at_178 (v := (0 : Int32)) (by decide) rfl ?_
              exfalso; omega
            · have c171 : r8.toInt = 0 := Decidable.not_not.mp c171
              refine g_iconst C X8 (pc' := 175) at_174 (v := (1 : Int32)) (by decide) rfl ?_
              refine g_goto C X8 at_175 (pc' := 179) (by decide) (by decide) ?_
              exact g_zreturn C X8 at_179 (w := 1) (by decide) ⟨rfl, Fr.nil n0⟩ (by decide) (by decide)
          · have c105 : ¬ ((cmpI r3.toInt (-((p3 &&& (2147483647 : Int32)).toInt))).toInt < 0) := c105
            have c105 : ¬ (r3.toInt < -((p3 &&& (2147483647 : Int32)).toInt)) := fun q => c105 ((cmpI_lt _ _).mpr q)
            refine g_iconst C X3 (pc' := 109) at_108 (v := (1 : Int32)) (by decide) rfl ?_
            refine g_goto C X3 at_109 (pc' := 113) (by decide) (by decide) ?_
            refine g_istore C X3 (pc' := 115) at_113 (x := (1 : Int32)) rfl (l' := #[.val (.int p0), .val (.int p1), .val (.int p2), .val (.int p3), .val (.int (0 : Int32)), .val (.ref y0), .val (.double d2), .second, .val (.double d3), .second, .val (.double d4), .second, .val (.double d3), .second, .val (.int (1 : Int32))]) rfl rfl ?_
            refine g_goto C X3 at_115 (pc' := 158) (by decide) (by decide) ?_
            refine g_aload C X3 (pc' := 160) at_158 rfl rfl rfl ?_
            refine g_dload C X3 (pc' := 162) at_160 rfl rfl ?_
            refine g_dload C X3 (pc' := 164) at_162 rfl rfl ?_
            refine g_dload C X3 (pc' := 166) at_164 rfl rfl ?_
            refine g_callV C X3 (c_hs0 l Z a0 hw h y0 d2 d3 d4 _ _ _ D_d2 D_d3 D_d4 E0 F0) (hw _ (List.mem_of_getElem? (i := 11) rfl)) (hw _ (List.mem_of_getElem? (i := 12) rfl)) (hw _ (List.mem_of_getElem? (i := 14) rfl)) (hw _ (List.mem_of_getElem? (i := 13) rfl)) (hw _ (List.mem_of_getElem? (i := 2) rfl)) (hw _ (List.mem_of_getElem? (i := 15) rfl)) (by decide) e3 E0 at_166 rfl pdH [(.double d2), (.double d3), (.double d4)] [] rfl rfl rfl 0 rfl (by decide) (by decide) (by decide) (by decide) rfl ?_
            rintro _ T9 _ X9 ⟨r9, rfl, b9, rfl, e9⟩
            rw [List.append_nil] at X9
            show Go p.tables e below _ T9 (mkF m 169 #[.val (.int p0), .val (.int p1), .val (.int p2), .val (.int p3), .val (.int (0 : Int32)), .val (.ref y0), .val (.double d2), .second, .val (.double d3), .second, .val (.double d4), .second, .val (.double d3), .second, .val (.int (1 : Int32))] [(.int r9)])
            refine g_iload C X9 (pc' := 171) at_169 rfl rfl ?_
            refine g_icmp C X9 at_171 (pc' := 178) (pc'' := 174) (by decide) (by decide) rfl (fun c171 => ?_) (fun c171 => ?_)
            · have c171 : ¬ (r9.toInt = 1) := c171
              refine g_iconst C X9 (pc' := 179) at_178 (v := (0 : Int32)) (by decide) rfl ?_
              exfalso; omega
            · have c171 : r9.toInt = 1 := Decidable.not_not.mp c171
              refine g_iconst C X9 (pc' := 175) at_174 (v := (1 : Int32)) (by decide) rfl ?_
              refine g_goto C X9 at_175 (pc' := 179) (by decide) (by decide) ?_
              exact g_zreturn C X9 at_179 (w := 1) (by decide) ⟨rfl, Fr.nil n0⟩ (by decide) (by decide)
    · have c63 : 0 < (cmpI r2.toInt 0).toInt := Decidable.not_not.mp c63
      have c63 : 0 < r2.toInt := (cmpI_gt _ _).mp c63
      refine g_dload C X3 (pc' := 68) at_66 rfl rfl ?_
      refine g_goto C X3 at_68 (pc' := 84) (by decide) (by decide) ?_
      refine g_dstore C X3 (pc' := 86) at_84 (x := d2) rfl (l' := #[.val (.int p0), .val (.int p1), .val (.int p2), .val (.int p3), .val (.int (0 : Int32)), .val (.ref y0), .val (.double d2), .second, .val (.double d3), .second, .val (.double d4), .second, .val (.double d2), .second, .unset]) rfl rfl ?_
      refine g_iload C X3 (pc' := 88) at_86 rfl rfl ?_
      refine g_ifN C X3 at_88 (by decide) rfl ?_
      refine g_dload C X3 (pc' := 93) at_91 rfl rfl ?_
      refine g_dload C X3 (pc' := 95) at_93 rfl rfl ?_
      refine g_dcmpV C X3 (pc' := 96) at_95 (dcmp_cmpI D_d2 D_d4 _) rfl ?_
      refine g_if C X3 at_96 (pc' := 112) (pc'' := 99) (by decide) (by decide) rfl (fun c96 => ?_) (fun c96 => ?_)
      · have c96 : 0 < (cmpI r2.toInt ((p3 &&& (2147483647 : Int32)).toInt)).toInt := c96
        have c96 : (p3 &&& (2147483647 : Int32)).toInt < r2.toInt := (cmpI_gt _ _).mp c96
        refine g_iconst C X3 (pc' := 113) at_112 (v := (0 : Int32)) (by decide) rfl ?_
        refine g_istore C X3 (pc' := 115) at_113 (x := (0 : Int32)) rfl (l' := #[.val (.int p0), .val (.int p1), .val (.int p2), .val (.int p3), .val (.int (0 : Int32)), .val (.ref y0), .val (.double d2), .second, .val (.double d3), .second, .val (.double d4), .second, .val (.double d2), .second, .val (.int (0 : Int32))]) rfl rfl ?_
        refine g_goto C X3 at_115 (pc' := 158) (by decide) (by decide) ?_
        refine g_aload C X3 (pc' := 160) at_158 rfl rfl rfl ?_
        refine g_dload C X3 (pc' := 162) at_160 rfl rfl ?_
        refine g_dload C X3 (pc' := 164) at_162 rfl rfl ?_
        refine g_dload C X3 (pc' := 166) at_164 rfl rfl ?_
        refine g_callV C X3 (c_hs0 l Z a0 hw h y0 d2 d3 d4 _ _ _ D_d2 D_d3 D_d4 E0 F0) (hw _ (List.mem_of_getElem? (i := 11) rfl)) (hw _ (List.mem_of_getElem? (i := 12) rfl)) (hw _ (List.mem_of_getElem? (i := 14) rfl)) (hw _ (List.mem_of_getElem? (i := 13) rfl)) (hw _ (List.mem_of_getElem? (i := 2) rfl)) (hw _ (List.mem_of_getElem? (i := 15) rfl)) (by decide) e3 E0 at_166 rfl pdH [(.double d2), (.double d3), (.double d4)] [] rfl rfl rfl 0 rfl (by decide) (by decide) (by decide) (by decide) rfl ?_
        rintro _ T10 _ X10 ⟨r10, rfl, b10, rfl, e10⟩
        rw [List.append_nil] at X10
        show Go p.tables e below _ T10 (mkF m 169 #[.val (.int p0), .val (.int p1), .val (.int p2), .val (.int p3), .val (.int (0 : Int32)), .val (.ref y0), .val (.double d2), .second, .val (.double d3), .second, .val (.double d4), .second, .val (.double d2), .second, .val (.int (0 : Int32))] [(.int r10)])
        refine g_iload C X10 (pc' := 171) at_169 rfl rfl ?_
        refine g_icmp C X10 at_171 (pc' := 178) (pc'' := 174) (by decide) (by decide) rfl (fun c171 => ?_) (fun c171 => ?_)
        · have c171 : ¬ (r10.toInt = 0) := c171
          refine g_iconst C X10 (pc' := 179) at_178 (v := (0 : Int32)) (by decide) rfl ?_
          exfalso; omega
        · have c171 : r10.toInt = 0 := Decidable.not_not.mp c171
          refine g_iconst C X10 (pc' := 175) at_174 (v := (1 : Int32)) (by decide) rfl ?_
          refine g_goto C X10 at_175 (pc' := 179) (by decide) (by decide) ?_
          exact g_zreturn C X10 at_179 (w := 1) (by decide) ⟨rfl, Fr.nil n0⟩ (by decide) (by decide)
      · have c96 : ¬ (0 < (cmpI r2.toInt ((p3 &&& (2147483647 : Int32)).toInt)).toInt) := c96
        have c96 : ¬ ((p3 &&& (2147483647 : Int32)).toInt < r2.toInt) := fun q => c96 ((cmpI_gt _ _).mpr q)
        refine g_dload C X3 (pc' := 101) at_99 rfl rfl ?_
        refine g_dload C X3 (pc' := 103) at_101 rfl rfl ?_
        refine g_dneg C X3 (pc' := 104) at_103 rfl ?_
        refine g_dcmpV C X3 (pc' := 105) at_104 (dcmp_cmpI D_d2 (dneg_int' D_d4) _) rfl ?_
        refine g_if C X3 at_105 (pc' := 112) (pc'' := 108) (by decide) (by decide) rfl (fun c105 => ?_) (fun c105 => ?_)
        · have c105 : (cmpI r2.toInt (-((p3 &&& (2147483647 : Int32)).toInt))).toInt < 0 := c105
          have c105 : r2.toInt < -((p3 &&& (2147483647 : Int32)).toInt) := (cmpI_lt _ _).mp c105
          refine g_iconst C X3 (pc' := 113) at_112 (v := (0 : Int32)) (by decide) rfl ?_
          refine g_istore C X3 (pc' := 115) at_113 (x := (0 : Int32)) rfl (l' := #[.val (.int p0), .val (.int p1), .val (.int p2), .val (.int p3), .val (.int (0 : Int32)), .val (.ref y0), .val (.double d2), .second, .val (.double d3), .second, .val (.double d4), .second, .val (.double d2), .second, .val (.int (0 : Int32))]) rfl rfl ?_
          refine g_goto C X3 at_115 (pc' := 158) (by decide) (by decide) ?_
          refine g_aload C X3 (pc' := 160) at_158 rfl rfl rfl ?_
          refine g_dload C X3 (pc' := 162) at_160 rfl rfl ?_
          refine g_dload C X3 (pc' := 164) at_162 rfl rfl ?_
          refine g_dload C X3 (pc' := 166) at_164 rfl rfl ?_
          refine g_callV C X3 (c_hs0 l Z a0 hw h y0 d2 d3 d4 _ _ _ D_d2 D_d3 D_d4 E0 F0) (hw _ (List.mem_of_getElem? (i := 11) rfl)) (hw _ (List.mem_of_getElem? (i := 12) rfl)) (hw _ (List.mem_of_getElem? (i := 14) rfl)) (hw _ (List.mem_of_getElem? (i := 13) rfl)) (hw _ (List.mem_of_getElem? (i := 2) rfl)) (hw _ (List.mem_of_getElem? (i := 15) rfl)) (by decide) e3 E0 at_166 rfl pdH [(.double d2), (.double d3), (.double d4)] [] rfl rfl rfl 0 rfl (by decide) (by decide) (by decide) (by decide) rfl ?_
          rintro _ T11 _ X11 ⟨r11, rfl, b11, rfl, e11⟩
          rw [List.append_nil] at X11
          show Go p.tables e below _ T11 (mkF m 169 #[.val (.int p0), .val (.int p1), .val (.int p2), .val (.int p3), .val (.int (0 : Int32)), .val (.ref y0), .val (.double d2), .second, .val (.double d3), .second, .val (.double d4), .second, .val (.double d2), .second, .val (.int (0 : Int32))] [(.int r11)])
          refine g_iload C X11 (pc' := 171) at_169 rfl rfl ?_
          refine g_icmp C X11 at_171 (pc' := 178) (pc'' := 174) (by decide) (by decide) rfl (fun c171 => ?_) (fun c171 => ?_)
          · have c171 : ¬ (r11.toInt = 0) := c171
            refine g_iconst C X11 (pc' := 179) at_178 (v := (0 : Int32)) (by decide) rfl ?_
            exfalso; omega
          · have c171 : r11.toInt = 0 := Decidable.not_not.mp c171
            refine g_iconst C X11 (pc' := 175) at_174 (v := (1 : Int32)) (by decide) rfl ?_
            refine g_goto C X11 at_175 (pc' := 179) (by decide) (by decide) ?_
            exact g_zreturn C X11 at_179 (w := 1) (by decide) ⟨rfl, Fr.nil n0⟩ (by decide) (by decide)
        · have c105 : ¬ ((cmpI r2.toInt (-((p3 &&& (2147483647 : Int32)).toInt))).toInt < 0) := c105
          have c105 : ¬ (r2.toInt < -((p3 &&& (2147483647 : Int32)).toInt)) := fun q => c105 ((cmpI_lt _ _).mpr q)
          refine g_iconst C X3 (pc' := 109) at_108 (v := (1 : Int32)) (by decide) rfl ?_
          refine g_goto C X3 at_109 (pc' := 113) (by decide) (by decide) ?_
          refine g_istore C X3 (pc' := 115) at_113 (x := (1 : Int32)) rfl (l' := #[.val (.int p0), .val (.int p1), .val (.int p2), .val (.int p3), .val (.int (0 : Int32)), .val (.ref y0), .val (.double d2), .second, .val (.double d3), .second, .val (.double d4), .second, .val (.double d2), .second, .val (.int (1 : Int32))]) rfl rfl ?_
          refine g_goto C X3 at_115 (pc' := 158) (by decide) (by decide) ?_
          refine g_aload C X3 (pc' := 160) at_158 rfl rfl rfl ?_
          refine g_dload C X3 (pc' := 162) at_160 rfl rfl ?_
          refine g_dload C X3 (pc' := 164) at_162 rfl rfl ?_
          refine g_dload C X3 (pc' := 166) at_164 rfl rfl ?_
          refine g_callV C X3 (c_hs0 l Z a0 hw h y0 d2 d3 d4 _ _ _ D_d2 D_d3 D_d4 E0 F0) (hw _ (List.mem_of_getElem? (i := 11) rfl)) (hw _ (List.mem_of_getElem? (i := 12) rfl)) (hw _ (List.mem_of_getElem? (i := 14) rfl)) (hw _ (List.mem_of_getElem? (i := 13) rfl)) (hw _ (List.mem_of_getElem? (i := 2) rfl)) (hw _ (List.mem_of_getElem? (i := 15) rfl)) (by decide) e3 E0 at_166 rfl pdH [(.double d2), (.double d3), (.double d4)] [] rfl rfl rfl 0 rfl (by decide) (by decide) (by decide) (by decide) rfl ?_
          rintro _ T12 _ X12 ⟨r12, rfl, b12, rfl, e12⟩
          rw [List.append_nil] at X12
          show Go p.tables e below _ T12 (mkF m 169 #[.val (.int p0), .val (.int p1), .val (.int p2), .val (.int p3), .val (.int (0 : Int32)), .val (.ref y0), .val (.double d2), .second, .val (.double d3), .second, .val (.double d4), .second, .val (.double d2), .second, .val (.int (1 : Int32))] [(.int r12)])
          refine g_iload C X12 (pc' := 171) at_169 rfl rfl ?_
          refine g_icmp C X12 at_171 (pc' := 178) (pc'' := 174) (by decide) (by decide) rfl (fun c171 => ?_) (fun c171 => ?_)
          · have c171 : ¬ (r12.toInt = 1) := c171
            refine g_iconst C X12 (pc' := 179) at_178 (v := (0 : Int32)) (by decide) rfl ?_
            exfalso; omega
          · have c171 : r12.toInt = 1 := Decidable.not_not.mp c171
            refine g_iconst C X12 (pc' := 175) at_174 (v := (1 : Int32)) (by decide) rfl ?_
            refine g_goto C X12 at_175 (pc' := 179) (by decide) (by decide) ?_
            exact g_zreturn C X12 at_179 (w := 1) (by decide) ⟨rfl, Fr.nil n0⟩ (by decide) (by decide)
  · show Go p.tables e below _ T0 (mkF m 8 #[.val (.int p0), .val (.int p1), .val (.int p2), .val (.int p3), .val (.int (1 : Int32)), .unset, .unset, .unset, .unset, .unset, .unset, .unset, .unset, .unset, .unset] [])
    refine g_iload C X0 (pc' := 10) at_8 rfl rfl ?_
    refine g_ifY C X0 at_10 (pc' := 19) (by decide) (by decide) (by decide) ?_
    refine g_iload C X0 (pc' := 21) at_19 rfl rfl ?_
    refine g_iconst C X0 (pc' := 22) at_21 (v := (1 : Int32)) (by decide) rfl ?_
    refine g_icmpN C X0 at_22 (by decide) rfl ?_
    refine g_getS C X0 (hw _ (List.mem_of_getElem? (i := 25) rfl)) Via.refl e0 S1 at_25 rfl ?_
    intro T13 X13 e13
    refine g_goto C X13 at_28 (pc' := 34) (by decide) (by decide) ?_
    refine g_astore C X13 (pc' := 36) at_34 rfl (l' := #[.val (.int p0), .val (.int p1), .val (.int p2), .val (.int p3), .val (.int (1 : Int32)), .val (.ref y1), .unset, .unset, .unset, .unset, .unset, .unset, .unset, .unset, .unset]) rfl rfl ?_
    refine g_iloadN C X13 (pc' := 37) at_36 rfl rfl ?_
    refine g_iloadN C X13 (pc' := 38) at_37 rfl rfl ?_
    refine g_callS C X13 (c_min l Z h p1 p2) (hw _ (List.mem_of_getElem? (i := 4) rfl)) (hw _ (List.mem_of_getElem? (i := 5) rfl)) (hw _ (List.mem_of_getElem? (i := 6) rfl)) (hw _ (List.mem_of_getElem? (i := 7) rfl)) (by decide) e13 at_38 rfl pdM [(.int p1), (.int p2)] [] rfl rfl rfl 0 rfl (by decide) (by decide) (by decide) (by decide) rfl ?_
    rintro _ T14 _ X14 ⟨r14, rfl, b14, c14, rfl, e14⟩
    rw [List.append_nil] at X14
    show Go p.tables e below _ T14 (mkF m 41 #[.val (.int p0), .val (.int p1), .val (.int p2), .val (.int p3), .val (.int (1 : Int32)), .val (.ref y1), .unset, .unset, .unset, .unset, .unset, .unset, .unset, .unset, .unset] [(.int r14)])
    refine g_i2d C X14 (pc' := 42) at_41 rfl ?_
    obtain ⟨d5, e_d5⟩ : ∃ z : UInt64, z = FP.i2d r14 := ⟨_, rfl⟩
    have D_d5 : FP.Core.DInt r14.toInt d5 := e_d5 ▸ (i2d_D r14)
    refine g_dstore C X14 (pc' := 44) at_42 (x := d5) e_d5 (l' := #[.val (.int p0), .val (.int p1), .val (.int p2), .val (.int p3), .val (.int (1 : Int32)), .val (.ref y1), .val (.double d5), .second, .unset, .unset, .unset, .unset, .unset, .unset, .unset]) rfl rfl ?_
    refine g_iloadN C X14 (pc' := 45) at_44 rfl rfl ?_
    refine g_iloadN C X14 (pc' := 46) at_45 rfl rfl ?_
    refine g_callS C X14 (c_max l Z h p1 p2) (hw _ (List.mem_of_getElem? (i := 8) rfl)) (hw _ (List.mem_of_getElem? (i := 9) rfl)) (hw _ (List.mem_of_getElem? (i := 6) rfl)) (hw _ (List.mem_of_getElem? (i := 10) rfl)) (by decide) e14 at_46 rfl pdM [(.int p1), (.int p2)] [] rfl rfl rfl 0 rfl (by decide) (by decide) (by decide) (by decide) rfl ?_
    rintro _ T15 _ X15 ⟨r15, rfl, b15, c15, rfl, e15⟩
    rw [List.append_nil] at X15
    show Go p.tables e below _ T15 (mkF m 49 #[.val (.int p0), .val (.int p1), .val (.int p2), .val (.int p3), .val (.int (1 : Int32)), .val (.ref y1), .val (.double d5), .second, .unset, .unset, .unset, .unset, .unset, .unset, .unset] [(.int r15)])
    refine g_i2d C X15 (pc' := 50) at_49 rfl ?_
    obtain ⟨d6, e_d6⟩ : ∃ z : UInt64, z = FP.i2d r15 := ⟨_, rfl⟩
    have D_d6 : FP.Core.DInt r15.toInt d6 := e_d6 ▸ (i2d_D r15)
    refine g_dstore C X15 (pc' := 52) at_50 (x := d6) e_d6 (l' := #[.val (.int p0), .val (.int p1), .val (.int p2), .val (.int p3), .val (.int (1 : Int32)), .val (.ref y1), .val (.double d5), .second, .val (.double d6), .second, .unset, .unset, .unset, .unset, .unset]) rfl rfl ?_
    refine g_iloadN C X15 (pc' := 53) at_52 rfl rfl ?_
    refine g_ldcI C X15 (pc' := 55) (hw _ (List.mem_of_getElem? (i := 0) rfl)) at_53 rfl ?_
    refine g_iand C X15 (pc' := 56) at_55 rfl ?_
    refine g_i2d C X15 (pc' := 57) at_56 rfl ?_
    have bt := c_and p3 2147483647 (by decide)
    obtain ⟨d7, e_d7⟩ : ∃ z : UInt64, z = FP.i2d (p3 &&& (2147483647 : Int32)) := ⟨_, rfl⟩
    have D_d7 : FP.Core.DInt ((p3 &&& (2147483647 : Int32)).toInt) d7 := e_d7 ▸ (i2d_D (p3 &&& (2147483647 : Int32)))
    refine g_dstore C X15 (pc' := 59) at_57 (x := d7) e_d7 (l' := #[.val (.int p0), .val (.int p1), .val (.int p2), .val (.int p3), .val (.int (1 : Int32)), .val (.ref y1), .val (.double d5), .second, .val (.double d6), .second, .val (.double d7), .second, .unset, .unset, .unset]) rfl rfl ?_
    refine g_dload C X15 (pc' := 61) at_59 rfl rfl ?_
    refine g_dconst0 C X15 (pc' := 62) at_61 rfl rfl ?_
    refine g_dcmpV C X15 (pc' := 63) at_62 (dcmp_cmpI D_d5 dint_zero _) rfl ?_
    refine g_if C X15 at_63 (pc' := 71) (pc'' := 66) (by decide) (by decide) rfl (fun c63 => ?_) (fun c63 => ?_)
    · have c63 : ¬ (0 < (cmpI r14.toInt 0).toInt) := c63
      have c63 : ¬ (0 < r14.toInt) := fun q => c63 ((cmpI_gt _ _).mpr q)
      refine g_dload C X15 (pc' := 73) at_71 rfl rfl ?_
      refine g_dconst0 C X15 (pc' := 74) at_73 rfl rfl ?_
      refine g_dcmpV C X15 (pc' := 75) at_74 (dcmp_cmpI D_d6 dint_zero _) rfl ?_
      refine g_if C X15 at_75 (pc' := 83) (pc'' := 78) (by decide) (by decide) rfl (fun c75 => ?_) (fun c75 => ?_)
      · have c75 : ¬ ((cmpI r15.toInt 0).toInt < 0) := c75
        have c75 : ¬ (r15.toInt < 0) := fun q => c75 ((cmpI_lt _ _).mpr q)
        refine g_dconst0 C X15 (pc' := 84) at_83 rfl rfl ?_
        refine g_dstore C X15 (pc' := 86) at_84 (x := FP.dconst0) rfl (l' := #[.val (.int p0), .val (.int p1), .val (.int p2), .val (.int p3), .val (.int (1 : Int32)), .val (.ref y1), .val (.double d5), .second, .val (.double d6), .second, .val (.double d7), .second, .val (.double FP.dconst0), .second, .unset]) rfl rfl ?_
        refine g_iload C X15 (pc' := 88) at_86 rfl rfl ?_
        refine g_ifY C X15 at_88 (pc' := 118) (by decide) (by decide) (by decide) ?_
        refine g_iload C X15 (pc' := 120) at_118 rfl rfl ?_
        refine g_iconst C X15 (pc' := 121) at_120 (v := (1 : Int32)) (by decide) rfl ?_
        refine g_icmpN C X15 at_121 (by decide) rfl ?_
        refine g_dload C X15 (pc' := 126) at_124 rfl rfl ?_
        refine g_dload C X15 (pc' := 128) at_126 rfl rfl ?_
        refine g_dcmpV C X15 (pc' := 129) at_128 (dcmp_cmpI dint_zero D_d7 _) rfl ?_
        refine g_if C X15 at_129 (pc' := 136) (pc'' := 132) (by decide) (by decide) rfl (fun c129 => ?_) (fun c129 => ?_)
        · have c129 : 0 < (cmpI 0 ((p3 &&& (2147483647 : Int32)).toInt)).toInt := c129
          have c129 : (p3 &&& (2147483647 : Int32)).toInt < 0 := (cmpI_gt _ _).mp c129
          refine g_iconst C X15 (pc' := 137) at_136 (v := (0 : Int32)) (by decide) rfl ?_
          refine g_istore C X15 (pc' := 139) at_137 (x := (0 : Int32)) rfl (l' := #[.val (.int p0), .val (.int p1), .val (.int p2), .val (.int p3), .val (.int (1 : Int32)), .val (.ref y1), .val (.double d5), .second, .val (.double d6), .second, .val (.double d7), .second, .val (.double FP.dconst0), .second, .val (.int (0 : Int32))]) rfl rfl ?_
          refine g_goto C X15 at_139 (pc' := 158) (by decide) (by decide) ?_
          refine g_aload C X15 (pc' := 160) at_158 rfl rfl rfl ?_
          refine g_dload C X15 (pc' := 162) at_160 rfl rfl ?_
          refine g_dload C X15 (pc' := 164) at_162 rfl rfl ?_
          refine g_dload C X15 (pc' := 166) at_164 rfl rfl ?_
          refine g_callV C X15 (c_hs1 l Z a0 hw h y1 d5 d6 d7 _ _ _ D_d5 D_d6 D_d7 E1 F1) (hw _ (List.mem_of_getElem? (i := 11) rfl)) (hw _ (List.mem_of_getElem? (i := 12) rfl)) (hw _ (List.mem_of_getElem? (i := 14) rfl)) (hw _ (List.mem_of_getElem? (i := 13) rfl)) (hw _ (List.mem_of_getElem? (i := 2) rfl)) (hw _ (List.mem_of_getElem? (i := 15) rfl)) (by decide) e15 E1 at_166 rfl pdH [(.double d5), (.double d6), (.double d7)] [] rfl rfl rfl 0 rfl (by decide) (by decide) (by decide) (by decide) rfl ?_
          rintro _ T16 _ X16 ⟨r16, rfl, b16, rfl, e16⟩
          rw [List.append_nil] at X16
          show Go p.tables e below _ T16 (mkF m 169 #[.val (.int p0), .val (.int p1), .val (.int p2), .val (.int p3), .val (.int (1 : Int32)), .val (.ref y1), .val (.double d5), .second, .val (.double d6), .second, .val (.double d7), .second, .val (.double FP.dconst0), .second, .val (.int (0 : Int32))] [(.int r16)])
          refine g_iload C X16 (pc' := 171) at_169 rfl rfl ?_
          refine g_icmp C X16 at_171 (pc' := 178) (pc'' := 174) (by decide) (by decide) rfl (fun c171 => ?_) (fun c171 => ?_)
          · have c171 : ¬ (r16.toInt = 0) := c171
            refine g_iconst C X16 (pc' := 179) at_178 (v := (0 : Int32)) (by decide) rfl ?_
            exfalso; omega
          · have c171 : r16.toInt = 0 := Decidable.not_not.mp c171
            refine g_iconst C X16 (pc' := 175) at_174 (v := (1 : Int32)) (by decide) rfl ?_
            refine g_goto C X16 at_175 (pc' := 179) (by decide) (by decide) ?_
            exact g_zreturn C X16 at_179 (w := 1) (by decide) ⟨rfl, Fr.nil n0⟩ (by decide) (by decide)
        · have c129 : ¬ (0 < (cmpI 0 ((p3 &&& (2147483647 : Int32)).toInt)).toInt) := c129
          have c129 : ¬ ((p3 &&& (2147483647 : Int32)).toInt < 0) := fun q => c129 ((cmpI_gt _ _).mpr q)
          refine g_iconst C X15 (pc' := 133) at_132 (v := (1 : Int32)) (by decide) rfl ?_
          refine g_goto C X15 at_133 (pc' := 137) (by decide) (by decide) ?_
          refine g_istore C X15 (pc' := 139) at_137 (x := (1 : Int32)) rfl (l' := #[.val (.int p0), .val (.int p1), .val (.int p2), .val (.int p3), .val (.int (1 : Int32)), .val (.ref y1), .val (.double d5), .second, .val (.double d6), .second, .val (.double d7), .second, .val (.double FP.dconst0), .second, .val (.int (1 : Int32))]) rfl rfl ?_
          refine g_goto C X15 at_139 (pc' := 158) (by decide) (by decide) ?_
          refine g_aload C X15 (pc' := 160) at_158 rfl rfl rfl ?_
          refine g_dload C X15 (pc' := 162) at_160 rfl rfl ?_
          refine g_dload C X15 (pc' := 164) at_162 rfl rfl ?_
          refine g_dload C X15 (pc' := 166) at_164 rfl rfl ?_
          refine g_callV C X15 (c_hs1 l Z a0 hw h y1 d5 d6 d7 _ _ _ D_d5 D_d6 D_d7 E1 F1) (hw _ (List.mem_of_getElem? (i := 11) rfl)) (hw _ (List.mem_of_getElem? (i := 12) rfl)) (hw _ (List.mem_of_getElem? (i := 14) rfl)) (hw _ (List.mem_of_getElem? (i := 13) rfl)) (hw _ (List.mem_of_getElem? (i := 2) rfl)) (hw _ (List.mem_of_getElem? (i := 15) rfl)) (by decide) e15 E1 at_166 rfl pdH [(.double d5), (.double d6), (.double d7)] [] rfl rfl rfl 0 rfl (by decide) (by decide) (by decide) (by decide) rfl ?_
          rintro _ T17 _ X17 ⟨r17, rfl, b17, rfl, e17⟩
          rw [List.append_nil] at X17
          show Go p.tables e below _ T17 (mkF m 169 #[.val (.int p0), .val (.int p1), .val (.int p2), .val (.int p3), .val (.int (1 : Int32)), .val (.ref y1), .val (.double d5), .second, .val (.double d6), .second, .val (.double d7), .second, .val (.double FP.dconst0), .second, .val (.int (1 : Int32))] [(.int r17)])
          refine g_iload C X17 (pc' := 171) at_169 rfl rfl ?_
          refine g_icmp C X17 at_171 (pc' := 178) (pc'' := 174) (by decide) (by decide) rfl (fun c171 => ?_) (fun c171 => ?_)
          · have c171 : ¬ (r17.toInt = 1) := c171
            refine g_iconst C X17 (pc' := 179) at_178 (v := (0 : Int32)) (by decide) rfl ?_
            exfalso; omega
          · have c171 : r17.toInt = 1 := Decidable.not_not.mp c171
            refine g_iconst C X17 (pc' := 175) at_174 (v := (1 : Int32)) (by decide) rfl ?_
            refine g_goto C X17 at_175 (pc' := 179) (by decide) (by decide) ?_
            exact g_zreturn C X17 at_179 (w := 1) (by decide) ⟨rfl, Fr.nil n0⟩ (by decide) (by decide)
      · have c75 : (cmpI r15.toInt 0).toInt < 0 := Decidable.not_not.mp c75
        have c75 : r15.toInt < 0 := (cmpI_lt _ _).mp c75
        refine g_dload C X15 (pc' := 80) at_78 rfl rfl ?_
        refine g_goto C X15 at_80 (pc' := 84) (by decide) (by decide) ?_
        refine g_dstore C X15 (pc' := 86) at_84 (x := d6) rfl (l' := #[.val (.int p0), .val (.int p1), .val (.int p2), .val (.int p3), .val (.int (1 : Int32)), .val (.ref y1), .val (.double d5), .second, .val (.double d6), .second, .val (.double d7), .second, .val (.double d6), .second, .unset]) rfl rfl ?_
        refine g_iload C X15 (pc' := 88) at_86 rfl rfl ?_
        refine g_ifY C X15 at_88 (pc' := 118) (by decide) (by decide) (by decide) ?_
        refine g_iload C X15 (pc' := 120) at_118 rfl rfl ?_
        refine g_iconst C X15 (pc' := 121) at_120 (v := (1 : Int32)) (by decide) rfl ?_
        refine g_icmpN C X15 at_121 (by decide) rfl ?_
        refine g_dload C X15 (pc' := 126) at_124 rfl rfl ?_
        refine g_dload C X15 (pc' := 128) at_126 rfl rfl ?_
        refine g_dcmpV C X15 (pc' := 129) at_128 (dcmp_cmpI D_d6 D_d7 _) rfl ?_
        refine g_if C X15 at_129 (pc' := 136) (pc'' := 132) (by decide) (by decide) rfl (fun c129 => ?_) (fun c129 => ?_)
        · have c129 : 0 < (cmpI r15.toInt ((p3 &&& (2147483647 : Int32)).toInt)).toInt := c129
          have c129 : (p3 &&& (2147483647 : Int32)).toInt < r15.toInt := (cmpI_gt _ _).mp c129
          refine g_iconst C X15 (pc' := 137) at_136 (v := (0 : Int32)) (by decide) rfl ?_
          refine g_istore C X15 (pc' := 139) at_137 (x := (0 : Int32)) rfl (l' := #[.val (.int p0), .val (.int p1), .val (.int p2), .val (.int p3), .val (.int (1 : Int32)), .val (.ref y1), .val (.double d5), .second, .val (.double d6), .second, .val (.double d7), .second, .val (.double d6), .second, .val (.int (0 : Int32))]) rfl rfl ?_
          refine g_goto C X15 at_139 (pc' := 158) (by decide) (by decide) ?_
          refine g_aload C X15 (pc' := 160) at_158 rfl rfl rfl ?_
          refine g_dload C X15 (pc' := 162) at_160 rfl rfl ?_
          refine g_dload C X15 (pc' := 164) at_162 rfl rfl ?_
          refine g_dload C X15 (pc' := 166) at_164 rfl rfl ?_
          refine g_callV C X15 (c_hs1 l Z a0 hw h y1 d5 d6 d7 _ _ _ D_d5 D_d6 D_d7 E1 F1) (hw _ (List.mem_of_getElem? (i := 11) rfl)) (hw _ (List.mem_of_getElem? (i := 12) rfl)) (hw _ (List.mem_of_getElem? (i := 14) rfl)) (hw _ (List.mem_of_getElem? (i := 13) rfl)) (hw _ (List.mem_of_getElem? (i := 2) rfl)) (hw _ (List.mem_of_getElem? (i := 15) rfl)) (by decide) e15 E1 at_166 rfl pdH [(.double d5), (.double d6), (.double d7)] [] rfl rfl rfl 0 rfl (by decide) (by decide) (by decide) (by decide) rfl ?_
          rintro _ T18 _ X18 ⟨r18, rfl, b18, rfl, e18⟩
          rw [List.append_nil] at X18
          show Go p.tables e below _ T18 (mkF m 169 #[.val (.int p0), .val (.int p1), .val (.int p2), .val (.int p3), .val (.int (1 : Int32)), .val (.ref y1), .val (.double d5), .second, .val (.double d6), .second, .val (.double d7), .second, .val (.double d6), .second, .val (.int (0 : Int32))] [(.int r18)])
          refine g_iload C X18 (pc' := 171) at_169 rfl rfl ?_
          refine g_icmp C X18 at_171 (pc' := 178) (pc'' := 174) (by decide) (by decide) rfl (fun c171 => ?_) (fun c171 => ?_)
          · have c171 : ¬ (r18.toInt = 0) := c171
            refine g_iconst C X18 (pc' := 179) at_178 (v := (0 : Int32)) (by decide) rfl ?_
            exfalso; omega
          · have c171 : r18.toInt = 0 := Decidable.not_not.mp c171
            refine g_iconst C X18 (pc' := 175) at_174 (v := (1 : Int32)) (by decide) rfl ?_
            refine g_goto C X18 at_175 (pc' := 179) (by decide) (by decide) ?_
            exact g_zreturn C X18 at_179 (w := 1) (by decide) ⟨rfl, Fr.nil n0⟩ (by decide) (by decide)
        · have c129 : ¬ (0 < (cmpI r15.toInt ((p3 &&& (2147483647 : Int32)).toInt)).toInt) := c129
          have c129 : ¬ ((p3 &&& (2147483647 : Int32)).toInt < r15.toInt) := fun q => c129 ((cmpI_gt _ _).mpr q)
          refine g_iconst C X15 (pc' := 133) at_132 (v := (1 : Int32)) (by decide) rfl ?_
          refine g_goto C X15 at_133 (pc' := 137) (by decide) (by decide) ?_
          refine g_istore C X15 (pc' := 139) at_137 (x := (1 : Int32)) rfl (l' := #[.val (.int p0), .val (.int p1), .val (.int p2), .val (.int p3), .val (.int (1 : Int32)), .val (.ref y1), .val (.double d5), .second, .val (.double d6), .second, .val (.double d7), .second, .val (.double d6), .second, .val (.int (1 : Int32))]) rfl rfl ?_
          refine g_goto C X15 at_139 (pc' := 158) (by decide) (by decide) ?_
          refine g_aload C X15 (pc' := 160) at_158 rfl rfl rfl ?_
          refine g_dload C X15 (pc' := 162) at_160 rfl rfl ?_
          refine g_dload C X15 (pc' := 164) at_162 rfl rfl ?_
          refine g_dload C X15 (pc' := 166) at_164 rfl rfl ?_
          refine g_callV C X15 (c_hs1 l Z a0 hw h y1 d5 d6 d7 _ _ _ D_d5 D_d6 D_d7 E1 F1) (hw _ (List.mem_of_getElem? (i := 11) rfl)) (hw _ (List.mem_of_getElem? (i := 12) rfl)) (hw _ (List.mem_of_getElem? (i := 14) rfl)) (hw _ (List.mem_of_getElem? (i := 13) rfl)) (hw _ (List.mem_of_getElem? (i := 2) rfl)) (hw _ (List.mem_of_getElem? (i := 15) rfl)) (by decide) e15 E1 at_166 rfl pdH [(.double d5), (.double d6), (.double d7)] [] rfl rfl rfl 0 rfl (by decide) (by decide) (by decide) (by decide) rfl ?_
          rintro _ T19 _ X19 ⟨r19, rfl, b19, rfl, e19⟩
          rw [List.append_nil] at X19
          show Go p.tables e below _ T19 (mkF m 169 #[.val (.int p0), .val (.int p1), .val (.int p2), .val (.int p3), .val (.int (1 : Int32)), .val (.ref y1), .val (.double d5), .second, .val (.double d6), .second, .val (.double d7), .second, .val (.double d6), .second, .val (.int (1 : Int32))] [(.int r19)])
          refine g_iload C X19 (pc' := 171) at_169 rfl rfl ?_
          refine g_icmp C X19 at_171 (pc' := 178) (pc'' := 174) (by decide) (by decide) rfl (fun c171 => ?_) (fun c171 => ?_)
          · have c171 : ¬ (r19.toInt = 1) := c171
            refine g_iconst C X19 (pc' := 179) at_178 (v := (0 : Int32)) (by decide) rfl ?_
            exfalso; omega
          · have c171 : r19.toInt = 1 := Decidable.not_not.mp c171
            refine g_iconst C X19 (pc' := 175) at_174 (v := (1 : Int32)) (by decide) rfl ?_
            refine g_goto C X19 at_175 (pc' := 179) (by decide) (by decide) ?_
            exact g_zreturn C X19 at_179 (w := 1) (by decide) ⟨rfl, Fr.nil n0⟩ (by decide) (by decide)
    · have c63 : 0 < (cmpI r14.toInt 0).toInt := Decidable.not_not.mp c63
      have c63 : 0 < r14.toInt := (cmpI_gt _ _).mp c63
      refine g_dload C X15 (pc' := 68) at_66 rfl rfl ?_
      refine g_goto C X15 at_68 (pc' := 84) (by decide) (by decide) ?_
      refine g_dstore C X15 (pc' := 86) at_84 (x := d5) rfl (l' := #[.val (.int p0), .val (.int p1), .val (.int p2), .val (.int p3), .val (.int (1 : Int32)), .val (.ref y1), .val (.double d5), .second, .val (.double d6), .second, .val (.double d7), .second, .val (.double d5), .second, .unset]) rfl rfl ?_
      refine g_iload C X15 (pc' := 88) at_86 rfl rfl ?_
      refine g_ifY C X15 at_88 (pc' := 118) (by decide) (by decide) (by decide) ?_
      refine g_iload C X15 (pc' := 120) at_118 rfl rfl ?_
      refine g_iconst C X15 (pc' := 121) at_120 (v := (1 : Int32)) (by decide) rfl ?_
      refine g_icmpN C X15 at_121 (by decide) rfl ?_
      refine g_dload C X15 (pc' := 126) at_124 rfl rfl ?_
      refine g_dload C X15 (pc' := 128) at_126 rfl rfl ?_
      refine g_dcmpV C X15 (pc' := 129) at_128 (dcmp_cmpI D_d5 D_d7 _) rfl ?_
      refine g_if C X15 at_129 (pc' := 136) (pc'' := 132) (by decide) (by decide) rfl (fun c129 => ?_) (fun c129 => ?_)
      · have c129 : 0 < (cmpI r14.toInt ((p3 &&& (2147483647 : Int32)).toInt)).toInt := c129
        have c129 : (p3 &&& (2147483647 : Int32)).toInt < r14.toInt := (cmpI_gt _ _).mp c129
        refine g_iconst C X15 (pc' := 137) at_136 (v := (0 : Int32)) (by decide) rfl ?_
        refine g_istore C X15 (pc' := 139) at_137 (x := (0 : Int32)) rfl (l' := #[.val (.int p0), .val (.int p1), .val (.int p2), .val (.int p3), .val (.int (1 : Int32)), .val (.ref y1), .val (.double d5), .second, .val (.double d6), .second, .val (.double d7), .second, .val (.double d5), .second, .val (.int (0 : Int32))]) rfl rfl ?_
        refine g_goto C X15 at_139 (pc' := 158) (by decide) (by decide) ?_
        refine g_aload C X15 (pc' := 160) at_158 rfl rfl rfl ?_
        refine g_dload C X15 (pc' := 162) at_160 rfl rfl ?_
        refine g_dload C X15 (pc' := 164) at_162 rfl rfl ?_
        refine g_dload C X15 (pc' := 166) at_164 rfl rfl ?_
        refine g_callV C X15 (c_hs1 l Z a0 hw h y1 d5 d6 d7 _ _ _ D_d5 D_d6 D_d7 E1 F1) (hw _ (List.mem_of_getElem? (i := 11) rfl)) (hw _ (List.mem_of_getElem? (i := 12) rfl)) (hw _ (List.mem_of_getElem? (i := 14) rfl)) (hw _ (List.mem_of_getElem? (i := 13) rfl)) (hw _ (List.mem_of_getElem? (i := 2) rfl)) (hw _ (List.mem_of_getElem? (i := 15) rfl)) (by decide) e15 E1 at_166 rfl pdH [(.double d5), (.double d6), (.double d7)] [] rfl rfl rfl 0 rfl (by decide) (by decide) (by decide) (by decide) rfl ?_
        rintro _ T20 _ X20 ⟨r20, rfl, b20, rfl, e20⟩
        rw [List.append_nil] at X20
        show Go p.tables e below _ T20 (mkF m 169 #[.val (.int p0), .val (.int p1), .val (.int p2), .val (.int p3), .val (.int (1 : Int32)), .val (.ref y1), .val (.double d5), .second, .val (.double d6), .second, .val (.double d7), .second, .val (.double d5), .second, .val (.int (0 : Int32))] [(.int r20)])
        refine g_iload C X20 (pc' := 171) at_169 rfl rfl ?_
        refine g_icmp C X20 at_171 (pc' := 178) (pc'' := 174) (by decide) (by decide) rfl (fun c171 => ?_) (fun c171 => ?_)
        · have c171 : ¬ (r20.toInt = 0) := c171
          refine g_iconst C X20 (pc' := 179) at_178 (v := (0 : Int32)) (by decide) rfl ?_
          exfalso; omega
        · have c171 : r20.toInt = 0 := Decidable.not_not.mp c171
          refine g_iconst C X20 (pc' := 175) at_174 (v := (1 : Int32)) (by decide) rfl ?_
          refine g_goto C X20 at_175 (pc' := 179) (by decide) (by decide) ?_
          exact g_zreturn C X20 at_179 (w := 1) (by decide) ⟨rfl, Fr.nil n0⟩ (by decide) (by decide)
      · have c129 : ¬ (0 < (cmpI r14.toInt ((p3 &&& (2147483647 : Int32)).toInt)).toInt) := c129
        have c129 : ¬ ((p3 &&& (2147483647 : Int32)).toInt < r14.toInt) := fun q => c129 ((cmpI_gt _ _).mpr q)
        refine g_iconst C X15 (pc' := 133) at_132 (v := (1 : Int32)) (by decide) rfl ?_
        refine g_goto C X15 at_133 (pc' := 137) (by decide) (by decide) ?_
        refine g_istore C X15 (pc' := 139) at_137 (x := (1 : Int32)) rfl (l' := #[.val (.int p0), .val (.int p1), .val (.int p2), .val (.int p3), .val (.int (1 : Int32)), .val (.ref y1), .val (.double d5), .second, .val (.double d6), .second, .val (.double d7), .second, .val (.double d5), .second, .val (.int (1 : Int32))]) rfl rfl ?_
        refine g_goto C X15 at_139 (pc' := 158) (by decide) (by decide) ?_
        refine g_aload C X15 (pc' := 160) at_158 rfl rfl rfl ?_
        refine g_dload C X15 (pc' := 162) at_160 rfl rfl ?_
        refine g_dload C X15 (pc' := 164) at_162 rfl rfl ?_
        refine g_dload C X15 (pc' := 166) at_164 rfl rfl ?_
        refine g_callV C X15 (c_hs1 l Z a0 hw h y1 d5 d6 d7 _ _ _ D_d5 D_d6 D_d7 E1 F1) (hw _ (List.mem_of_getElem? (i := 11) rfl)) (hw _ (List.mem_of_getElem? (i := 12) rfl)) (hw _ (List.mem_of_getElem? (i := 14) rfl)) (hw _ (List.mem_of_getElem? (i := 13) rfl)) (hw _ (List.mem_of_getElem? (i := 2) rfl)) (hw _ (List.mem_of_getElem? (i := 15) rfl)) (by decide) e15 E1 at_166 rfl pdH [(.double d5), (.double d6), (.double d7)] [] rfl rfl rfl 0 rfl (by decide) (by decide) (by decide) (by decide) rfl ?_
        rintro _ T21 _ X21 ⟨r21, rfl, b21, rfl, e21⟩
        rw [List.append_nil] at X21
        show Go p.tables e below _ T21 (mkF m 169 #[.val (.int p0), .val (.int p1), .val (.int p2), .val (.int p3), .val (.int (1 : Int32)), .val (.ref y1), .val (.double d5), .second, .val (.double d6), .second, .val (.double d7), .second, .val (.double d5), .second, .val (.int (1 : Int32))] [(.int r21)])
        refine g_iload C X21 (pc' := 171) at_169 rfl rfl ?_
        refine g_icmp C X21 at_171 (pc' := 178) (pc'' := 174) (by decide) (by decide) rfl (fun c171 => ?_) (fun c171 => ?_)
        · have c171 : ¬ (r21.toInt = 1) := c171
          refine g_iconst C X21 (pc' := 179) at_178 (v := (0 : Int32)) (by decide) rfl ?_
          exfalso; omega
        · have c171 : r21.toInt = 1 := Decidable.not_not.mp c171
          refine g_iconst C X21 (pc' := 175) at_174 (v := (1 : Int32)) (by decide) rfl ?_
          refine g_goto C X21 at_175 (pc' := 179) (by decide) (by decide) ?_
          exact g_zreturn C X21 at_179 (w := 1) (by decide) ⟨rfl, Fr.nil n0⟩ (by decide) (by decide)
  · show Go p.tables e below _ T0 (mkF m 8 #[.val (.int p0), .val (.int p1), .val (.int p2), .val (.int p3), .val (.int (2 : Int32)), .unset, .unset, .unset, .unset, .unset, .unset, .unset, .unset, .unset, .unset] [])
    refine g_iload C X0 (pc' := 10) at_8 rfl rfl ?_
    refine g_ifY C X0 at_10 (pc' := 19) (by decide) (by decide) (by decide) ?_
    refine g_iload C X0 (pc' := 21) at_19 rfl rfl ?_
    refine g_iconst C X0 (pc' := 22) at_21 (v := (1 : Int32)) (by decide) rfl ?_
    refine g_icmpY C X0 at_22 (pc' := 31) (by decide) (by decide) (by decide) ?_
    refine g_getS C X0 (hw _ (List.mem_of_getElem? (i := 27) rfl)) Via.refl e0 S2 at_31 rfl ?_
    intro T22 X22 e22
    refine g_astore C X22 (pc' := 36) at_34 rfl (l' := #[.val (.int p0), .val (.int p1), .val (.int p2), .val (.int p3), .val (.int (2 : Int32)), .val (.ref y2), .unset, .unset, .unset, .unset, .unset, .unset, .unset, .unset, .unset]) rfl rfl ?_
    refine g_iloadN C X22 (pc' := 37) at_36 rfl rfl ?_
    refine g_iloadN C X22 (pc' := 38) at_37 rfl rfl ?_
    refine g_callS C X22 (c_min l Z h p1 p2) (hw _ (List.mem_of_getElem? (i := 4) rfl)) (hw _ (List.mem_of_getElem? (i := 5) rfl)) (hw _ (List.mem_of_getElem? (i := 6) rfl)) (hw _ (List.mem_of_getElem? (i := 7) rfl)) (by decide) e22 at_38 rfl pdM [(.int p1), (.int p2)] [] rfl rfl rfl 0 rfl (by decide) (by decide) (by decide) (by decide) rfl ?_
    rintro _ T23 _ X23 ⟨r23, rfl, b23, c23, rfl, e23⟩
    rw [List.append_nil] at X23
    show Go p.tables e below _ T23 (mkF m 41 #[.val (.int p0), .val (.int p1), .val (.int p2), .val (.int p3), .val (.int (2 : Int32)), .val (.ref y2), .unset, .unset, .unset, .unset, .unset, .unset, .unset, .unset, .unset] [(.int r23)])
    refine g_i2d C X23 (pc' := 42) at_41 rfl ?_
    obtain ⟨d8, e_d8⟩ : ∃ z : UInt64, z = FP.i2d r23 := ⟨_, rfl⟩
    have D_d8 : FP.Core.DInt r23.toInt d8 := e_d8 ▸ (i2d_D r23)
    refine g_dstore C X23 (pc' := 44) at_42 (x := d8) e_d8 (l' := #[.val (.int p0), .val (.int p1), .val (.int p2), .val (.int p3), .val (.int (2 : Int32)), .val (.ref y2), .val (.double d8), .second, .unset, .unset, .unset, .unset, .unset, .unset, .unset]) rfl rfl ?_
    refine g_iloadN C X23 (pc' := 45) at_44 rfl rfl ?_
    refine g_iloadN C X23 (pc' := 46) at_45 rfl rfl ?_
    refine g_callS C X23 (c_max l Z h p1 p2) (hw _ (List.mem_of_getElem? (i := 8) rfl)) (hw _ (List.mem_of_getElem? (i := 9) rfl)) (hw _ (List.mem_of_getElem? (i := 6) rfl)) (hw _ (List.mem_of_getElem? (i := 10) rfl)) (by decide) e23 at_46 rfl pdM [(.int p1), (.int p2)] [] rfl rfl rfl 0 rfl (by decide) (by decide) (by decide) (by decide) rfl ?_
    rintro _ T24 _ X24 ⟨r24, rfl, b24, c24, rfl, e24⟩
    rw [List.append_nil] at X24
    show Go p.tables e below _ T24 (mkF m 49 #[.val (.int p0), .val (.int p1), .val (.int p2), .val (.int p3), .val (.int (2 : Int32)), .val (.ref y2), .val (.double d8), .second, .unset, .unset, .unset, .unset, .unset, .unset, .unset] [(.int r24)])
    refine g_i2d C X24 (pc' := 50) at_49 rfl ?_
    obtain ⟨d9, e_d9⟩ : ∃ z : UInt64, z = FP.i2d r24 := ⟨_, rfl⟩
    have D_d9 : FP.Core.DInt r24.toInt d9 := e_d9 ▸ (i2d_D r24)
    refine g_dstore C X24 (pc' := 52) at_50 (x := d9) e_d9 (l' := #[.val (.int p0), .val (.int p1), .val (.int p2), .val (.int p3), .val (.int (2 : Int32)), .val (.ref y2), .val (.double d8), .second, .val (.double d9), .second, .unset, .unset, .unset, .unset, .unset]) rfl rfl ?_
    refine g_iloadN C X24 (pc' := 53) at_52 rfl rfl ?_
    refine g_ldcI C X24 (pc' := 55) (hw _ (List.mem_of_getElem? (i := 0) rfl)) at_53 rfl ?_
    refine g_iand C X24 (pc' := 56) at_55 rfl ?_
    refine g_i2d C X24 (pc' := 57) at_56 rfl ?_
    have bt := c_and p3 2147483647 (by decide)
    obtain ⟨d10, e_d10⟩ : ∃ z : UInt64, z = FP.i2d (p3 &&& (2147483647 : Int32)) := ⟨_, rfl⟩
    have D_d10 : FP.Core.DInt ((p3 &&& (2147483647 : Int32)).toInt) d10 := e_d10 ▸ (i2d_D (p3 &&& (2147483647 : Int32)))
    refine g_dstore C X24 (pc' := 59) at_57 (x := d10) e_d10 (l' := #[.val (.int p0), .val (.int p1), .val (.int p2), .val (.int p3), .val (.int (2 : Int32)), .val (.ref y2), .val (.double d8), .second, .val (.double d9), .second, .val (.double d10), .second, .unset, .unset, .unset]) rfl rfl ?_
    refine g_dload C X24 (pc' := 61) at_59 rfl rfl ?_
    refine g_dconst0 C X24 (pc' := 62) at_61 rfl rfl ?_
    refine g_dcmpV C X24 (pc' := 63) at_62 (dcmp_cmpI D_d8 dint_zero _) rfl ?_
    refine g_if C X24 at_63 (pc' := 71) (pc'' := 66) (by decide) (by decide) rfl (fun c63 => ?_) (fun c63 => ?_)
    · have c63 : ¬ (0 < (cmpI r23.toInt 0).toInt) := c63
      have c63 : ¬ (0 < r23.toInt) := fun q => c63 ((cmpI_gt _ _).mpr q)
      refine g_dload C X24 (pc' := 73) at_71 rfl rfl ?_
      refine g_dconst0 C X24 (pc' := 74) at_73 rfl rfl ?_
      refine g_dcmpV C X24 (pc' := 75) at_74 (dcmp_cmpI D_d9 dint_zero _) rfl ?_
      refine g_if C X24 at_75 (pc' := 83) (pc'' := 78) (by decide) (by decide) rfl (fun c75 => ?_) (fun c75 => ?_)
      · have c75 : ¬ ((cmpI r24.toInt 0).toInt < 0) := c75
        have c75 : ¬ (r24.toInt < 0) := fun q => c75 ((cmpI_lt _ _).mpr q)
        refine g_dconst0 C X24 (pc' := 84) at_83 rfl rfl ?_
        refine g_dstore C X24 (pc' := 86) at_84 (x := FP.dconst0) rfl (l' := #[.val (.int p0), .val (.int p1), .val (.int p2), .val (.int p3), .val (.int (2 : Int32)), .val (.ref y2), .val (.double d8), .second, .val (.double d9), .second, .val (.double d10), .second, .val (.double FP.dconst0), .second, .unset]) rfl rfl ?_
        refine g_iload C X24 (pc' := 88) at_86 rfl rfl ?_
        refine g_ifY C X24 at_88 (pc' := 118) (by decide) (by decide) (by decide) ?_
        refine g_iload C X24 (pc' := 120) at_118 rfl rfl ?_
        refine g_iconst C X24 (pc' := 121) at_120 (v := (1 : Int32)) (by decide) rfl ?_
        refine g_icmpY C X24 at_121 (pc' := 142) (by decide) (by decide) (by decide) ?_
        refine g_dload C X24 (pc' := 144) at_142 rfl rfl ?_
        refine g_dload C X24 (pc' := 146) at_144 rfl rfl ?_
        refine g_dneg C X24 (pc' := 147) at_146 rfl ?_
        refine g_dcmpV C X24 (pc' := 148) at_147 (dcmp_cmpI dint_zero (dneg_int' D_d10) _) rfl ?_
        refine g_if C X24 at_148 (pc' := 155) (pc'' := 151) (by decide) (by decide) rfl (fun c148 => ?_) (fun c148 => ?_)
        · have c148 : (cmpI 0 (-((p3 &&& (2147483647 : Int32)).toInt))).toInt < 0 := c148
          have c148 : 0 < -((p3 &&& (2147483647 : Int32)).toInt) := (cmpI_lt _ _).mp c148
          refine g_iconst C X24 (pc' := 156) at_155 (v := (0 : Int32)) (by decide) rfl ?_
          refine g_istore C X24 (pc' := 158) at_156 (x := (0 : Int32)) rfl (l' := #[.val (.int p0), .val (.int p1), .val (.int p2), .val (.int p3), .val (.int (2 : Int32)), .val (.ref y2), .val (.double d8), .second, .val (.double d9), .second, .val (.double d10), .second, .val (.double FP.dconst0), .second, .val (.int (0 : Int32))]) rfl rfl ?_
          refine g_aload C X24 (pc' := 160) at_158 rfl rfl rfl ?_
          refine g_dload C X24 (pc' := 162) at_160 rfl rfl ?_
          refine g_dload C X24 (pc' := 164) at_162 rfl rfl ?_
          refine g_dload C X24 (pc' := 166) at_164 rfl rfl ?_
          refine g_callV C X24 (c_hs2 l Z a0 hw h y2 d8 d9 d10 _ _ _ D_d8 D_d9 D_d10 E2 F2) (hw _ (List.mem_of_getElem? (i := 11) rfl)) (hw _ (List.mem_of_getElem? (i := 12) rfl)) (hw _ (List.mem_of_getElem? (i := 14) rfl)) (hw _ (List.mem_of_getElem? (i := 13) rfl)) (hw _ (List.mem_of_getElem? (i := 2) rfl)) (hw _ (List.mem_of_getElem? (i := 15) rfl)) (by decide) e24 E2 at_166 rfl pdH [(.double d8), (.double d9), (.double d10)] [] rfl rfl rfl 0 rfl (by decide) (by decide) (by decide) (by decide) rfl ?_
          rintro _ T25 _ X25 ⟨r25, rfl, b25, rfl, e25⟩
          rw [List.append_nil] at X25
          show Go p.tables e below _ T25 (mkF m 169 #[.val (.int p0), .val (.int p1), .val (.int p2), .val (.int p3), .val (.int (2 : Int32)), .val (.ref y2), .val (.double d8), .second, .val (.double d9), .second, .val (.double d10), .second, .val (.double FP.dconst0), .second, .val (.int (0 : Int32))] [(.int r25)])
          refine g_iload C X25 (pc' := 171) at_169 rfl rfl ?_
          refine g_icmp C X25 at_171 (pc' := 178) (pc'' := 174) (by decide) (by decide) rfl (fun c171 => ?_) (fun c171 => ?_)
          · have c171 : ¬ (r25.toInt = 0) := c171
            refine g_iconst C X25 (pc' := 179) at_178 (v := (0 : Int32)) (by decide) rfl ?_
            exfalso; omega
          · have c171 : r25.toInt = 0 := Decidable.not_not.mp c171
            refine g_iconst C X25 (pc' := 175) at_174 (v := (1 : Int32)) (by decide) rfl ?_
            refine g_goto C X25 at_175 (pc' := 179) (by decide) (by decide) ?_
            exact g_zreturn C X25 at_179 (w := 1) (by decide) ⟨rfl, Fr.nil n0⟩ (by decide) (by decide)
        · have c148 : ¬ ((cmpI 0 (-((p3 &&& (2147483647 : Int32)).toInt))).toInt < 0) := c148
          have c148 : ¬ (0 < -((p3 &&& (2147483647 : Int32)).toInt)) := fun q => c148 ((cmpI_lt _ _).mpr q)
          refine g_iconst C X24 (pc' := 152) at_151 (v := (1 : Int32)) (by decide) rfl ?_
          refine g_goto C X24 at_152 (pc' := 156) (by decide) (by decide) ?_
          refine g_istore C X24 (pc' := 158) at_156 (x := (1 : Int32)) rfl (l' := #[.val (.int p0), .val (.int p1), .val (.int p2), .val (.int p3), .val (.int (2 : Int32)), .val (.ref y2), .val (.double d8), .second, .val (.double d9), .second, .val (.double d10), .second, .val (.double FP.dconst0), .second, .val (.int (1 : Int32))]) rfl rfl ?_
          refine g_aload C X24 (pc' := 160) at_158 rfl rfl rfl ?_
          refine g_dload C X24 (pc' := 162) at_160 rfl rfl ?_
          refine g_dload C X24 (pc' := 164) at_162 rfl rfl ?_
          refine g_dload C X24 (pc' := 166) at_164 rfl rfl ?_
          refine g_callV C X24 (c_hs2 l Z a0 hw h y2 d8 d9 d10 _ _ _ D_d8 D_d9 D_d10 E2 F2) (hw _ (List.mem_of_getElem? (i := 11) rfl)) (hw _ (List.mem_of_getElem? (i := 12) rfl)) (hw _ (List.mem_of_getElem? (i := 14) rfl)) (hw _ (List.mem_of_getElem? (i := 13) rfl)) (hw _ (List.mem_of_getElem? (i := 2) rfl)) (hw _ (List.mem_of_getElem? (i := 15) rfl)) (by decide) e24 E2 at_166 rfl pdH [(.double d8), (.double d9), (.double d10)] [] rfl rfl rfl 0 rfl (by decide) (by decide) (by decide) (by decide) rfl ?_
          rintro _ T26 _ X26 ⟨r26, rfl, b26, rfl, e26⟩
          rw [List.append_nil] at X26
          show Go p.tables e below _ T26 (mkF m 169 #[.val (.int p0), .val (.int p1), .val (.int p2), .val (.int p3), .val (.int (2 : Int32)), .val (.ref y2), .val (.double d8), .second, .val (.double d9), .second, .val (.double d10), .second, .val (.double FP.dconst0), .second, .val (.int (1 : Int32))] [(.int r26)])
          refine g_iload C X26 (pc' := 171) at_169 rfl rfl ?_
          refine g_icmp C X26 at_171 (pc' := 178) (pc'' := 174) (by decide) (by decide) rfl (fun c171 => ?_) (fun c171 => ?_)
          · have c171 : ¬ (r26.toInt = 1) := c171
            refine g_iconst C X26 (pc' := 179) at_178 (v := (0 : Int32)) (by decide) rfl ?_
            exfalso; omega
          · have c171 : r26.toInt = 1 := Decidable.not_not.mp c171
            refine g_iconst C X26 (pc' := 175) at_174 (v := (1 : Int32)) (by decide) rfl ?_
            refine g_goto C X26 at_175 (pc' := 179) (by decide) (by decide) ?_
            exact g_zreturn C X26 at_179 (w := 1) (by decide) ⟨rfl, Fr.nil n0⟩ (by decide) (by decide)
      · have c75 : (cmpI r24.toInt 0).toInt < 0 := Decidable.not_not.mp c75
        have c75 : r24.toInt < 0 := (cmpI_lt _ _).mp c75
        refine g_dload C X24 (pc' := 80) at_78 rfl rfl ?_
        refine g_goto C X24 at_80 (pc' := 84) (by decide) (by decide) ?_
        refine g_dstore C X24 (pc' := 86) at_84 (x := d9) rfl (l' := #[.val (.int p0), .val (.int p1), .val (.int p2), .val (.int p3), .val (.int (2 : Int32)), .val (.ref y2), .val (.double d8), .second, .val (.double d9), .second, .val (.double d10), .second, .val (.double d9), .second, .unset]) rfl rfl ?_
        refine g_iload C X24 (pc' := 88) at_86 rfl rfl ?_
        refine g_ifY C X24 at_88 (pc' := 118) (by decide) (by decide) (by decide) ?_
        refine g_iload C X24 (pc' := 120) at_118 rfl rfl ?_
        refine g_iconst C X24 (pc' := 121) at_120 (v := (1 : Int32)) (by decide) rfl ?_
        refine g_icmpY C X24 at_121 (pc' := 142) (by decide) (by decide) (by decide) ?_
        refine g_dload C X24 (pc' := 144) at_142 rfl rfl ?_
        refine g_dload C X24 (pc' := 146) at_144 rfl rfl ?_
        refine g_dneg C X24 (pc' := 147) at_146 rfl ?_
        refine g_dcmpV C X24 (pc' := 148) at_147 (dcmp_cmpI D_d9 (dneg_int' D_d10) _) rfl ?_
        refine g_if C X24 at_148 (pc' := 155) (pc'' := 151) (by decide) (by decide) rfl (fun c148 => ?_) (fun c148 => ?_)
        · have c148 : (cmpI r24.toInt (-((p3 &&& (2147483647 : Int32)).toInt))).toInt < 0 := c148
          have c148 : r24.toInt < -((p3 &&& (2147483647 : Int32)).toInt) := (cmpI_lt _ _).mp c148
          refine g_iconst C X24 (pc' := 156) at_155 (v := (0 : Int32)) (by decide) rfl ?_
          refine g_istore C X24 (pc' := 158) at_156 (x := (0 : Int32)) rfl (l' := #[.val (.int p0), .val (.int p1), .val (.int p2), .val (.int p3), .val (.int (2 : Int32)), .val (.ref y2), .val (.double d8), .second, .val (.double d9), .second, .val (.double d10), .second, .val (.double d9), .second, .val (.int (0 : Int32))]) rfl rfl ?_
          refine g_aload C X24 (pc' := 160) at_158 rfl rfl rfl ?_
          refine g_dload C X24 (pc' := 162) at_160 rfl rfl ?_
          refine g_dload C X24 (pc' := 164) at_162 rfl rfl ?_
          refine g_dload C X24 (pc' := 166) at_164 rfl rfl ?_
          refine g_callV C X24 (c_hs2 l Z a0 hw h y2 d8 d9 d10 _ _ _ D_d8 D_d9 D_d10 E2 F2) (hw _ (List.mem_of_getElem? (i := 11) rfl)) (hw _ (List.mem_of_getElem? (i := 12) rfl)) (hw _ (List.mem_of_getElem? (i := 14) rfl)) (hw _ (List.mem_of_getElem? (i := 13) rfl)) (hw _ (List.mem_of_getElem? (i := 2) rfl)) (hw _ (List.mem_of_getElem? (i := 15) rfl)) (by decide) e24 E2 at_166 rfl pdH [(.double d8), (.double d9), (.double d10)] [] rfl rfl rfl 0 rfl (by decide) (by decide) (by decide) (by decide) rfl ?_
          rintro _ T27 _ X27 ⟨r27, rfl, b27, rfl, e27⟩
          rw [List.append_nil] at X27
          show Go p.tables e below _ T27 (mkF m 169 #[.val (.int p0), .val (.int p1), .val (.int p2), .val (.int p3), .val (.int (2 : Int32)), .val (.ref y2), .val (.double d8), .second, .val (.double d9), .second, .val (.double d10), .second, .val (.double d9), .second, .val (.int (0 : Int32))] [(.int r27)])
          refine g_iload C X27 (pc' := 171) at_169 rfl rfl ?_
          refine g_icmp C X27 at_171 (pc' := 178) (pc'' := 174) (by decide) (by decide) rfl (fun c171 => ?_) (fun c171 => ?_)
          · have c171 : ¬ (r27.toInt = 0) := c171
            refine g_iconst C X27 (pc' := 179) at_178 (v := (0 : Int32)) (by decide) rfl ?_
            exfalso; omega
          · have c171 : r27.toInt = 0 := Decidable.not_not.mp c171
            refine g_iconst C X27 (pc' := 175) at_174 (v := (1 : Int32)) (by decide) rfl ?_
            refine g_goto C X27 at_175 (pc' := 179) (by decide) (by decide) ?_
            exact g_zreturn C X27 at_179 (w := 1) (by decide) ⟨rfl, Fr.nil n0⟩ (by decide) (by decide)
        · have c148 : ¬ ((cmpI r24.toInt (-((p3 &&& (2147483647 : Int32)).toInt))).toInt < 0) := c148
          have c148 : ¬ (r24.toInt < -((p3 &&& (2147483647 : Int32)).toInt)) := fun q => c148 ((cmpI_lt _ _).mpr q)
          refine g_iconst C X24 (pc' := 152) at_151 (v := (1 : Int32)) (by decide) rfl ?_
          refine g_goto C X24 at_152 (pc' := 156) (by decide) (by decide) ?_
          refine g_istore C X24 (pc' := 158) at_156 (x := (1 : Int32)) rfl (l' := #[.val (.int p0), .val (.int p1), .val (.int p2), .val (.int p3), .val (.int (2 : Int32)), .val (.ref y2), .val (.double d8), .second, .val (.double d9), .second, .val (.double d10), .second, .val (.double d9), .second, .val (.int (1 : Int32))]) rfl rfl ?_
          refine g_aload C X24 (pc' := 160) at_158 rfl rfl rfl ?_
          refine g_dload C X24 (pc' := 162) at_160 rfl rfl ?_
          refine g_dload C X24 (pc' := 164) at_162 rfl rfl ?_
          refine g_dload C X24 (pc' := 166) at_164 rfl rfl ?_
          refine g_callV C X24 (c_hs2 l Z a0 hw h y2 d8 d9 d10 _ _ _ D_d8 D_d9 D_d10 E2 F2) (hw _ (List.mem_of_getElem? (i := 11) rfl)) (hw _ (List.mem_of_getElem? (i := 12) rfl)) (hw _ (List.mem_of_getElem? (i := 14) rfl)) (hw _ (List.mem_of_getElem? (i := 13) rfl)) (hw _ (List.mem_of_getElem? (i := 2) rfl)) (hw _ (List.mem_of_getElem? (i := 15) rfl)) (by decide) e24 E2 at_166 rfl pdH [(.double d8), (.double d9), (.double d10)] [] rfl rfl rfl 0 rfl (by decide) (by decide) (by decide) (by decide) rfl ?_
          rintro _ T28 _ X28 ⟨r28, rfl, b28, rfl, e28⟩
          rw [List.append_nil] at X28
          show Go p.tables e below _ T28 (mkF m 169 #[.val (.int p0), .val (.int p1), .val (.int p2), .val (.int p3), .val (.int (2 : Int32)), .val (.ref y2), .val (.double d8), .second, .val (.double d9), .second, .val (.double d10), .second, .val (.double d9), .second, .val (.int (1 : Int32))] [(.int r28)])
          refine g_iload C X28 (pc' := 171) at_169 rfl rfl ?_
          refine g_icmp C X28 at_171 (pc' := 178) (pc'' := 174) (by decide) (by decide) rfl (fun c171 => ?_) (fun c171 => ?_)
          · have c171 : ¬ (r28.toInt = 1) := c171
            refine g_iconst C X28 (pc' := 179) at_178 (v := (0 : Int32)) (by decide) rfl ?_
            exfalso; omega
          · have c171 : r28.toInt = 1 := Decidable.not_not.mp c171
            refine g_iconst C X28 (pc' := 175) at_174 (v := (1 : Int32)) (by decide) rfl ?_
            refine g_goto C X28 at_175 (pc' := 179) (by decide) (by decide) ?_
            exact g_zreturn C X28 at_179 (w := 1) (by decide) ⟨rfl, Fr.nil n0⟩ (by decide) (by decide)
    · have c63 : 0 < (cmpI r23.toInt 0).toInt := Decidable.not_not.mp c63
      have c63 : 0 < r23.toInt := (cmpI_gt _ _).mp c63
      refine g_dload C X24 (pc' := 68) at_66 rfl rfl ?_
      refine g_goto C X24 at_68 (pc' := 84) (by decide) (by decide) ?_
      refine g_dstore C X24 (pc' := 86) at_84 (x := d8) rfl (l' := #[.val (.int p0), .val (.int p1), .val (.int p2), .val (.int p3), .val (.int (2 : Int32)), .val (.ref y2), .val (.double d8), .second, .val (.double d9), .second, .val (.double d10), .second, .val (.double d8), .second, .unset]) rfl rfl ?_
      refine g_iload C X24 (pc' := 88) at_86 rfl rfl ?_
      refine g_ifY C X24 at_88 (pc' := 118) (by decide) (by decide) (by decide) ?_
      refine g_iload C X24 (pc' := 120) at_118 rfl rfl ?_
      refine g_iconst C X24 (pc' := 121) at_120 (v := (1 : Int32)) (by decide) rfl ?_
      refine g_icmpY C X24 at_121 (pc' := 142) (by decide) (by decide) (by decide) ?_
      refine g_dload C X24 (pc' := 144) at_142 rfl rfl ?_
      refine g_dload C X24 (pc' := 146) at_144 rfl rfl ?_
      refine g_dneg C X24 (pc' := 147) at_146 rfl ?_
      refine g_dcmpV C X24 (pc' := 148) at_147 (dcmp_cmpI D_d8 (dneg_int' D_d10) _) rfl ?_
      refine g_if C X24 at_148 (pc' := 155) (pc'' := 151) (by decide) (by decide) rfl (fun c148 => ?_) (fun c148 => ?_)
      · have c148 : (cmpI r23.toInt (-((p3 &&& (2147483647 : Int32)).toInt))).toInt < 0 := c148
        have c148 : r23.toInt < -((p3 &&& (2147483647 : Int32)).toInt) := (cmpI_lt _ _).mp c148
        refine g_iconst C X24 (pc' := 156) at_155 (v := (0 : Int32)) (by decide) rfl ?_
        refine g_istore C X24 (pc' := 158) at_156 (x := (0 : Int32)) rfl (l' := #[.val (.int p0), .val (.int p1), .val (.int p2), .val (.int p3), .val (.int (2 : Int32)), .val (.ref y2), .val (.double d8), .second, .val (.double d9), .second, .val (.double d10), .second, .val (.double d8), .second, .val (.int (0 : Int32))]) rfl rfl ?_
        refine g_aload C X24 (pc' := 160) at_158 rfl rfl rfl ?_
        refine g_dload C X24 (pc' := 162) at_160 rfl rfl ?_
        refine g_dload C X24 (pc' := 164) at_162 rfl rfl ?_
        refine g_dload C X24 (pc' := 166) at_164 rfl rfl ?_
        refine g_callV C X24 (c_hs2 l Z a0 hw h y2 d8 d9 d10 _ _ _ D_d8 D_d9 D_d10 E2 F2) (hw _ (List.mem_of_getElem? (i := 11) rfl)) (hw _ (List.mem_of_getElem? (i := 12) rfl)) (hw _ (List.mem_of_getElem? (i := 14) rfl)) (hw _ (List.mem_of_getElem? (i := 13) rfl)) (hw _ (List.mem_of_getElem? (i := 2) rfl)) (hw _ (List.mem_of_getElem? (i := 15) rfl)) (by decide) e24 E2 at_166 rfl pdH [(.double d8), (.double d9), (.double d10)] [] rfl rfl rfl 0 rfl (by decide) (by decide) (by decide) (by decide) rfl ?_
        rintro _ T29 _ X29 ⟨r29, rfl, b29, rfl, e29⟩
        rw [List.append_nil] at X29
        show Go p.tables e below _ T29 (mkF m 169 #[.val (.int p0), .val (.int p1), .val (.int p2), .val (.int p3), .val (.int (2 : Int32)), .val (.ref y2), .val (.double d8), .second, .val (.double d9), .second, .val (.double d10), .second, .val (.double d8), .second, .val (.int (0 : Int32))] [(.int r29)])
        refine g_iload C X29 (pc' := 171) at_169 rfl rfl ?_
        refine g_icmp C X29 at_171 (pc' := 178) (pc'' := 174) (by decide) (by decide) rfl (fun c171 => ?_) (fun c171 => ?_)
        · have c171 : ¬ (r29.toInt = 0) := c171
          refine g_iconst C X29 (pc' := 179) at_178 (v := (0 : Int32)) (by decide) rfl ?_
          exfalso; omega
        · have c171 : r29.toInt = 0 := Decidable.not_not.mp c171
          refine g_iconst C X29 (pc' := 175) at_174 (v := (1 : Int32)) (by decide) rfl ?_
          refine g_goto C X29 at_175 (pc' := 179) (by decide) (by decide) ?_
          exact g_zreturn C X29 at_179 (w := 1) (by decide) ⟨rfl, Fr.nil n0⟩ (by decide) (by decide)
      · have c148 : ¬ ((cmpI r23.toInt (-((p3 &&& (2147483647 : Int32)).toInt))).toInt < 0) := c148
        have c148 : ¬ (r23.toInt < -((p3 &&& (2147483647 : Int32)).toInt)) := fun q => c148 ((cmpI_lt _ _).mpr q)
        refine g_iconst C X24 (pc' := 152) at_151 (v := (1 : Int32)) (by decide) rfl ?_
        refine g_goto C X24 at_152 (pc' := 156) (by decide) (by decide) ?_
        refine g_istore C X24 (pc' := 158) at_156 (x := (1 : Int32)) rfl (l' := #[.val (.int p0), .val (.int p1), .val (.int p2), .val (.int p3), .val (.int (2 : Int32)), .val (.ref y2), .val (.double d8), .second, .val (.double d9), .second, .val (.double d10), .second, .val (.double d8), .second, .val (.int (1 : Int32))]) rfl rfl ?_
        refine g_aload C X24 (pc' := 160) at_158 rfl rfl rfl ?_
        refine g_dload C X24 (pc' := 162) at_160 rfl rfl ?_
        refine g_dload C X24 (pc' := 164) at_162 rfl rfl ?_
        refine g_dload C X24 (pc' := 166) at_164 rfl rfl ?_
        refine g_callV C X24 (c_hs2 l Z a0 hw h y2 d8 d9 d10 _ _ _ D_d8 D_d9 D_d10 E2 F2) (hw _ (List.mem_of_getElem? (i := 11) rfl)) (hw _ (List.mem_of_getElem? (i := 12) rfl)) (hw _ (List.mem_of_getElem? (i := 14) rfl)) (hw _ (List.mem_of_getElem? (i := 13) rfl)) (hw _ (List.mem_of_getElem? (i := 2) rfl)) (hw _ (List.mem_of_getElem? (i := 15) rfl)) (by decide) e24 E2 at_166 rfl pdH [(.double d8), (.double d9), (.double d10)] [] rfl rfl rfl 0 rfl (by decide) (by decide) (by decide) (by decide) rfl ?_
        rintro _ T30 _ X30 ⟨r30, rfl, b30, rfl, e30⟩
        rw [List.append_nil] at X30
        show Go p.tables e below _ T30 (mkF m 169 #[.val (.int p0), .val (.int p1), .val (.int p2), .val (.int p3), .val (.int (2 : Int32)), .val (.ref y2), .val (.double d8), .second, .val (.double d9), .second, .val (.double d10), .second, .val (.double d8), .second, .val (.int (1 : Int32))] [(.int r30)])
        refine g_iload C X30 (pc' := 171) at_169 rfl rfl ?_
        refine g_icmp C X30 at_171 (pc' := 178) (pc'' := 174) (by decide) (by decide) rfl (fun c171 => ?_) (fun c171 => ?_)
        · have c171 : ¬ (r30.toInt = 1) := c171
          refine g_iconst C X30 (pc' := 179) at_178 (v := (0 : Int32)) (by decide) rfl ?_
          exfalso; omega
        · have c171 : r30.toInt = 1 := Decidable.not_not.mp c171
          refine g_iconst C X30 (pc' := 175) at_174 (v := (1 : Int32)) (by decide) rfl ?_
          refine g_goto C X30 at_175 (pc' := 179) (by decide) (by decide) ?_
          exact g_zreturn C X30 at_179 (w := 1) (by decide) ⟨rfl, Fr.nil n0⟩ (by decide) (by decide)
theorem own_eq {args : Array Value} {s : State} {tt : Jvm.Term} {C n d : String} {k : Int32} {a : Addr} (h : (Jvm.Cond.eq (.field tt C n d) (.int k)).value args s none s [] = some true) (ev : tt.eval args s none [] s = some (.ref a)) : s.fieldOf? a C n d = some (.int k) := by
  have e1 := fld_at (C := C) (n := n) (dd := d) ev
  obtain ⟨x, y, q1, q2, q3, q4⟩ := cmp_v (Or.inl h)
  cases (Term.int_eval k).symm.trans q2
  obtain ⟨z, rfl⟩ := q4
  have q5 := gotT (Jvm.Cond.eq_ints q1 q2) h
  rw [← e1, q1, q5]
set_option maxRecDepth 65536 in
set_option maxHeartbeats 40000000 in
theorem comes_1 {Post : Tables → Env → Array Value → State → Outcome → State → Prop} (hpost : ∀ tb e args s v u, (limb_1_1.after args s (.returned v) u = true ∧ limb_1_2.after args s (.returned v) u = true ∧ True) → FrameEnd s (.returned v) u (Jvm.fieldLocs frame_1_writes args s ++ Jvm.arrayLocs frame_1_arrays args s ++ Jvm.staticLocs frame_1_statics s) 0 0 → Post tb e args s (.returned v) u) :
    ArmFor flags0 classFile x code maxLocals ret World_1 tables_1 room_1 Calls_1 rest_1 Pre_1 Post := by
  intro l hfl _ _ p e ha hc hk s m args below hf hA hF happ hP
  obtain ⟨hcalls, hrest, hpre⟩ := hP
  obtain ⟨-, -, -, hnamed, -, -, -, hat⟩ := (Spec.applies_iff hf).mp happ
  obtain ⟨hg, hn⟩ := and_e (Cond.before_iff.mp (show (Jvm.Cond.and given_1 narrow_1).before args s = true from hpre))
  obtain ⟨g_c, g_0⟩ := and_e hg
  obtain ⟨k_0, g_1⟩ := and_e g_0
  obtain ⟨k_1, g_2⟩ := and_e g_1
  obtain ⟨k_2, g_3⟩ := and_e g_2
  have k_3 := g_3
  obtain ⟨w0, w1, w2, w3, rfl⟩ : ∃ w0 w1 w2 w3 : Value, args = #[w0, w1, w2, w3] := by
    have hs : args.size = 4 := by simpa [Cond.value, given_1] using g_c
    obtain ⟨L⟩ := args
    match L, hs with
    | [w0, w1, w2, w3], _ => exact ⟨w0, w1, w2, w3, rfl⟩
  have hw := fun d (hd : d ∈ tables_1) => atoms_spec (ws := Jvm.Cond.code x code maxLocals ret :: tables_1) hat d (List.mem_cons_of_mem _ hd)
  have hfit : Fit s := fun {y c} hc i hi => by
    obtain ⟨ha, rfl⟩ := Array.getElem?_eq_some_iff.mp hc
    have q := List.all_eq_true.mp ((Array.all_eq_true_iff_forall_mem.mp hF) _ (Array.getElem_mem ha)) i (List.mem_range.mpr hi)
    simpa [Array.getElem?_eq_getElem hi] using q
  obtain ⟨p0, q_0⟩ := is_v k_0
  obtain rfl : w0 = (.int p0) := Option.some.inj q_0
  obtain ⟨p1, q_1⟩ := is_v k_1
  obtain rfl : w1 = (.int p1) := Option.some.inj q_1
  obtain ⟨p2, q_2⟩ := is_v k_2
  obtain rfl : w2 = (.int p2) := Option.some.inj q_2
  obtain ⟨p3, q_3⟩ := is_v k_3
  obtain rfl : w3 = (.int p3) := Option.some.inj q_3
  obtain ⟨k0, n1⟩ := and_e hn
  obtain ⟨f0, n2⟩ := and_e n1
  obtain ⟨k1, n3⟩ := and_e n2
  obtain ⟨f1, n4⟩ := and_e n3
  obtain ⟨k2, f2⟩ := and_e n4
  obtain ⟨y0, v0⟩ := exa_v k0
  have S0 := Sta.start v0 (Or.inr ⟨(hw _ (List.mem_of_getElem? (i := 2) rfl)), (hw _ (List.mem_of_getElem? (i := 3) rfl))⟩)
  have E0 := Exa.start v0 k0
  have F0 : Fld s s.heap y0 "java/lang/Enum" "ordinal" "I" (.int (0 : Int32)) := by
    exact Fld.start (own_eq f0 v0)
  obtain ⟨y1, v1⟩ := exa_v k1
  have S1 := Sta.start v1 (Or.inr ⟨(hw _ (List.mem_of_getElem? (i := 2) rfl)), (hw _ (List.mem_of_getElem? (i := 26) rfl))⟩)
  have E1 := Exa.start v1 k1
  have F1 : Fld s s.heap y1 "java/lang/Enum" "ordinal" "I" (.int (1 : Int32)) := by
    exact Fld.start (own_eq f1 v1)
  obtain ⟨y2, v2⟩ := exa_v k2
  have S2 := Sta.start v2 (Or.inr ⟨(hw _ (List.mem_of_getElem? (i := 2) rfl)), (hw _ (List.mem_of_getElem? (i := 28) rfl))⟩)
  have E2 := Exa.start v2 k2
  have F2 : Fld s s.heap y2 "java/lang/Enum" "ordinal" "I" (.int (2 : Int32)) := by
    exact Fld.start (own_eq f2 v2)
  obtain ⟨n, o, h1, h2, h3, _, L, rfl, ⟨rfl, N⟩, hq⟩ := law l s _ hw p0 p1 p2 p3 s.heap s.heap.size (Nat.le_refl _)  y0 S0 E0 F0 y1 S1 E1 F1 y2 S2 E2 F2 tables_1 p e ha hc hk s m _ below hf ((Spec.applies_iff_loose hf).mp happ).1 ⟨rfl, State.Warmed39.refl s, rfl⟩ trivial
  refine ⟨n, _, h1, h2, h3, hpost _ _ _ _ _ _ ⟨Cond.after_iff.mpr rfl, Cond.after_iff.mpr (eq_i res_at (Term.int_eval (1)) rfl), trivial⟩ ⟨hq.1, hq.2.1, (hq.2.2.sift fun y hy => Or.inr (N y hy)).mono (by decide) (by decide)⟩⟩
theorem main_1_1 : Claimed_1_1 := comes_1 fun _ _ _ _ _ _ h hF => ⟨h.1, hF⟩
theorem main_1_2 : Claimed_1_2 := comes_1 fun _ _ _ _ _ _ h hF => ⟨h.2.1, hF⟩
end Jvm.Pilot.@@N@@
namespace Jvm.Pilot.@@N@@
open Jvm Jvm.ClassFile Sem Op Lib Jvm.Free Jvm.Stand Jvm.Pilot.@@N@@.Jvm.D
/-! MADE BY PROGRAM (witnessworld.py) out of the Statement's table words and the real class files: 13 classes; the members and pool entries that the words name. The judged class is class 1, her method 1. -/
namespace start1
open Jvm.ClassFile
def u (s : String) : CpInfo := .utf8 (stringToUtf16 s)
/-- a pool by its gaps: so many unusable entries, then the entry; so many at the end -/
def gap : Nat → List CpInfo → List CpInfo
  | 0, r => r
  | n + 1, r => .unusable :: gap n r
def poolList (es : List (Nat × CpInfo)) (last : Nat) : List CpInfo := es.foldr (fun e r => gap e.1 (e.2 :: r)) (gap last [])
def pool (es : List (Nat × CpInfo)) (last : Nat) : Array CpInfo := ⟨poolList es last⟩
def fileOf (pool : Array CpInfo) (this : Nat) (attrs : Array Attribute := #[]) (ms : Array MethodInfo := #[]) (fl : Nat := 33) (sup : Nat := 0) (ifs : Array Nat := #[]) (fds : Array FieldInfo := #[]) : ClassFile where
  minorVersion := 0
  majorVersion := 65
  constantPool := pool
  accessFlags := fl
  thisClass := this
  superClass := sup
  interfaces := ifs
  fields := fds
  methods := ms
  attributes := attrs
def plain (name : String) (sup : Option ClassId) : Class where
  name := name
  kind := .ordinary
  loader := none
  accessFlags := 33
  super := sup
  interfaces := #[]
  cf := none
  fields := #[]
  methods := #[]
  instanceTypes := #[]
  staticTypes := #[]
  resolved := #[]
  callSites := []
  init := .initialized
  statics := none
  mirror := none

def pool0 : Array CpInfo := pool [(5, u "<init>"), (0, u "()V"), (1, .class_ 10), (1, u "java/lang/Object")] 113

def k0m0 : Method := { name := "<init>", desc := "()V", sig := { parameters := [], returnType := none }, accessFlags := 1, code := none }
/-- java/lang/Object -/
def k0 : Class := { plain "java/lang/Object" none with
  accessFlags := 33
  interfaces := #[]
  cf := some (fileOf pool0 8 #[] #[{ accessFlags := 1, nameIndex := 5, descriptorIndex := 6, attributes := #[] }] 33 0 #[] #[])
  fields := #[]
  methods := #[k0m0]
  instanceTypes := #[]
  staticTypes := #[]
  resolved := Array.replicate 124 none
  statics := none }

def pool1 : Array CpInfo := pool [(2, .class_ 4), (1, u "java/lang/Object"), (0, u "<init>"), (0, u "()V"), (0, .integer 2147483647), (0, .fieldref 9 10), (0, .class_ 11), (0, .nameAndType 12 13), (0, u "com/example/shared_weights/sharedweights/Comparison"), (0, u "EQUAL"), (0, u "Lcom/example/shared_weights/sharedweights/Comparison;"), (0, .fieldref 9 15), (0, .nameAndType 16 13), (0, u "AT_MOST"), (0, .fieldref 9 18), (0, .nameAndType 19 13), (0, u "AT_LEAST"), (0, .methodref 21 22), (0, .class_ 23), (0, .nameAndType 24 25), (0, u "java/lang/Math"), (0, u "min"), (0, u "(II)I"), (0, .methodref 21 27), (0, .nameAndType 28 25), (0, u "max"), (0, .methodref 9 30), (0, .nameAndType 31 32), (0, u "holdsSomewhere"), (0, u "(DDD)Z"), (0, .class_ 34), (0, u "com/example/shared_weights/sharedweights/ComparisonHoldsSomewherePinLaw"), (2, u "law"), (0, u "(IIII)Z")] 3

def k1m0 : Method := { name := "<init>", desc := "()V", sig := { parameters := [], returnType := none }, accessFlags := 1, code := none }
def k1c1 : Code := { maxStack := 7, maxLocals := 15, code := code, exceptionTable := #[], attributes := #[] }
def k1m1 : Method := { name := "law", desc := "(IIII)Z", sig := { parameters := [.int, .int, .int, .int], returnType := some .boolean }, accessFlags := 9, code := some k1c1 }
/-- com/example/shared_weights/sharedweights/ComparisonHoldsSomewherePinLaw -/
def k1 : Class := { plain "com/example/shared_weights/sharedweights/ComparisonHoldsSomewherePinLaw" (some 0) with
  accessFlags := 49
  interfaces := #[]
  cf := some (fileOf pool1 33 #[] #[{ accessFlags := 1, nameIndex := 5, descriptorIndex := 6, attributes := #[] }, { accessFlags := 9, nameIndex := 37, descriptorIndex := 38, attributes := #[] }] 49 2 #[] #[])
  fields := #[]
  methods := #[k1m0, k1m1]
  instanceTypes := #[]
  staticTypes := #[]
  resolved := Array.replicate 42 none
  statics := none }

def pool2 : Array CpInfo := pool [(1, .class_ 2), (0, u "java/lang/constant/Constable"), (0, .class_ 4), (0, u "java/lang/Object")] 6

/-- java/lang/constant/Constable -/
def k2 : Class := { plain "java/lang/constant/Constable" (some 0) with
  accessFlags := 1537
  interfaces := #[]
  cf := some (fileOf pool2 1 #[] #[] 1537 3 #[] #[])
  fields := #[]
  methods := #[]
  instanceTypes := #[]
  staticTypes := #[]
  resolved := Array.replicate 11 none
  statics := none }

def pool3 : Array CpInfo := pool [(1, .class_ 2), (0, u "java/lang/Comparable"), (0, .class_ 4), (0, u "java/lang/Object")] 7

/-- java/lang/Comparable -/
def k3 : Class := { plain "java/lang/Comparable" (some 0) with
  accessFlags := 1537
  interfaces := #[]
  cf := some (fileOf pool3 1 #[] #[] 1537 3 #[] #[])
  fields := #[]
  methods := #[]
  instanceTypes := #[]
  staticTypes := #[]
  resolved := Array.replicate 12 none
  statics := none }

def pool4 : Array CpInfo := pool [(1, .class_ 2), (0, u "java/io/Serializable"), (0, .class_ 4), (0, u "java/lang/Object")] 2

/-- java/io/Serializable -/
def k4 : Class := { plain "java/io/Serializable" (some 0) with
  accessFlags := 1537
  interfaces := #[]
  cf := some (fileOf pool4 1 #[] #[] 1537 3 #[] #[])
  fields := #[]
  methods := #[]
  instanceTypes := #[]
  staticTypes := #[]
  resolved := Array.replicate 7 none
  statics := none }

def pool5 : Array CpInfo := pool [(2, .class_ 4), (1, u "java/lang/Enum"), (0, u "name"), (0, u "Ljava/lang/String;"), (0, .fieldref 2 8), (0, .nameAndType 9 10), (0, u "ordinal"), (0, u "I"), (1, .class_ 14), (1, u "java/lang/Object"), (4, u "hash"), (86, .class_ 108), (1, u "java/lang/Enum$EnumDesc"), (2, .class_ 112), (0, u "java/lang/constant/Constable"), (0, .class_ 114), (0, u "java/lang/Comparable"), (0, .class_ 116), (0, u "java/io/Serializable"), (9, u "()I")] 77

def k5c0 : Code := { maxStack := 1, maxLocals := 1, code := jdk_37_method_2_code, exceptionTable := #[], attributes := #[] }
def k5m0 : Method := { name := "ordinal", desc := "()I", sig := { parameters := [], returnType := some .int }, accessFlags := 17, code := some k5c0 }
/-- java/lang/Enum -/
def k5 : Class := { plain "java/lang/Enum" (some 0) with
  accessFlags := 1057
  interfaces := #[2, 3, 4]
  cf := some (fileOf pool5 2 #[.nestMembers #[106]] #[{ accessFlags := 17, nameIndex := 9, descriptorIndex := 126, attributes := #[] }] 1057 12 #[111, 113, 115] #[{ accessFlags := 18, nameIndex := 5, descriptorIndex := 6, attributes := #[] }, { accessFlags := 18, nameIndex := 9, descriptorIndex := 10, attributes := #[] }, { accessFlags := 2, nameIndex := 19, descriptorIndex := 10, attributes := #[] }])
  fields := #[{ name := "name", type := (.object "java/lang/String"), accessFlags := 18, slot := 0, constantValue := 0 }, { name := "ordinal", type := .int, accessFlags := 18, slot := 1, constantValue := 0 }, { name := "hash", type := .int, accessFlags := 2, slot := 2, constantValue := 0 }]
  methods := #[k5m0]
  instanceTypes := #[(.object "java/lang/String"), .int, .int]
  staticTypes := #[]
  resolved := Array.replicate 204 none
  statics := none }

def pool6 : Array CpInfo := pool [(1, .class_ 2), (0, u "com/example/shared_weights/sharedweights/Comparison"), (2, u "EQUAL"), (0, u "Lcom/example/shared_weights/sharedweights/Comparison;"), (2, u "AT_MOST"), (2, u "AT_LEAST"), (2, u "$VALUES"), (0, u "[Lcom/example/shared_weights/sharedweights/Comparison;"), (6, .class_ 25), (1, u "java/lang/Enum"), (8, u "symbol"), (0, u "Ljava/lang/String;"), (19, .methodref 1 56), (0, .nameAndType 57 58), (0, u "ordinal"), (0, u "()I"), (38, u "holdsSomewhere"), (0, u "(DDD)Z")] 22

def k6c0 : Code := { maxStack := 4, maxLocals := 7, code := prog_11_method_6_code, exceptionTable := #[], attributes := #[] }
def k6m0 : Method := { name := "holdsSomewhere", desc := "(DDD)Z", sig := { parameters := [.double, .double, .double], returnType := some .boolean }, accessFlags := 0, code := some k6c0 }
/-- com/example/shared_weights/sharedweights/Comparison -/
def k6 : Class := { plain "com/example/shared_weights/sharedweights/Comparison" (some 5) with
  accessFlags := 16432
  interfaces := #[]
  cf := some (fileOf pool6 1 #[] #[{ accessFlags := 0, nameIndex := 97, descriptorIndex := 98, attributes := #[] }] 16432 23 #[] #[{ accessFlags := 16409, nameIndex := 5, descriptorIndex := 6, attributes := #[] }, { accessFlags := 16409, nameIndex := 9, descriptorIndex := 6, attributes := #[] }, { accessFlags := 16409, nameIndex := 12, descriptorIndex := 6, attributes := #[] }, { accessFlags := 18, nameIndex := 34, descriptorIndex := 35, attributes := #[] }, { accessFlags := 4122, nameIndex := 15, descriptorIndex := 16, attributes := #[] }])
  fields := #[{ name := "EQUAL", type := (.object "com/example/shared_weights/sharedweights/Comparison"), accessFlags := 16409, slot := 0, constantValue := 0 }, { name := "AT_MOST", type := (.object "com/example/shared_weights/sharedweights/Comparison"), accessFlags := 16409, slot := 1, constantValue := 0 }, { name := "AT_LEAST", type := (.object "com/example/shared_weights/sharedweights/Comparison"), accessFlags := 16409, slot := 2, constantValue := 0 }, { name := "symbol", type := (.object "java/lang/String"), accessFlags := 18, slot := 3, constantValue := 0 }, { name := "$VALUES", type := (.array (.object "com/example/shared_weights/sharedweights/Comparison")), accessFlags := 4122, slot := 3, constantValue := 0 }]
  methods := #[k6m0]
  instanceTypes := #[(.object "java/lang/String"), .int, .int, (.object "java/lang/String")]
  staticTypes := #[(.object "com/example/shared_weights/sharedweights/Comparison"), (.object "com/example/shared_weights/sharedweights/Comparison"), (.object "com/example/shared_weights/sharedweights/Comparison"), (.array (.object "com/example/shared_weights/sharedweights/Comparison"))]
  resolved := Array.replicate 121 none
  statics := some 0 }

def pool7 : Array CpInfo := pool [(1, .class_ 2), (0, u "java/lang/Math"), (1, .class_ 6), (1, u "java/lang/Object"), (0, u "<init>"), (0, u "()V"), (89, .class_ 100), (1, u "java/lang/Math$RandomNumberGeneratorHolder"), (71, u "negativeZeroFloatBits"), (0, u "J"), (2, u "negativeZeroDoubleBits"), (21, u "max"), (2, u "min"), (43, u "$assertionsDisabled"), (0, u "Z"), (88, u "(II)I"), (2, u "twoToTheDoubleScaleDown"), (0, u "D"), (4, u "twoToTheDoubleScaleUp"), (9, u "E"), (3, u "PI"), (2, u "TAU"), (2, u "DEGREES_TO_RADIANS"), (0, u "RADIANS_TO_DEGREES")] 94

def k7m0 : Method := { name := "<init>", desc := "()V", sig := { parameters := [], returnType := none }, accessFlags := 2, code := none }
def k7c1 : Code := { maxStack := 2, maxLocals := 2, code := jdk_29_method_65_code, exceptionTable := #[], attributes := #[] }
def k7m1 : Method := { name := "max", desc := "(II)I", sig := { parameters := [.int, .int], returnType := some .int }, accessFlags := 9, code := some k7c1 }
def k7c2 : Code := { maxStack := 2, maxLocals := 2, code := jdk_29_method_69_code, exceptionTable := #[], attributes := #[] }
def k7m2 : Method := { name := "min", desc := "(II)I", sig := { parameters := [.int, .int], returnType := some .int }, accessFlags := 9, code := some k7c2 }
/-- java/lang/Math -/
def k7 : Class := { plain "java/lang/Math" (some 0) with
  accessFlags := 49
  interfaces := #[]
  cf := some (fileOf pool7 1 #[.nestMembers #[98]] #[{ accessFlags := 2, nameIndex := 7, descriptorIndex := 8, attributes := #[] }, { accessFlags := 9, nameIndex := 198, descriptorIndex := 335, attributes := #[] }, { accessFlags := 9, nameIndex := 201, descriptorIndex := 335, attributes := #[] }] 49 4 #[] #[{ accessFlags := 25, nameIndex := 354, descriptorIndex := 339, attributes := #[] }, { accessFlags := 25, nameIndex := 358, descriptorIndex := 339, attributes := #[] }, { accessFlags := 25, nameIndex := 361, descriptorIndex := 339, attributes := #[] }, { accessFlags := 26, nameIndex := 364, descriptorIndex := 339, attributes := #[] }, { accessFlags := 26, nameIndex := 365, descriptorIndex := 339, attributes := #[] }, { accessFlags := 26, nameIndex := 172, descriptorIndex := 173, attributes := #[] }, { accessFlags := 26, nameIndex := 176, descriptorIndex := 173, attributes := #[] }, { accessFlags := 8, nameIndex := 344, descriptorIndex := 339, attributes := #[] }, { accessFlags := 8, nameIndex := 338, descriptorIndex := 339, attributes := #[] }, { accessFlags := 4120, nameIndex := 245, descriptorIndex := 246, attributes := #[] }])
  fields := #[{ name := "E", type := .double, accessFlags := 25, slot := 0, constantValue := 0 }, { name := "PI", type := .double, accessFlags := 25, slot := 1, constantValue := 0 }, { name := "TAU", type := .double, accessFlags := 25, slot := 2, constantValue := 0 }, { name := "DEGREES_TO_RADIANS", type := .double, accessFlags := 26, slot := 3, constantValue := 0 }, { name := "RADIANS_TO_DEGREES", type := .double, accessFlags := 26, slot := 4, constantValue := 0 }, { name := "negativeZeroFloatBits", type := .long, accessFlags := 26, slot := 5, constantValue := 0 }, { name := "negativeZeroDoubleBits", type := .long, accessFlags := 26, slot := 6, constantValue := 0 }, { name := "twoToTheDoubleScaleUp", type := .double, accessFlags := 8, slot := 7, constantValue := 0 }, { name := "twoToTheDoubleScaleDown", type := .double, accessFlags := 8, slot := 8, constantValue := 0 }, { name := "$assertionsDisabled", type := .boolean, accessFlags := 4120, slot := 9, constantValue := 0 }]
  methods := #[k7m0, k7m1, k7m2]
  instanceTypes := #[]
  staticTypes := #[.double, .double, .double, .double, .double, .long, .long, .double, .double, .boolean]
  resolved := Array.replicate 460 none
  statics := none }

def pool8 : Array CpInfo := pool [(1, u "java/lang/Cloneable"), (0, .class_ 1), (0, u "java/lang/Object"), (0, .class_ 3)] 3

/-- java/lang/Cloneable -/
def k8 : Class := { plain "java/lang/Cloneable" (some 0) with
  accessFlags := 1537
  interfaces := #[]
  cf := some (fileOf pool8 2 #[] #[] 1537 4 #[] #[])
  fields := #[]
  methods := #[]
  instanceTypes := #[]
  staticTypes := #[]
  resolved := Array.replicate 8 none
  statics := none }

/-- the primitive byte -/
def k9 : Class := { plain "byte" none with kind := .primitive 'B', accessFlags := 0x411 }
/-- [B -/
def k10 : Class := { plain "[B" (some 0) with kind := .array 9 .byte, interfaces := #[8, 4], accessFlags := 1041 }

/-- the primitive int -/
def k11 : Class := { plain "int" none with kind := .primitive 'I', accessFlags := 0x411 }
/-- [I -/
def k12 : Class := { plain "[I" (some 0) with kind := .array 11 .int, interfaces := #[8, 4], accessFlags := 1041 }

def heap : Heap := #[{ cls := 6, slots := #[.ref 1, .ref 2, .ref 3, .null], vm := .statics 6 },
  { cls := 6, slots := #[.null, .int 0, .int 0, .null], vm := .none },
  { cls := 6, slots := #[.null, .int 1, .int 0, .null], vm := .none },
  { cls := 6, slots := #[.null, .int 2, .int 0, .null], vm := .none }]
def classes : Array Class := #[k0, k1, k2, k3, k4, k5, k6, k7, k8, k9, k10, k11, k12]
def interned : List (Array UInt16 × Addr) := []
def slotsUsed : Nat := 16
def theMethod : MethodId := ⟨1, 1⟩
def args0 : Array Value := #[.int 3, .int 7, .int 2, .int 4]
def aboutOver (below : List Frame) : State where
  vm := { classes := classes, interned := interned.toArray }
  heap := heap
  slotsUsed := slotsUsed
  threads := #[{ frames := .invoking theMethod args0 :: below }]
def below0 : List Frame := [.native { method := ⟨0, 0⟩, args := #[] }]
def about1 : State := aboutOver below0
def p0 : Program := .bare "" "" ""
def e0 : Env := launch0.env 0 0 0
theorem w_frames : about1.frames = Frame.invoking theMethod args0 :: below0 := rfl
set_option maxRecDepth 65536 in
theorem w_args : argsFit about1.vm theMethod args0 = true := by decide +kernel
set_option maxRecDepth 65536 in
theorem w_heap : heapFits about1 = true := by decide +kernel
set_option maxRecDepth 65536 in
theorem w_runnable : about1.curStatus? = some .runnable := by decide +kernel
set_option maxRecDepth 65536 in
theorem w_alone : about1.alone = true := by decide +kernel
set_option maxRecDepth 65536 in
theorem w_named : about1.methodNamed? x = some theMethod := by decide +kernel
set_option maxRecDepth 65536 in
theorem w_hears : about1.hears theMethod below0 = true := by decide +kernel
set_option maxRecDepth 65536 in
theorem w_ripe : about1.ripe theMethod args0 below0 = true := by decide +kernel
theorem w_running : about1.status = .running := rfl
set_option maxRecDepth 65536 in
theorem w_room : about1.hasRoom e0.platform room_1 = true :=
  launch0.hasRoom_least _ room_1 (by decide +kernel) (by decide +kernel) (by decide +kernel) (by decide +kernel) (by decide +kernel) (by decide +kernel)
theorem allAtoms_all (ts : List Jvm.Cond) (a : Array Jvm.Value) (st : Jvm.State) : (allAtoms ts).before a st = ts.all (fun c => c.before a st) := by
  induction ts with
  | nil => rfl
  | cons c t ih =>
    show (Jvm.Cond.and c (allAtoms t)).before a st = _
    rw [Jvm.Cond.before_and, ih, List.all_cons]
def words1 : List Jvm.Cond := Jvm.Cond.code x code maxLocals ret :: tables_1
/-- a 'code' word, met by the world's own term for the bytes: nothing is compared byte by byte -/
theorem code_word {y : MethodName} {bytes : ByteArray} {mx : Nat} {rt : Option FieldType} {a : Array Value} {s : State} {m : MethodId} {meth : Method} {c : Code} (h1 : s.methodNamed? y = some m) (h2 : s.vm.method? m = some meth) (h3 : meth.code = some c) (h4 : c.code = bytes)
    (h5 : (c.maxLocals == mx && c.exceptionTable.isEmpty && decide (c.maxStack ≤ mostOperands) && decide (meth.sig.returnType = rt) && !meth.locks && decide (parseMethodDescriptor y.desc = some meth.sig)) = true) : (Jvm.Cond.code y bytes mx rt).before a s = true := by
  simp only [Bool.and_eq_true, beq_iff_eq, Bool.not_eq_true', decide_eq_true_eq] at h5
  obtain ⟨⟨⟨⟨⟨g1, g2⟩, g3⟩, g4⟩, g5⟩, g6⟩ := h5
  simp [Cond.before, Cond.holds, Cond.value, h1, h2, h3, h4, g1, g2, g3, g4, g5, g6]
def isCode : Jvm.Cond → Bool
  | .code _ _ _ _ => true
  | _ => false
theorem all_split {L : List Jvm.Cond} {P : Jvm.Cond → Bool} (h1 : L.all (fun c => isCode c || P c) = true) (h2 : ∀ c ∈ L.filter isCode, P c = true) : L.all P = true := by
  refine List.all_eq_true.mpr fun c hc => ?_
  have h := List.all_eq_true.mp h1 c hc
  rcases Bool.eq_false_or_eq_true (isCode c) with hi | hi
  · exact h2 c (List.mem_filter.mpr ⟨hc, hi⟩)
  · simpa [hi] using h
set_option maxRecDepth 65536 in
theorem w_c0 : (Jvm.Cond.code x code maxLocals ret).before args0 about1 = true := code_word (m := ⟨1, 1⟩) (meth := k1m1) (c := k1c1) (by decide +kernel) rfl rfl rfl (by decide +kernel)
set_option maxRecDepth 65536 in
theorem w_c1 : (Jvm.Cond.code ({ cls := "java/lang/Math", name := "min", desc := "(II)I" } : Jvm.MethodName) jdk_29_method_69_code (2 : Nat) (Option.some Jvm.ClassFile.FieldType.int)).before args0 about1 = true := code_word (m := ⟨7, 2⟩) (meth := k7m2) (c := k7c2) (by decide +kernel) rfl rfl rfl (by decide +kernel)
set_option maxRecDepth 65536 in
theorem w_c2 : (Jvm.Cond.code ({ cls := "java/lang/Math", name := "max", desc := "(II)I" } : Jvm.MethodName) jdk_29_method_65_code (2 : Nat) (Option.some Jvm.ClassFile.FieldType.int)).before args0 about1 = true := code_word (m := ⟨7, 1⟩) (meth := k7m1) (c := k7c1) (by decide +kernel) rfl rfl rfl (by decide +kernel)
set_option maxRecDepth 65536 in
theorem w_c3 : (Jvm.Cond.code ({ cls := "com/example/shared_weights/sharedweights/Comparison", name := "holdsSomewhere", desc := "(DDD)Z" } : Jvm.MethodName) prog_11_method_6_code (7 : Nat) (Option.some Jvm.ClassFile.FieldType.boolean)).before args0 about1 = true := code_word (m := ⟨6, 0⟩) (meth := k6m0) (c := k6c0) (by decide +kernel) rfl rfl rfl (by decide +kernel)
set_option maxRecDepth 65536 in
theorem w_c4 : (Jvm.Cond.code ({ cls := "java/lang/Enum", name := "ordinal", desc := "()I" } : Jvm.MethodName) jdk_37_method_2_code (1 : Nat) (Option.some Jvm.ClassFile.FieldType.int)).before args0 about1 = true := code_word (m := ⟨5, 0⟩) (meth := k5m0) (c := k5c0) (by decide +kernel) rfl rfl rfl (by decide +kernel)
def codes1 : List Jvm.Cond := [Jvm.Cond.code x code maxLocals ret, Jvm.Cond.code ({ cls := "java/lang/Math", name := "min", desc := "(II)I" } : Jvm.MethodName) jdk_29_method_69_code (2 : Nat) (Option.some Jvm.ClassFile.FieldType.int), Jvm.Cond.code ({ cls := "java/lang/Math", name := "max", desc := "(II)I" } : Jvm.MethodName) jdk_29_method_65_code (2 : Nat) (Option.some Jvm.ClassFile.FieldType.int), Jvm.Cond.code ({ cls := "com/example/shared_weights/sharedweights/Comparison", name := "holdsSomewhere", desc := "(DDD)Z" } : Jvm.MethodName) prog_11_method_6_code (7 : Nat) (Option.some Jvm.ClassFile.FieldType.boolean), Jvm.Cond.code ({ cls := "java/lang/Enum", name := "ordinal", desc := "()I" } : Jvm.MethodName) jdk_37_method_2_code (1 : Nat) (Option.some Jvm.ClassFile.FieldType.int)]
set_option maxRecDepth 65536 in
theorem codes_eq : words1.filter isCode = codes1 := rfl
theorem w_codes : ∀ c ∈ words1.filter isCode, c.before args0 about1 = true := by
  rw [codes_eq]
  intro c hc
  simp only [codes1, List.mem_cons, List.not_mem_nil, or_false] at hc
  rcases hc with rfl | rfl | rfl | rfl | rfl
  · exact w_c0
  · exact w_c1
  · exact w_c2
  · exact w_c3
  · exact w_c4
set_option maxRecDepth 65536 in
theorem w_t1 : (words1.take 24).all (fun c => isCode c || c.before args0 about1) = true := by decide +kernel
set_option maxRecDepth 65536 in
theorem w_t2 : (words1.drop 24).all (fun c => isCode c || c.before args0 about1) = true := by decide +kernel
theorem w_tables : (allAtoms (Jvm.Cond.code x code maxLocals ret :: tables_1)).before args0 about1 = true := by
  rw [allAtoms_all]
  show words1.all (fun c => c.before args0 about1) = true
  refine all_split ?_ w_codes
  rw [← List.take_append_drop 24 words1, List.all_append, w_t1, w_t2]
  rfl
set_option maxRecDepth 65536 in
theorem w_case : (Jvm.Cond.and given_1 narrow_1).before args0 about1 = true := by decide +kernel
theorem w_applies : (headSpec (Jvm.Cond.code x code maxLocals ret :: tables_1) room_1).applies x e0.platform about1 = true :=
  (Spec.applies_iff w_frames).mpr ⟨w_running, w_runnable, w_alone, w_named, w_hears, w_ripe, w_room, w_tables⟩
theorem atStart : AtStart classFile x code maxLocals ret World_1 tables_1 room_1 Calls_1 rest_1 Pre_1 launch0 p0 e0 about1 theMethod args0 below0 :=
  ⟨lists_1, trivial, launch0.admits_env _ _ _, launch0.least_env, fairChoices_fair.cas, fairChoices_fair.clock, w_frames, w_args, w_heap, w_applies, trivial, trivial, w_case⟩
end start1
theorem witness_1 : WitnessClaimed_1 := ⟨start1.p0, start1.e0, start1.about1, start1.theMethod, start1.args0, start1.below0, start1.atStart⟩
end Jvm.Pilot.@@N@@
