import JvmDerived
import JvmDerived.Pilot.@@N@@Statement
import JvmDerived.Pilot.@@N@@Code
set_option linter.unusedVariables false
set_option linter.unusedSimpArgs false
namespace Jvm.OwnKit
open Sem ClassFile Op Lib Jvm.Stand Jvm.Free Jvm.LawKit Jvm.RoadKit
section Walk
variable {p : Program} {l : Launch} {e : Env} {R : Room} {s : State} {m : MethodId} {args : Array Value} {below : List Frame} {meth : Method} {c : Code} {T : State} {locs : List Loc} {cells slots : Nat} {Z : State} {a0 : Array Value} {h : Heap} {G : Outcome → State → Prop}
variable {x0 : MethodName} {code : ByteArray} {maxL : Nat} {ret : Option FieldType}
/-- what is still owed from the frame g on: the run ends, and G holds of the end -/
def Go (tb : Tables) (e : Env) (below : List Frame) (G : Outcome → State → Prop) (T : State) (g : JFrame) : Prop :=
  ∃ s₂ o, Steps tb e below (T.setTop g) s₂ ∧ s₂.status = .running ∧ Ended s₂ below o ∧ G o s₂
theorem Go.step {tb : Tables} {T T' : State} {g g' : JFrame} (q : ∀ t, Steps tb e below (T'.setTop g') t → Steps tb e below (T.setTop g) t) (k : Go tb e below G T' g') : Go tb e below G T g := by
  obtain ⟨s2, o, h1, h2⟩ := k
  exact ⟨s2, o, q _ h1, h2⟩
/-- what stands still while one body is walked -/
def Cx (p : Program) (l : Launch) (s : State) (m : MethodId) (meth : Method) (c : Code) (Z : State) (x0 : MethodName) (code : ByteArray) (maxL : Nat) (ret : Option FieldType) : Prop :=
  p.tables.exec = Jvm.exec ∧ Z.Warmed39 s.vm ∧ c.code = code ∧ c.maxLocals = maxL ∧ s.vm.findClass x0.cls = some m.cls ∧ meth.sig.returnType = ret ∧ meth.locks = false ∧ meth.name = x0.name
theorem Cx.exec (C : Cx p l s m meth c Z x0 code maxL ret) : p.tables.exec = Jvm.exec := C.1
theorem Cx.warm (C : Cx p l s m meth c Z x0 code maxL ret) : Z.Warmed39 s.vm := C.2.1
theorem Cx.bytes (C : Cx p l s m meth c Z x0 code maxL ret) : c.code = code := C.2.2.1
theorem Cx.maxl (C : Cx p l s m meth c Z x0 code maxL ret) : c.maxLocals = maxL := C.2.2.2.1
theorem Cx.own (C : Cx p l s m meth c Z x0 code maxL ret) : s.vm.findClass x0.cls = some m.cls := C.2.2.2.2.1
theorem Cx.rets (C : Cx p l s m meth c Z x0 code maxL ret) : meth.sig.returnType = ret := C.2.2.2.2.2.1
theorem Cx.unlocked (C : Cx p l s m meth c Z x0 code maxL ret) : meth.locks = false := C.2.2.2.2.2.2.1
theorem Cx.nm (C : Cx p l s m meth c Z x0 code maxL ret) : meth.name = x0.name := C.2.2.2.2.2.2.2
theorem Cx.at (C : Cx p l s m meth c Z x0 code maxL ret) {pc : Nat} {r : Except ClassFile.DecodeError (ClassFile.Instr × Nat)} (h2 : decode code pc = r) : decode c.code pc = r := hb C.bytes h2
/-- the end of a walk: what is returned, the heap and the places written answer Q -/
def End (s : State) (Q : Option Value → Heap → List Loc → Prop) (k n : Nat) (o : Outcome) (U : State) : Prop := ∃ v L, o = .returned v ∧ Q v U.heap L ∧ FrameEnd s o U L k n
/-- a body's contract at one call: the arguments as, the heap h -/
def Con (l : Launch) (Z : State) (y : MethodName) (bytes : ByteArray) (maxL : Nat) (ret : Option FieldType) (rm : Room) (as : Array Value) (h : Heap) (Q : Option Value → Heap → List Loc → Prop) : Prop :=
  ∀ ws, MetFree l y (head1 (Cond.code y bytes maxL ret :: ws) rm) (fun a U => a = as ∧ Z.Warmed39 U.vm ∧ U.heap = h) (fun _ _ _ _ _ => True) (fun _ U o U' => End U Q rm.cells rm.slots o U')
theorem con_of_go {rm : Room} {as : Array Value} {Q : Option Value → Heap → List Loc → Prop} {Ls : Array Slot} (hn : plainName x0.cls = true) (hef : ∀ m, entryFrame m as maxL = mkF m 0 Ls [])
    (H : ∀ (p : Program) (e : Env) (s : State) (m : MethodId) (below : List Frame) (meth : Method) (c : Code) (T : State), Cx p l s m meth c Z x0 code maxL ret → Stand p l e rm s m as below meth c T [] 0 0 → T.heap = h → Go p.tables e below (End s Q rm.cells rm.slots) T (mkF m 0 Ls [])) :
    Con l Z x0 code maxL ret rm as h Q := by
  intro ws
  refine MetFree.of_bodySF (plainFor_of_name hn) hisR ?_
  intro p e s m args below meth c s₁ Bd hml hP hK
  obtain ⟨rfl, hZ, hh⟩ := hP
  have X0 : Stand p l e rm s m args below meth c s₁ [] 0 0 := Stand.of_body Bd
  have e0 : s₁.heap = h := by rw [← hh, Bd.state]; rfl
  have q := H p e s m below meth c s₁ ⟨Bd.exec, hZ, Bd.bytes, hml, findClass_of_methodNamed Bd.named, Bd.returns, Bd.notSynchronized, (name_of_methodNamed Bd.named Bd.method).1⟩ X0 e0
  rw [hef]
  exact q
theorem g_aloadN (C : Cx p l s m meth c Z x0 code maxL ret) (X : Stand p l e R s m args below meth c T locs cells slots) {pc pc' : Nat} {Ls : Array Slot} {st : List Value} {k : Fin 4} {v : Value} (hd : decode code pc = .ok (.aload_n k, 1)) (hl : Ls[k.val]? = some (.val v)) (hv : v.isRef = true) (hp : pc + 1 = pc')
    (K : Go p.tables e below G T (mkF m pc' Ls (v :: st))) : Go p.tables e below G T (mkF m pc Ls (st)) := by
  subst hp; exact Go.step (fun _ k => XS.aloadN X.here C.exec rfl (C.at hd) hl hv k) K
theorem g_aload (C : Cx p l s m meth c Z x0 code maxL ret) (X : Stand p l e R s m args below meth c T locs cells slots) {pc pc' : Nat} {Ls : Array Slot} {st : List Value} {k : Nat} {v : Value} (hd : decode code pc = .ok (.aload k, 2)) (hl : Ls[k]? = some (.val v)) (hv : v.isRef = true) (hp : pc + 2 = pc')
    (K : Go p.tables e below G T (mkF m pc' Ls (v :: st))) : Go p.tables e below G T (mkF m pc Ls (st)) := by
  subst hp; exact Go.step (fun _ k => XS.aload X.here C.exec rfl (C.at hd) hl hv k) K
theorem g_iloadN (C : Cx p l s m meth c Z x0 code maxL ret) (X : Stand p l e R s m args below meth c T locs cells slots) {pc pc' : Nat} {Ls : Array Slot} {st : List Value} {k : Fin 4} {v : Int32} (hd : decode code pc = .ok (.iload_n k, 1)) (hl : Ls[k.val]? = some (.val (.int v))) (hp : pc + 1 = pc')
    (K : Go p.tables e below G T (mkF m pc' Ls (.int v :: st))) : Go p.tables e below G T (mkF m pc Ls (st)) := by
  subst hp; exact Go.step (fun _ k => XS.iloadN X.here C.exec rfl (C.at hd) hl k) K
theorem g_iload (C : Cx p l s m meth c Z x0 code maxL ret) (X : Stand p l e R s m args below meth c T locs cells slots) {pc pc' : Nat} {Ls : Array Slot} {st : List Value} {k : Nat} {v : Int32} (hd : decode code pc = .ok (.iload k, 2)) (hl : Ls[k]? = some (.val (.int v))) (hp : pc + 2 = pc')
    (K : Go p.tables e below G T (mkF m pc' Ls (.int v :: st))) : Go p.tables e below G T (mkF m pc Ls (st)) := by
  subst hp; exact Go.step (fun _ k => XS.iload X.here C.exec rfl (C.at hd) hl k) K
theorem g_istoreN (C : Cx p l s m meth c Z x0 code maxL ret) (X : Stand p l e R s m args below meth c T locs cells slots) {pc pc' : Nat} {Ls : Array Slot} {st : List Value} {k : Fin 4} {x y : Int32} {l' : Array Slot} (hd : decode code pc = .ok (.istore_n k, 1)) (hv : x = y) (hl : storeLocals Ls k.val (.int x) = some l') (hp : pc + 1 = pc')
    (K : Go p.tables e below G T (mkF m pc' l' (st))) : Go p.tables e below G T (mkF m pc Ls (.int y :: st)) := by
  subst hp; subst hv; exact Go.step (fun _ k => XS.istoreN X.here C.exec rfl (C.at hd) rfl hl k) K
theorem g_istore (C : Cx p l s m meth c Z x0 code maxL ret) (X : Stand p l e R s m args below meth c T locs cells slots) {pc pc' : Nat} {Ls : Array Slot} {st : List Value} {k : Nat} {x y : Int32} {l' : Array Slot} (hd : decode code pc = .ok (.istore k, 2)) (hv : x = y) (hl : storeLocals Ls k (.int x) = some l') (hp : pc + 2 = pc')
    (K : Go p.tables e below G T (mkF m pc' l' (st))) : Go p.tables e below G T (mkF m pc Ls (.int y :: st)) := by
  subst hp; subst hv; exact Go.step (fun _ k => XS.istore X.here C.exec rfl (C.at hd) rfl hl k) K
theorem g_lloadN (C : Cx p l s m meth c Z x0 code maxL ret) (X : Stand p l e R s m args below meth c T locs cells slots) {pc pc' : Nat} {Ls : Array Slot} {st : List Value} {k : Fin 4} {v : Int64} (hd : decode code pc = .ok (.lload_n k, 1)) (hl : Ls[k.val]? = some (.val (.long v))) (hp : pc + 1 = pc')
    (K : Go p.tables e below G T (mkF m pc' Ls (.long v :: st))) : Go p.tables e below G T (mkF m pc Ls (st)) := by
  subst hp; exact Go.step (fun _ k => XT.lloadN X.here C.exec rfl (C.at hd) hl k) K
theorem g_lload (C : Cx p l s m meth c Z x0 code maxL ret) (X : Stand p l e R s m args below meth c T locs cells slots) {pc pc' : Nat} {Ls : Array Slot} {st : List Value} {k : Nat} {v : Int64} (hd : decode code pc = .ok (.lload k, 2)) (hl : Ls[k]? = some (.val (.long v))) (hp : pc + 2 = pc')
    (K : Go p.tables e below G T (mkF m pc' Ls (.long v :: st))) : Go p.tables e below G T (mkF m pc Ls (st)) := by
  subst hp; exact Go.step (fun _ k => XT.lload X.here C.exec rfl (C.at hd) hl k) K
theorem g_lstoreN (C : Cx p l s m meth c Z x0 code maxL ret) (X : Stand p l e R s m args below meth c T locs cells slots) {pc pc' : Nat} {Ls : Array Slot} {st : List Value} {k : Fin 4} {x y : Int64} {l' : Array Slot} (hd : decode code pc = .ok (.lstore_n k, 1)) (hv : x = y) (hl : storeLocals Ls k.val (.long x) = some l') (hp : pc + 1 = pc')
    (K : Go p.tables e below G T (mkF m pc' l' (st))) : Go p.tables e below G T (mkF m pc Ls (.long y :: st)) := by
  subst hp; subst hv; exact Go.step (fun _ k => XT.lstoreN X.here C.exec rfl (C.at hd) rfl hl k) K
theorem g_lstore (C : Cx p l s m meth c Z x0 code maxL ret) (X : Stand p l e R s m args below meth c T locs cells slots) {pc pc' : Nat} {Ls : Array Slot} {st : List Value} {k : Nat} {x y : Int64} {l' : Array Slot} (hd : decode code pc = .ok (.lstore k, 2)) (hv : x = y) (hl : storeLocals Ls k (.long x) = some l') (hp : pc + 2 = pc')
    (K : Go p.tables e below G T (mkF m pc' l' (st))) : Go p.tables e below G T (mkF m pc Ls (.long y :: st)) := by
  subst hp; subst hv; exact Go.step (fun _ k => XT.lstore X.here C.exec rfl (C.at hd) rfl hl k) K
theorem g_dloadN (C : Cx p l s m meth c Z x0 code maxL ret) (X : Stand p l e R s m args below meth c T locs cells slots) {pc pc' : Nat} {Ls : Array Slot} {st : List Value} {k : Fin 4} {v : UInt64} (hd : decode code pc = .ok (.dload_n k, 1)) (hl : Ls[k.val]? = some (.val (.double v))) (hp : pc + 1 = pc')
    (K : Go p.tables e below G T (mkF m pc' Ls (.double v :: st))) : Go p.tables e below G T (mkF m pc Ls (st)) := by
  subst hp; exact Go.step (fun _ k => XS.dloadN X.here C.exec rfl (C.at hd) hl k) K
theorem g_dload (C : Cx p l s m meth c Z x0 code maxL ret) (X : Stand p l e R s m args below meth c T locs cells slots) {pc pc' : Nat} {Ls : Array Slot} {st : List Value} {k : Nat} {v : UInt64} (hd : decode code pc = .ok (.dload k, 2)) (hl : Ls[k]? = some (.val (.double v))) (hp : pc + 2 = pc')
    (K : Go p.tables e below G T (mkF m pc' Ls (.double v :: st))) : Go p.tables e below G T (mkF m pc Ls (st)) := by
  subst hp; exact Go.step (fun _ k => XS.dload X.here C.exec rfl (C.at hd) hl k) K
theorem g_dstoreN (C : Cx p l s m meth c Z x0 code maxL ret) (X : Stand p l e R s m args below meth c T locs cells slots) {pc pc' : Nat} {Ls : Array Slot} {st : List Value} {k : Fin 4} {x y : UInt64} {l' : Array Slot} (hd : decode code pc = .ok (.dstore_n k, 1)) (hv : x = y) (hl : storeLocals Ls k.val (.double x) = some l') (hp : pc + 1 = pc')
    (K : Go p.tables e below G T (mkF m pc' l' (st))) : Go p.tables e below G T (mkF m pc Ls (.double y :: st)) := by
  subst hp; subst hv; exact Go.step (fun _ k => XS.dstoreN X.here C.exec rfl (C.at hd) rfl hl k) K
theorem g_dstore (C : Cx p l s m meth c Z x0 code maxL ret) (X : Stand p l e R s m args below meth c T locs cells slots) {pc pc' : Nat} {Ls : Array Slot} {st : List Value} {k : Nat} {x y : UInt64} {l' : Array Slot} (hd : decode code pc = .ok (.dstore k, 2)) (hv : x = y) (hl : storeLocals Ls k (.double x) = some l') (hp : pc + 2 = pc')
    (K : Go p.tables e below G T (mkF m pc' l' (st))) : Go p.tables e below G T (mkF m pc Ls (.double y :: st)) := by
  subst hp; subst hv; exact Go.step (fun _ k => XS.dstore X.here C.exec rfl (C.at hd) rfl hl k) K
theorem g_astoreN (C : Cx p l s m meth c Z x0 code maxL ret) (X : Stand p l e R s m args below meth c T locs cells slots) {pc pc' : Nat} {Ls : Array Slot} {st : List Value} {k : Fin 4} {v : Value} {l' : Array Slot} (hd : decode code pc = .ok (.astore_n k, 1)) (hv : v.isRef = true) (hl : storeLocals Ls k.val v = some l') (hp : pc + 1 = pc')
    (K : Go p.tables e below G T (mkF m pc' l' (st))) : Go p.tables e below G T (mkF m pc Ls (v :: st)) := by
  subst hp; exact Go.step (fun _ k => XS.astoreN X.here C.exec rfl (C.at hd) rfl hv hl k) K
theorem g_astore (C : Cx p l s m meth c Z x0 code maxL ret) (X : Stand p l e R s m args below meth c T locs cells slots) {pc pc' : Nat} {Ls : Array Slot} {st : List Value} {k : Nat} {v : Value} {l' : Array Slot} (hd : decode code pc = .ok (.astore k, 2)) (hv : v.isRef = true) (hl : storeLocals Ls k v = some l') (hp : pc + 2 = pc')
    (K : Go p.tables e below G T (mkF m pc' l' (st))) : Go p.tables e below G T (mkF m pc Ls (v :: st)) := by
  subst hp; exact Go.step (fun _ k => XS.astore X.here C.exec rfl (C.at hd) rfl hv hl k) K
theorem g_iconst (C : Cx p l s m meth c Z x0 code maxL ret) (X : Stand p l e R s m args below meth c T locs cells slots) {pc pc' : Nat} {Ls : Array Slot} {st : List Value} {i : Int} {v : Int32} (hd : decode code pc = .ok (.iconst i, 1)) (hv : Int32.ofInt i = v) (hp : pc + 1 = pc')
    (K : Go p.tables e below G T (mkF m pc' Ls (.int v :: st))) : Go p.tables e below G T (mkF m pc Ls (st)) := by
  subst hp; subst hv; exact Go.step (fun _ k => XS.iconst X.here C.exec rfl (C.at hd)  k) K
theorem g_bipush (C : Cx p l s m meth c Z x0 code maxL ret) (X : Stand p l e R s m args below meth c T locs cells slots) {pc pc' : Nat} {Ls : Array Slot} {st : List Value} {i : Int} {v : Int32} (hd : decode code pc = .ok (.bipush i, 2)) (hv : (Int8.ofInt i).toInt32 = v) (hp : pc + 2 = pc')
    (K : Go p.tables e below G T (mkF m pc' Ls (.int v :: st))) : Go p.tables e below G T (mkF m pc Ls (st)) := by
  subst hp; subst hv; exact Go.step (fun _ k => XS.bipush X.here C.exec rfl (C.at hd)  k) K
theorem g_sipush (C : Cx p l s m meth c Z x0 code maxL ret) (X : Stand p l e R s m args below meth c T locs cells slots) {pc pc' : Nat} {Ls : Array Slot} {st : List Value} {i : Int} {v : Int32} (hd : decode code pc = .ok (.sipush i, 3)) (hv : (Int16.ofInt i).toInt32 = v) (hp : pc + 3 = pc')
    (K : Go p.tables e below G T (mkF m pc' Ls (.int v :: st))) : Go p.tables e below G T (mkF m pc Ls (st)) := by
  subst hp; subst hv; exact Go.step (fun _ k => XS.sipush X.here C.exec rfl (C.at hd)  k) K
theorem g_aconstNull (C : Cx p l s m meth c Z x0 code maxL ret) (X : Stand p l e R s m args below meth c T locs cells slots) {pc pc' : Nat} {Ls : Array Slot} {st : List Value}  (hd : decode code pc = .ok (.aconst_null, 1))  (hp : pc + 1 = pc')
    (K : Go p.tables e below G T (mkF m pc' Ls (.null :: st))) : Go p.tables e below G T (mkF m pc Ls (st)) := by
  subst hp; exact Go.step (fun _ k => XS.aconstNull X.here C.exec rfl (C.at hd)  k) K
theorem g_lconst (C : Cx p l s m meth c Z x0 code maxL ret) (X : Stand p l e R s m args below meth c T locs cells slots) {pc pc' : Nat} {Ls : Array Slot} {st : List Value} {k : Fin 2} {v : Int64} (hd : decode code pc = .ok (.lconst k, 1)) (hv : Int64.ofNat k = v) (hp : pc + 1 = pc')
    (K : Go p.tables e below G T (mkF m pc' Ls (.long v :: st))) : Go p.tables e below G T (mkF m pc Ls (st)) := by
  subst hp; subst hv; exact Go.step (fun _ k => XT.lconst X.here C.exec rfl (C.at hd)  k) K
theorem g_dconst0 (C : Cx p l s m meth c Z x0 code maxL ret) (X : Stand p l e R s m args below meth c T locs cells slots) {pc pc' : Nat} {Ls : Array Slot} {st : List Value} {v : UInt64} (hd : decode code pc = .ok (.dconst 0, 1)) (hv : FP.dconst0 = v) (hp : pc + 1 = pc')
    (K : Go p.tables e below G T (mkF m pc' Ls (.double v :: st))) : Go p.tables e below G T (mkF m pc Ls (st)) := by
  subst hp; exact Go.step (fun _ k => XS.dconst0 X.here C.exec rfl (C.at hd) hv k) K
theorem g_dconst1 (C : Cx p l s m meth c Z x0 code maxL ret) (X : Stand p l e R s m args below meth c T locs cells slots) {pc pc' : Nat} {Ls : Array Slot} {st : List Value} {v : UInt64} (hd : decode code pc = .ok (.dconst 1, 1)) (hv : FP.dconst1 = v) (hp : pc + 1 = pc')
    (K : Go p.tables e below G T (mkF m pc' Ls (.double v :: st))) : Go p.tables e below G T (mkF m pc Ls (st)) := by
  subst hp; exact Go.step (fun _ k => XS.dconst1 X.here C.exec rfl (C.at hd) hv k) K
theorem g_iadd (C : Cx p l s m meth c Z x0 code maxL ret) (X : Stand p l e R s m args below meth c T locs cells slots) {pc pc' : Nat} {Ls : Array Slot} {st : List Value} {x y : Int32} (hd : decode code pc = .ok (.iadd, 1))  (hp : pc + 1 = pc')
    (K : Go p.tables e below G T (mkF m pc' Ls (.int (x + y) :: st))) : Go p.tables e below G T (mkF m pc Ls (.int y :: .int x :: st)) := by
  subst hp; exact Go.step (fun _ k => XS.iadd X.here C.exec rfl (C.at hd) rfl k) K
theorem g_isub (C : Cx p l s m meth c Z x0 code maxL ret) (X : Stand p l e R s m args below meth c T locs cells slots) {pc pc' : Nat} {Ls : Array Slot} {st : List Value} {x y : Int32} (hd : decode code pc = .ok (.isub, 1))  (hp : pc + 1 = pc')
    (K : Go p.tables e below G T (mkF m pc' Ls (.int (x - y) :: st))) : Go p.tables e below G T (mkF m pc Ls (.int y :: .int x :: st)) := by
  subst hp; exact Go.step (fun _ k => XS.isub X.here C.exec rfl (C.at hd) rfl k) K
theorem g_iand (C : Cx p l s m meth c Z x0 code maxL ret) (X : Stand p l e R s m args below meth c T locs cells slots) {pc pc' : Nat} {Ls : Array Slot} {st : List Value} {x y : Int32} (hd : decode code pc = .ok (.iand, 1))  (hp : pc + 1 = pc')
    (K : Go p.tables e below G T (mkF m pc' Ls (.int (x &&& y) :: st))) : Go p.tables e below G T (mkF m pc Ls (.int y :: .int x :: st)) := by
  subst hp; exact Go.step (fun _ k => XS.iand X.here C.exec rfl (C.at hd) rfl k) K
theorem g_imul (C : Cx p l s m meth c Z x0 code maxL ret) (X : Stand p l e R s m args below meth c T locs cells slots) {pc pc' : Nat} {Ls : Array Slot} {st : List Value} {x y : Int32} (hd : decode code pc = .ok (.imul, 1))  (hp : pc + 1 = pc')
    (K : Go p.tables e below G T (mkF m pc' Ls (.int (x * y) :: st))) : Go p.tables e below G T (mkF m pc Ls (.int y :: .int x :: st)) := by
  subst hp; exact Go.step (fun _ k => XS.imul X.here C.exec rfl (C.at hd) rfl k) K
theorem g_idiv (C : Cx p l s m meth c Z x0 code maxL ret) (X : Stand p l e R s m args below meth c T locs cells slots) {pc pc' : Nat} {Ls : Array Slot} {st : List Value} {x y : Int32} (hd : decode code pc = .ok (.idiv, 1)) (hy : y ≠ 0) (hp : pc + 1 = pc')
    (K : Go p.tables e below G T (mkF m pc' Ls (.int (x / y) :: st))) : Go p.tables e below G T (mkF m pc Ls (.int y :: .int x :: st)) := by
  subst hp; exact Go.step (fun _ k => XS.idiv X.here C.exec rfl (C.at hd) rfl hy k) K
theorem g_ineg (C : Cx p l s m meth c Z x0 code maxL ret) (X : Stand p l e R s m args below meth c T locs cells slots) {pc pc' : Nat} {Ls : Array Slot} {st : List Value} {x : Int32} (hd : decode code pc = .ok (.ineg, 1))  (hp : pc + 1 = pc')
    (K : Go p.tables e below G T (mkF m pc' Ls (.int (-x) :: st))) : Go p.tables e below G T (mkF m pc Ls (.int x :: st)) := by
  subst hp; exact Go.step (fun _ k => XS.ineg X.here C.exec rfl (C.at hd) rfl k) K
theorem g_ixor (C : Cx p l s m meth c Z x0 code maxL ret) (X : Stand p l e R s m args below meth c T locs cells slots) {pc pc' : Nat} {Ls : Array Slot} {st : List Value} {x y : Int32} (hd : decode code pc = .ok (.ixor, 1))  (hp : pc + 1 = pc')
    (K : Go p.tables e below G T (mkF m pc' Ls (.int (x ^^^ y) :: st))) : Go p.tables e below G T (mkF m pc Ls (.int y :: .int x :: st)) := by
  subst hp; exact Go.step (fun _ k => XT.ixor X.here C.exec rfl (C.at hd) rfl k) K
theorem g_ior (C : Cx p l s m meth c Z x0 code maxL ret) (X : Stand p l e R s m args below meth c T locs cells slots) {pc pc' : Nat} {Ls : Array Slot} {st : List Value} {x y : Int32} (hd : decode code pc = .ok (.ior, 1))  (hp : pc + 1 = pc')
    (K : Go p.tables e below G T (mkF m pc' Ls (.int (x ||| y) :: st))) : Go p.tables e below G T (mkF m pc Ls (.int y :: .int x :: st)) := by
  subst hp; exact Go.step (fun _ k => XT.ior X.here C.exec rfl (C.at hd) rfl k) K
theorem g_ishl (C : Cx p l s m meth c Z x0 code maxL ret) (X : Stand p l e R s m args below meth c T locs cells slots) {pc pc' : Nat} {Ls : Array Slot} {st : List Value} {x y : Int32} (hd : decode code pc = .ok (.ishl, 1))  (hp : pc + 1 = pc')
    (K : Go p.tables e below G T (mkF m pc' Ls (.int (x <<< (y &&& 31)) :: st))) : Go p.tables e below G T (mkF m pc Ls (.int y :: .int x :: st)) := by
  subst hp; exact Go.step (fun _ k => XT.ishl X.here C.exec rfl (C.at hd) rfl k) K
theorem g_ishr (C : Cx p l s m meth c Z x0 code maxL ret) (X : Stand p l e R s m args below meth c T locs cells slots) {pc pc' : Nat} {Ls : Array Slot} {st : List Value} {x y : Int32} (hd : decode code pc = .ok (.ishr, 1))  (hp : pc + 1 = pc')
    (K : Go p.tables e below G T (mkF m pc' Ls (.int (x >>> (y &&& 31)) :: st))) : Go p.tables e below G T (mkF m pc Ls (.int y :: .int x :: st)) := by
  subst hp; exact Go.step (fun _ k => XT.ishr X.here C.exec rfl (C.at hd) rfl k) K
theorem g_iushr (C : Cx p l s m meth c Z x0 code maxL ret) (X : Stand p l e R s m args below meth c T locs cells slots) {pc pc' : Nat} {Ls : Array Slot} {st : List Value} {x y : Int32} (hd : decode code pc = .ok (.iushr, 1))  (hp : pc + 1 = pc')
    (K : Go p.tables e below G T (mkF m pc' Ls (.int (XT.ushr x y) :: st))) : Go p.tables e below G T (mkF m pc Ls (.int y :: .int x :: st)) := by
  subst hp; exact Go.step (fun _ k => XT.iushr X.here C.exec rfl (C.at hd) rfl k) K
theorem g_ladd (C : Cx p l s m meth c Z x0 code maxL ret) (X : Stand p l e R s m args below meth c T locs cells slots) {pc pc' : Nat} {Ls : Array Slot} {st : List Value} {x y : Int64} (hd : decode code pc = .ok (.ladd, 1))  (hp : pc + 1 = pc')
    (K : Go p.tables e below G T (mkF m pc' Ls (.long (x + y) :: st))) : Go p.tables e below G T (mkF m pc Ls (.long y :: .long x :: st)) := by
  subst hp; exact Go.step (fun _ k => XT.ladd X.here C.exec rfl (C.at hd) rfl k) K
theorem g_lsub (C : Cx p l s m meth c Z x0 code maxL ret) (X : Stand p l e R s m args below meth c T locs cells slots) {pc pc' : Nat} {Ls : Array Slot} {st : List Value} {x y : Int64} (hd : decode code pc = .ok (.lsub, 1))  (hp : pc + 1 = pc')
    (K : Go p.tables e below G T (mkF m pc' Ls (.long (x - y) :: st))) : Go p.tables e below G T (mkF m pc Ls (.long y :: .long x :: st)) := by
  subst hp; exact Go.step (fun _ k => XT.lsub X.here C.exec rfl (C.at hd) rfl k) K
theorem g_lmul (C : Cx p l s m meth c Z x0 code maxL ret) (X : Stand p l e R s m args below meth c T locs cells slots) {pc pc' : Nat} {Ls : Array Slot} {st : List Value} {x y : Int64} (hd : decode code pc = .ok (.lmul, 1))  (hp : pc + 1 = pc')
    (K : Go p.tables e below G T (mkF m pc' Ls (.long (x * y) :: st))) : Go p.tables e below G T (mkF m pc Ls (.long y :: .long x :: st)) := by
  subst hp; exact Go.step (fun _ k => XT.lmul X.here C.exec rfl (C.at hd) rfl k) K
theorem g_land (C : Cx p l s m meth c Z x0 code maxL ret) (X : Stand p l e R s m args below meth c T locs cells slots) {pc pc' : Nat} {Ls : Array Slot} {st : List Value} {x y : Int64} (hd : decode code pc = .ok (.land, 1))  (hp : pc + 1 = pc')
    (K : Go p.tables e below G T (mkF m pc' Ls (.long (x &&& y) :: st))) : Go p.tables e below G T (mkF m pc Ls (.long y :: .long x :: st)) := by
  subst hp; exact Go.step (fun _ k => XT.land X.here C.exec rfl (C.at hd) rfl k) K
theorem g_lor (C : Cx p l s m meth c Z x0 code maxL ret) (X : Stand p l e R s m args below meth c T locs cells slots) {pc pc' : Nat} {Ls : Array Slot} {st : List Value} {x y : Int64} (hd : decode code pc = .ok (.lor, 1))  (hp : pc + 1 = pc')
    (K : Go p.tables e below G T (mkF m pc' Ls (.long (x ||| y) :: st))) : Go p.tables e below G T (mkF m pc Ls (.long y :: .long x :: st)) := by
  subst hp; exact Go.step (fun _ k => XT.lor X.here C.exec rfl (C.at hd) rfl k) K
theorem g_lxor (C : Cx p l s m meth c Z x0 code maxL ret) (X : Stand p l e R s m args below meth c T locs cells slots) {pc pc' : Nat} {Ls : Array Slot} {st : List Value} {x y : Int64} (hd : decode code pc = .ok (.lxor, 1))  (hp : pc + 1 = pc')
    (K : Go p.tables e below G T (mkF m pc' Ls (.long (x ^^^ y) :: st))) : Go p.tables e below G T (mkF m pc Ls (.long y :: .long x :: st)) := by
  subst hp; exact Go.step (fun _ k => XT.lxor X.here C.exec rfl (C.at hd) rfl k) K
theorem g_lneg (C : Cx p l s m meth c Z x0 code maxL ret) (X : Stand p l e R s m args below meth c T locs cells slots) {pc pc' : Nat} {Ls : Array Slot} {st : List Value} {x : Int64} (hd : decode code pc = .ok (.lneg, 1))  (hp : pc + 1 = pc')
    (K : Go p.tables e below G T (mkF m pc' Ls (.long (-x) :: st))) : Go p.tables e below G T (mkF m pc Ls (.long x :: st)) := by
  subst hp; exact Go.step (fun _ k => XT.lneg X.here C.exec rfl (C.at hd) rfl k) K
theorem g_i2l (C : Cx p l s m meth c Z x0 code maxL ret) (X : Stand p l e R s m args below meth c T locs cells slots) {pc pc' : Nat} {Ls : Array Slot} {st : List Value} {x : Int32} (hd : decode code pc = .ok (.i2l, 1))  (hp : pc + 1 = pc')
    (K : Go p.tables e below G T (mkF m pc' Ls (.long x.toInt64 :: st))) : Go p.tables e below G T (mkF m pc Ls (.int x :: st)) := by
  subst hp; exact Go.step (fun _ k => XT.i2l X.here C.exec rfl (C.at hd) rfl k) K
theorem g_l2i (C : Cx p l s m meth c Z x0 code maxL ret) (X : Stand p l e R s m args below meth c T locs cells slots) {pc pc' : Nat} {Ls : Array Slot} {st : List Value} {x : Int64} (hd : decode code pc = .ok (.l2i, 1))  (hp : pc + 1 = pc')
    (K : Go p.tables e below G T (mkF m pc' Ls (.int x.toInt32 :: st))) : Go p.tables e below G T (mkF m pc Ls (.long x :: st)) := by
  subst hp; exact Go.step (fun _ k => XT.l2i X.here C.exec rfl (C.at hd) rfl k) K
theorem g_i2b (C : Cx p l s m meth c Z x0 code maxL ret) (X : Stand p l e R s m args below meth c T locs cells slots) {pc pc' : Nat} {Ls : Array Slot} {st : List Value} {x : Int32} (hd : decode code pc = .ok (.i2b, 1))  (hp : pc + 1 = pc')
    (K : Go p.tables e below G T (mkF m pc' Ls (.int x.toInt8.toInt32 :: st))) : Go p.tables e below G T (mkF m pc Ls (.int x :: st)) := by
  subst hp; exact Go.step (fun _ k => XT.i2b X.here C.exec rfl (C.at hd) rfl k) K
theorem g_i2s (C : Cx p l s m meth c Z x0 code maxL ret) (X : Stand p l e R s m args below meth c T locs cells slots) {pc pc' : Nat} {Ls : Array Slot} {st : List Value} {x : Int32} (hd : decode code pc = .ok (.i2s, 1))  (hp : pc + 1 = pc')
    (K : Go p.tables e below G T (mkF m pc' Ls (.int x.toInt16.toInt32 :: st))) : Go p.tables e below G T (mkF m pc Ls (.int x :: st)) := by
  subst hp; exact Go.step (fun _ k => XT.i2s X.here C.exec rfl (C.at hd) rfl k) K
theorem g_i2d (C : Cx p l s m meth c Z x0 code maxL ret) (X : Stand p l e R s m args below meth c T locs cells slots) {pc pc' : Nat} {Ls : Array Slot} {st : List Value} {x : Int32} (hd : decode code pc = .ok (.i2d, 1))  (hp : pc + 1 = pc')
    (K : Go p.tables e below G T (mkF m pc' Ls (.double (FP.i2d x) :: st))) : Go p.tables e below G T (mkF m pc Ls (.int x :: st)) := by
  subst hp; exact Go.step (fun _ k => XS.i2dS X.here C.exec rfl (C.at hd) rfl rfl k) K
theorem g_l2d (C : Cx p l s m meth c Z x0 code maxL ret) (X : Stand p l e R s m args below meth c T locs cells slots) {pc pc' : Nat} {Ls : Array Slot} {st : List Value} {x : Int64} (hd : decode code pc = .ok (.l2d, 1))  (hp : pc + 1 = pc')
    (K : Go p.tables e below G T (mkF m pc' Ls (.double (FP.l2d x) :: st))) : Go p.tables e below G T (mkF m pc Ls (.long x :: st)) := by
  subst hp; exact Go.step (fun _ k => XS.l2dS X.here C.exec rfl (C.at hd) rfl rfl k) K
theorem g_dneg (C : Cx p l s m meth c Z x0 code maxL ret) (X : Stand p l e R s m args below meth c T locs cells slots) {pc pc' : Nat} {Ls : Array Slot} {st : List Value} {x : UInt64} (hd : decode code pc = .ok (.dneg, 1))  (hp : pc + 1 = pc')
    (K : Go p.tables e below G T (mkF m pc' Ls (.double (FP.dneg x) :: st))) : Go p.tables e below G T (mkF m pc Ls (.double x :: st)) := by
  subst hp; exact Go.step (fun _ k => XS.dnegS X.here C.exec rfl (C.at hd) rfl rfl k) K
theorem g_dcmp (C : Cx p l s m meth c Z x0 code maxL ret) (X : Stand p l e R s m args below meth c T locs cells slots) {pc pc' : Nat} {Ls : Array Slot} {st : List Value} {o : CmpOp} {x y : UInt64} (hd : decode code pc = .ok (.dcmp o, 1))  (hp : pc + 1 = pc')
    (K : Go p.tables e below G T (mkF m pc' Ls (.int (cmpValue (FP.dcmp x y) o) :: st))) : Go p.tables e below G T (mkF m pc Ls (.double y :: .double x :: st)) := by
  subst hp; exact Go.step (fun _ k => XS.dcmpS X.here C.exec rfl (C.at hd) rfl rfl k) K
theorem g_dcmpV (C : Cx p l s m meth c Z x0 code maxL ret) (X : Stand p l e R s m args below meth c T locs cells slots) {pc pc' : Nat} {Ls : Array Slot} {st : List Value} {o : CmpOp} {x y : UInt64} {v : Int32} (hd : decode code pc = .ok (.dcmp o, 1)) (hv : cmpValue (FP.dcmp x y) o = v) (hp : pc + 1 = pc')
    (K : Go p.tables e below G T (mkF m pc' Ls (.int v :: st))) : Go p.tables e below G T (mkF m pc Ls (.double y :: .double x :: st)) := by
  subst hp; exact Go.step (fun _ k => XS.dcmpS X.here C.exec rfl (C.at hd) rfl hv k) K
theorem g_dadd (C : Cx p l s m meth c Z x0 code maxL ret) (X : Stand p l e R s m args below meth c T locs cells slots) {pc pc' : Nat} {Ls : Array Slot} {st : List Value} {x y : UInt64} (hd : decode code pc = .ok (.dadd, 1)) (hn : Jvm.Free.Fl.NoNaN64 (FP.dadd x y)) (hp : pc + 1 = pc')
    (K : Go p.tables e below G T (mkF m pc' Ls (.double (FP.dadd x y) :: st))) : Go p.tables e below G T (mkF m pc Ls (.double y :: .double x :: st)) := by
  subst hp; exact Go.step (fun _ k => XS.daddS X.here C.exec rfl (C.at hd) rfl hn rfl k) K
theorem g_dsub (C : Cx p l s m meth c Z x0 code maxL ret) (X : Stand p l e R s m args below meth c T locs cells slots) {pc pc' : Nat} {Ls : Array Slot} {st : List Value} {x y : UInt64} (hd : decode code pc = .ok (.dsub, 1)) (hn : Jvm.Free.Fl.NoNaN64 (FP.dsub x y)) (hp : pc + 1 = pc')
    (K : Go p.tables e below G T (mkF m pc' Ls (.double (FP.dsub x y) :: st))) : Go p.tables e below G T (mkF m pc Ls (.double y :: .double x :: st)) := by
  subst hp; exact Go.step (fun _ k => XS.dsubS X.here C.exec rfl (C.at hd) rfl hn rfl k) K
theorem g_dmul (C : Cx p l s m meth c Z x0 code maxL ret) (X : Stand p l e R s m args below meth c T locs cells slots) {pc pc' : Nat} {Ls : Array Slot} {st : List Value} {x y : UInt64} (hd : decode code pc = .ok (.dmul, 1)) (hn : Jvm.Free.Fl.NoNaN64 (FP.dmul x y)) (hp : pc + 1 = pc')
    (K : Go p.tables e below G T (mkF m pc' Ls (.double (FP.dmul x y) :: st))) : Go p.tables e below G T (mkF m pc Ls (.double y :: .double x :: st)) := by
  subst hp; exact Go.step (fun _ k => XS.dmulS X.here C.exec rfl (C.at hd) rfl hn rfl k) K
theorem g_ddiv (C : Cx p l s m meth c Z x0 code maxL ret) (X : Stand p l e R s m args below meth c T locs cells slots) {pc pc' : Nat} {Ls : Array Slot} {st : List Value} {x y : UInt64} (hd : decode code pc = .ok (.ddiv, 1)) (hn : Jvm.Free.Fl.NoNaN64 (FP.ddiv x y)) (hp : pc + 1 = pc')
    (K : Go p.tables e below G T (mkF m pc' Ls (.double (FP.ddiv x y) :: st))) : Go p.tables e below G T (mkF m pc Ls (.double y :: .double x :: st)) := by
  subst hp; exact Go.step (fun _ k => XS.ddivS X.here C.exec rfl (C.at hd) rfl hn rfl k) K
theorem g_lcmp (C : Cx p l s m meth c Z x0 code maxL ret) (X : Stand p l e R s m args below meth c T locs cells slots) {pc pc' : Nat} {Ls : Array Slot} {st : List Value} {x y : Int64} (hd : decode code pc = .ok (.lcmp, 1))  (hp : pc + 1 = pc')
    (K : Go p.tables e below G T (mkF m pc' Ls (.int (XT.cmpL x y) :: st))) : Go p.tables e below G T (mkF m pc Ls (.long y :: .long x :: st)) := by
  subst hp; exact Go.step (fun _ k => XT.lcmp X.here C.exec rfl (C.at hd) rfl k) K
theorem g_pop (C : Cx p l s m meth c Z x0 code maxL ret) (X : Stand p l e R s m args below meth c T locs cells slots) {pc pc' : Nat} {Ls : Array Slot} {st : List Value} {x : Value} (hd : decode code pc = .ok (.pop, 1)) (hc : x.category = 1) (hp : pc + 1 = pc')
    (K : Go p.tables e below G T (mkF m pc' Ls (st))) : Go p.tables e below G T (mkF m pc Ls (x :: st)) := by
  subst hp; exact Go.step (fun _ k => XT.pop X.here C.exec rfl (C.at hd) rfl hc k) K
theorem g_dup (C : Cx p l s m meth c Z x0 code maxL ret) (X : Stand p l e R s m args below meth c T locs cells slots) {pc pc' : Nat} {Ls : Array Slot} {st : List Value} {x : Value} (hd : decode code pc = .ok (.dup, 1)) (hc : x.category = 1) (hp : pc + 1 = pc')
    (K : Go p.tables e below G T (mkF m pc' Ls (x :: x :: st))) : Go p.tables e below G T (mkF m pc Ls (x :: st)) := by
  subst hp; exact Go.step (fun _ k => XS.dup X.here C.exec rfl (C.at hd) rfl hc k) K
theorem g_dupX1 (C : Cx p l s m meth c Z x0 code maxL ret) (X : Stand p l e R s m args below meth c T locs cells slots) {pc pc' : Nat} {Ls : Array Slot} {st : List Value} {x y : Value} (hd : decode code pc = .ok (.dup_x1, 1)) (hc : x.category = 1) (hc' : y.category = 1) (hp : pc + 1 = pc')
    (K : Go p.tables e below G T (mkF m pc' Ls (x :: y :: x :: st))) : Go p.tables e below G T (mkF m pc Ls (x :: y :: st)) := by
  subst hp; exact Go.step (fun _ k => XT.dupX1 X.here C.exec rfl (C.at hd) rfl hc hc' k) K
theorem g_dup2 (C : Cx p l s m meth c Z x0 code maxL ret) (X : Stand p l e R s m args below meth c T locs cells slots) {pc pc' : Nat} {Ls : Array Slot} {st : List Value} {x y : Value} (hd : decode code pc = .ok (.dup2, 1)) (hc : x.category = 1) (hc' : y.category = 1) (hp : pc + 1 = pc')
    (K : Go p.tables e below G T (mkF m pc' Ls (x :: y :: x :: y :: st))) : Go p.tables e below G T (mkF m pc Ls (x :: y :: st)) := by
  subst hp; exact Go.step (fun _ k => XT.dup2 X.here C.exec rfl (C.at hd) rfl hc hc' k) K
theorem g_iinc (C : Cx p l s m meth c Z x0 code maxL ret) (X : Stand p l e R s m args below meth c T locs cells slots) {pc pc' : Nat} {Ls : Array Slot} {st : List Value} {k : Nat} {cst : Int} {x z : Int32} {l' : Array Slot} (hd : decode code pc = .ok (.iinc k cst, 3)) (hl : Ls[k]? = some (.val (.int x))) (hz : z = x + Int32.ofInt cst) (hl' : storeLocals Ls k (.int z) = some l') (hp : pc + 3 = pc')
    (K : Go p.tables e below G T (mkF m pc' l' (st))) : Go p.tables e below G T (mkF m pc Ls (st)) := by
  subst hp; subst hz; exact Go.step (fun _ k => XS.iinc X.here C.exec rfl (C.at hd) hl hl' k) K
theorem g_irem (C : Cx p l s m meth c Z x0 code maxL ret) (X : Stand p l e R s m args below meth c T locs cells slots) {pc pc' : Nat} {Ls : Array Slot} {st : List Value} {x y : Int32} (hd : decode code pc = .ok (.irem, 1)) (hy : y ≠ 0) (hp : pc + 1 = pc')
    (K : Go p.tables e below G T (mkF m pc' Ls (.int (x % y) :: st))) : Go p.tables e below G T (mkF m pc Ls (.int y :: .int x :: st)) := by
  subst hp; exact Go.step (fun _ k => iremM X C.exec rfl (C.at hd) rfl hy k) K
theorem g_lushr (C : Cx p l s m meth c Z x0 code maxL ret) (X : Stand p l e R s m args below meth c T locs cells slots) {pc pc' : Nat} {Ls : Array Slot} {st : List Value} {x : Int64} {y : Int32} (hd : decode code pc = .ok (.lushr, 1)) (hp : pc + 1 = pc')
    (K : Go p.tables e below G T (mkF m pc' Ls (.long (XT.ushrL x y) :: st))) : Go p.tables e below G T (mkF m pc Ls (.int y :: .long x :: st)) := by
  subst hp; exact Go.step (fun _ k => XT.lushr X.here C.exec rfl (C.at hd) rfl k) K
/-- what a branch asks, of whole numbers -/
abbrev cpI : ClassFile.Cond → Int → Int → Prop
  | .eq, x, y => x = y
  | .ne, x, y => ¬ x = y
  | .lt, x, y => x < y
  | .ge, x, y => ¬ x < y
  | .gt, x, y => y < x
  | .le, x, y => ¬ y < x
theorem holds_icmp (cd : ClassFile.Cond) (x y : Int32) : if_icmp.holds cd x y = true ↔ cpI cd x.toInt y.toInt := by
  cases cd <;> simp only [if_icmp.holds, cpI, decide_eq_true_eq, beq_iff_eq, bne_iff_ne, ne_eq, Int32.lt_iff_toInt_lt, Int32.le_iff_toInt_le, Int32.toInt_inj, Int.not_lt, ge_iff_le, gt_iff_lt]
theorem holds_if (cd : ClassFile.Cond) (x : Int32) : ifCond.holds cd x = true ↔ cpI cd x.toInt 0 := by
  rw [if0]; exact holds_icmp cd x 0
theorem g_goto (C : Cx p l s m meth c Z x0 code maxL ret) (X : Stand p l e R s m args below meth c T locs cells slots) {pc pc' : Nat} {Ls : Array Slot} {st : List Value} {o : Int} (hd : decode code pc = .ok (.goto o, 3)) (ho : 0 ≤ (pc : Int) + o) (hp : ((pc : Int) + o).toNat = pc')
    (K : Go p.tables e below G T (mkF m pc' Ls st)) : Go p.tables e below G T (mkF m pc Ls st) :=
  Go.step (fun _ k => XS.goto X.here C.exec rfl rfl (C.at hd) ho hp k) K
theorem g_if (C : Cx p l s m meth c Z x0 code maxL ret) (X : Stand p l e R s m args below meth c T locs cells slots) {pc pc' pc'' : Nat} {Ls : Array Slot} {st : List Value} {cd : ClassFile.Cond} {x : Int32} {o : Int} (hd : decode code pc = .ok (.ifCond cd o, 3)) (ho : 0 ≤ (pc : Int) + o) (hp : ((pc : Int) + o).toNat = pc') (hp3 : pc + 3 = pc'')
    (K1 : cpI cd x.toInt 0 → Go p.tables e below G T (mkF m pc' Ls st)) (K2 : ¬ cpI cd x.toInt 0 → Go p.tables e below G T (mkF m pc'' Ls st)) : Go p.tables e below G T (mkF m pc Ls (.int x :: st)) := by
  subst hp3
  cases hc : ifCond.holds cd x with
  | true => exact Go.step (fun _ k => XS.ifYes X.here C.exec rfl rfl (C.at hd) rfl hc ho hp k) (K1 ((holds_if cd x).mp hc))
  | false => exact Go.step (fun _ k => XS.ifNo X.here C.exec rfl (C.at hd) rfl hc k) (K2 fun q => by rw [(holds_if cd x).mpr q] at hc; cases hc)
theorem g_icmp (C : Cx p l s m meth c Z x0 code maxL ret) (X : Stand p l e R s m args below meth c T locs cells slots) {pc pc' pc'' : Nat} {Ls : Array Slot} {st : List Value} {cd : ClassFile.Cond} {x y : Int32} {o : Int} (hd : decode code pc = .ok (.if_icmp cd o, 3)) (ho : 0 ≤ (pc : Int) + o) (hp : ((pc : Int) + o).toNat = pc') (hp3 : pc + 3 = pc'')
    (K1 : cpI cd x.toInt y.toInt → Go p.tables e below G T (mkF m pc' Ls st)) (K2 : ¬ cpI cd x.toInt y.toInt → Go p.tables e below G T (mkF m pc'' Ls st)) : Go p.tables e below G T (mkF m pc Ls (.int y :: .int x :: st)) := by
  subst hp3
  cases hc : if_icmp.holds cd x y with
  | true => exact Go.step (fun _ k => XS.icmpYes X.here C.exec rfl rfl (C.at hd) rfl hc ho hp k) (K1 ((holds_icmp cd x y).mp hc))
  | false => exact Go.step (fun _ k => XS.icmpNo X.here C.exec rfl (C.at hd) rfl hc k) (K2 fun q => by rw [(holds_icmp cd x y).mpr q] at hc; cases hc)
theorem g_ifY (C : Cx p l s m meth c Z x0 code maxL ret) (X : Stand p l e R s m args below meth c T locs cells slots) {pc pc' : Nat} {Ls : Array Slot} {st : List Value} {cd : ClassFile.Cond} {x : Int32} {o : Int} (hd : decode code pc = .ok (.ifCond cd o, 3)) (ho : 0 ≤ (pc : Int) + o) (hp : ((pc : Int) + o).toNat = pc') (hc : cpI cd x.toInt 0)
    (K1 : Go p.tables e below G T (mkF m pc' Ls st)) : Go p.tables e below G T (mkF m pc Ls (.int x :: st)) :=
  Go.step (fun _ k => XS.ifYes X.here C.exec rfl rfl (C.at hd) rfl ((holds_if cd x).mpr hc) ho hp k) K1
theorem g_ifN (C : Cx p l s m meth c Z x0 code maxL ret) (X : Stand p l e R s m args below meth c T locs cells slots) {pc pc' : Nat} {Ls : Array Slot} {st : List Value} {cd : ClassFile.Cond} {x : Int32} {o : Int} (hd : decode code pc = .ok (.ifCond cd o, 3)) (hc : ¬ cpI cd x.toInt 0) (hp : pc + 3 = pc')
    (K1 : Go p.tables e below G T (mkF m pc' Ls st)) : Go p.tables e below G T (mkF m pc Ls (.int x :: st)) := by
  subst hp
  exact Go.step (fun _ k => XS.ifNo X.here C.exec rfl (C.at hd) rfl (Bool.eq_false_iff.mpr fun q => hc ((holds_if cd x).mp q)) k) K1
theorem g_icmpY (C : Cx p l s m meth c Z x0 code maxL ret) (X : Stand p l e R s m args below meth c T locs cells slots) {pc pc' : Nat} {Ls : Array Slot} {st : List Value} {cd : ClassFile.Cond} {x y : Int32} {o : Int} (hd : decode code pc = .ok (.if_icmp cd o, 3)) (ho : 0 ≤ (pc : Int) + o) (hp : ((pc : Int) + o).toNat = pc') (hc : cpI cd x.toInt y.toInt)
    (K1 : Go p.tables e below G T (mkF m pc' Ls st)) : Go p.tables e below G T (mkF m pc Ls (.int y :: .int x :: st)) :=
  Go.step (fun _ k => XS.icmpYes X.here C.exec rfl rfl (C.at hd) rfl ((holds_icmp cd x y).mpr hc) ho hp k) K1
theorem g_icmpN (C : Cx p l s m meth c Z x0 code maxL ret) (X : Stand p l e R s m args below meth c T locs cells slots) {pc pc' : Nat} {Ls : Array Slot} {st : List Value} {cd : ClassFile.Cond} {x y : Int32} {o : Int} (hd : decode code pc = .ok (.if_icmp cd o, 3)) (hc : ¬ cpI cd x.toInt y.toInt) (hp : pc + 3 = pc')
    (K1 : Go p.tables e below G T (mkF m pc' Ls st)) : Go p.tables e below G T (mkF m pc Ls (.int y :: .int x :: st)) := by
  subst hp
  exact Go.step (fun _ k => XS.icmpNo X.here C.exec rfl (C.at hd) rfl (Bool.eq_false_iff.mpr fun q => hc ((holds_icmp cd x y).mp q)) k) K1
/-! leaving the body -/
theorem g_out {k n : Nat} {Q : Option Value → Heap → List Loc → Prop} (C : Cx p l s m meth c Z x0 code maxL ret) (X : Stand p l e R s m args below meth c T locs cells slots) {v : Option Value} {g : JFrame} (hv : ret = none → v = none)
    (st : ∀ fs, (∀ (f : JFrame) (acts : List Action), f.method = m → f.locked = none → f.entered = [] → (doReturn e (T.setTop f) acts v).1 = T.setFrames fs) → Steps p.tables e below (T.setTop g) (T.setFrames fs))
    (hQ : Q v T.heap locs) (hk : cells ≤ k) (hn : slots ≤ n) : Go p.tables e below (End s Q k n) T g := by
  obtain ⟨fs, hr, hrun, hended, hW, hsame⟩ := X.leave (v := v) (fun q => hv (C.rets ▸ q)) C.unlocked
  exact ⟨_, _, st fs hr, hrun, hended, v, locs, rfl, hQ, ⟨_, rfl⟩, hW, hsame.mono hk hn⟩
theorem g_ireturn {k n : Nat} {Q : Option Value → Heap → List Loc → Prop} (C : Cx p l s m meth c Z x0 code maxL (some .int)) (X : Stand p l e R s m args below meth c T locs cells slots) {pc : Nat} {Ls : Array Slot} {st : List Value} {z : Int32} (hd : decode code pc = .ok (.ireturn, 1))
    (hQ : Q (some (.int z)) T.heap locs) (hk : cells ≤ k) (hn : slots ≤ n) : Go p.tables e below (End s Q k n) T (mkF m pc Ls (.int z :: st)) :=
  g_out C X (v := some (.int z)) (fun q => by cases q) (fun fs hr => retOut X C.exec C.rets rfl (Or.inl ⟨rfl, Or.inl rfl, _, rfl⟩) (C.at hd) hr) hQ hk hn
theorem g_zreturn {k n : Nat} {Q : Option Value → Heap → List Loc → Prop} (C : Cx p l s m meth c Z x0 code maxL (some .boolean)) (X : Stand p l e R s m args below meth c T locs cells slots) {pc : Nat} {Ls : Array Slot} {st : List Value} {z w : Int32} (hd : decode code pc = .ok (.ireturn, 1)) (hw : nar .boolean z = w)
    (hQ : Q (some (.int w)) T.heap locs) (hk : cells ≤ k) (hn : slots ≤ n) : Go p.tables e below (End s Q k n) T (mkF m pc Ls (.int z :: st)) :=
  g_out C X (v := some (.int w)) (fun q => by cases q) (fun fs hr => retN X C.exec (t := .boolean) C.rets (by simp) (C.at hd) (hw ▸ hr)) hQ hk hn
theorem g_lreturn {k n : Nat} {Q : Option Value → Heap → List Loc → Prop} (C : Cx p l s m meth c Z x0 code maxL (some .long)) (X : Stand p l e R s m args below meth c T locs cells slots) {pc : Nat} {Ls : Array Slot} {st : List Value} {z : Int64} (hd : decode code pc = .ok (.lreturn, 1))
    (hQ : Q (some (.long z)) T.heap locs) (hk : cells ≤ k) (hn : slots ≤ n) : Go p.tables e below (End s Q k n) T (mkF m pc Ls (.long z :: st)) :=
  g_out C X (v := some (.long z)) (fun q => by cases q) (fun fs hr => retOut X C.exec C.rets rfl (Or.inr (Or.inl ⟨rfl, rfl, _, rfl⟩)) (C.at hd) hr) hQ hk hn
theorem g_dreturn {k n : Nat} {Q : Option Value → Heap → List Loc → Prop} (C : Cx p l s m meth c Z x0 code maxL (some .double)) (X : Stand p l e R s m args below meth c T locs cells slots) {pc : Nat} {Ls : Array Slot} {st : List Value} {z : UInt64} (hd : decode code pc = .ok (.dreturn, 1))
    (hQ : Q (some (.double z)) T.heap locs) (hk : cells ≤ k) (hn : slots ≤ n) : Go p.tables e below (End s Q k n) T (mkF m pc Ls (.double z :: st)) :=
  g_out C X (v := some (.double z)) (fun q => by cases q) (fun fs hr => retOut X C.exec C.rets rfl (Or.inr (Or.inr (Or.inl ⟨rfl, rfl, _, rfl⟩))) (C.at hd) hr) hQ hk hn
theorem g_areturn {k n : Nat} {Q : Option Value → Heap → List Loc → Prop} {t : FieldType} (C : Cx p l s m meth c Z x0 code maxL (some t)) (X : Stand p l e R s m args below meth c T locs cells slots) {pc : Nat} {Ls : Array Slot} {st : List Value} {w : Value} (hd : decode code pc = .ok (.areturn, 1)) (ht : t.isReference = true) (hw : w.isRef = true) (hna : narrow t w = w)
    (hQ : Q (some w) T.heap locs) (hk : cells ≤ k) (hn : slots ≤ n) : Go p.tables e below (End s Q k n) T (mkF m pc Ls (w :: st)) :=
  g_out C X (v := some w) (fun q => by cases q) (fun fs hr => retOut X C.exec C.rets hna (Or.inr (Or.inr (Or.inr (Or.inr ⟨rfl, ht, hw⟩)))) (C.at hd) hr) hQ hk hn
theorem g_return {k n : Nat} {Q : Option Value → Heap → List Loc → Prop} (C : Cx p l s m meth c Z x0 code maxL none) (X : Stand p l e R s m args below meth c T locs cells slots) {pc : Nat} {Ls : Array Slot} (hd : decode code pc = .ok (.return_, 1))
    (hQ : Q none T.heap locs) (hk : cells ≤ k) (hn : slots ≤ n) : Go p.tables e below (End s Q k n) T (mkF m pc Ls []) :=
  g_out C X (v := none) (fun _ => rfl) (fun fs hr => X.returnOut C.exec C.rets (C.at hd) hr) hQ hk hn
/-! calls -/
theorem g_callS (C : Cx p l s m meth c Z x0 code maxL ret) (X : Stand p l e R s m args below meth c T locs cells slots) {index : Nat} {y : MethodName} {bytes : ByteArray} {mL : Nat} {rt : Option FieldType} {rm : Room} {as : Array Value} {Q : Option Value → Heap → List Loc → Prop} (K0 : Con l Z y bytes mL rt rm as h Q)
    (w1 : (Cond.methodLink x0.cls index y).before a0 Z = true) (w2 : (Cond.static y).before a0 Z = true) (w3 : (Cond.initialized y.cls).before a0 Z = true) (w4 : (Cond.code y bytes mL rt).before a0 Z = true)
    (hy : y.cls ≠ "java/lang/invoke/MethodHandle" ∧ y.cls ≠ "java/lang/invoke/VarHandle") (eT : T.heap = h) {pc pc' : Nat} {Ls : Array Slot} {st : List Value} (hd : decode code pc = .ok (.invokestatic index, 3)) (hsz : Ls.size = maxL)
    {ps : List FieldType} {r : Option FieldType} (hpd : parseMethodDescriptor y.desc = some ⟨ps, r⟩) (argsL rest : List Value) (hlen : argsL.length = ps.length) (has : argsL.toArray = as) (hst : st = argsL.reverse ++ rest) (W : Nat) (hW : (rest.map fun v => v.category).sum = W)
    (hfr : rm.frames + 1 ≤ R.frames) (hlo : W + (mL + 11) + rm.locals ≤ R.locals) (hce : cells + rm.cells ≤ R.cells) (hsl : slots + rm.slots ≤ R.slots) (hp : pc + 3 = pc')
    (K : ∀ v T' L, Stand p l e R s m args below meth c T' (locs ++ L) (cells + rm.cells) (slots + rm.slots) → Q v T'.heap L → Go p.tables e below G T' (mkF m pc' Ls (v.toList ++ rest))) : Go p.tables e below G T (mkF m pc Ls st) := by
  subst hp has
  obtain ⟨v, _, ⟨T1, L1, k1, n1⟩, -, X1, ⟨Lc, hQ, q1, q2, q3⟩, st1⟩ := Jvm.LawKit.callS X C.exec (y := y) C.own (mvT C.warm w1) (mvT C.warm w2) (mvT C.warm w3) (mvT C.warm w4) hy (backOf (W := W) (K0 []) C.warm w4 w3 hfr hlo)
    (g := mkF m pc Ls st) rfl (by rw [C.maxl]; exact hsz) (argsL := argsL) (rest := rest) (lenOf hpd hlen) hst (by show 2 * 0 + _ ≤ _; rw [hW]; omega) (C.at hd) (fun _ _ => ⟨rfl, eT, hce, hsl⟩)
  dsimp only [Pt.U, Pt.locs, Pt.cells, Pt.slots] at X1 q1 q2 q3 st1 hQ
  subst q1 q2 q3
  exact Go.step st1 (K v T1 Lc X1 hQ)
theorem go_trans {tb : Tables} {T1 : State} {g g1 : JFrame} (st : Steps tb e below (T.setTop g) (T1.setTop g1)) (k : Go tb e below G T1 g1) : Go tb e below G T g := by
  obtain ⟨s2, o, h1, h2⟩ := k
  exact ⟨s2, o, st.trans h1, h2⟩
theorem g_callI (C : Cx p l s m meth c Z x0 code maxL ret) (X : Stand p l e R s m args below meth c T locs cells slots) {index : Nat} {y : MethodName} {bytes : ByteArray} {mL : Nat} {rm : Room} {as : Array Value} {Q : Option Value → Heap → List Loc → Prop} (K0 : Con l Z y bytes mL none rm as h Q) (hy1 : y.name = "<init>")
    (w1 : (Cond.methodLink x0.cls index y).before a0 Z = true) (w2 : (Cond.instanceMethod y).before a0 Z = true) (w3 : (Cond.initialized y.cls).before a0 Z = true) (w4 : (Cond.code y bytes mL none).before a0 Z = true)
    (hy : y.cls ≠ "java/lang/invoke/MethodHandle" ∧ y.cls ≠ "java/lang/invoke/VarHandle") (eT : T.heap = h) {pc pc' : Nat} {Ls : Array Slot} {st : List Value} (hd : decode code pc = .ok (.invokespecial index, 3)) (hsz : Ls.size = maxL)
    {ps : List FieldType} {r : Option FieldType} (hpd : parseMethodDescriptor y.desc = some ⟨ps, r⟩) (a : Addr) (argsL rest : List Value) (hlen : argsL.length = ps.length) (has : (.ref a :: argsL).toArray = as) (hst : st = argsL.reverse ++ .ref a :: rest) (W : Nat) (hW : (rest.map fun v => v.category).sum = W)
    (hfr : rm.frames + 1 ≤ R.frames) (hlo : W + (mL + 11) + rm.locals ≤ R.locals) (hce : cells + rm.cells ≤ R.cells) (hsl : slots + rm.slots ≤ R.slots) (hp : pc + 3 = pc')
    (K : ∀ v T' L, Stand p l e R s m args below meth c T' (locs ++ L) (cells + rm.cells) (slots + rm.slots) → Q v T'.heap L → Go p.tables e below G T' (mkF m pc' Ls (v.toList ++ rest))) : Go p.tables e below G T (mkF m pc Ls st) := by
  subst hp has
  obtain ⟨v, _, ⟨T1, L1, k1, n1⟩, -, X1, ⟨Lc, hQ, q1, q2, q3⟩, st1⟩ := X.specialBack C.exec (y := y) hy1 C.own (mvT C.warm w1) (mvT C.warm w2) (mvT C.warm w4) hy (backOf (W := W) (K0 []) C.warm w4 w3 hfr hlo)
    (g := mkF m pc Ls st) rfl (by rw [C.maxl]; exact hsz) (Steps.refl _) (a := a) (argsL := argsL) (rest := rest) (lenOf hpd hlen) hst (by show 2 * 0 + _ ≤ _; rw [hW]; omega) (C.at hd) (fun _ _ => ⟨rfl, eT, hce, hsl⟩)
  dsimp only [Pt.U, Pt.locs, Pt.cells, Pt.slots] at X1 q1 q2 q3 st1 hQ
  subst q1 q2 q3
  exact go_trans st1 (K v T1 Lc X1 hQ)
theorem g_callV (C : Cx p l s m meth c Z x0 code maxL ret) (X : Stand p l e R s m args below meth c T locs cells slots) {index : Nat} {y : MethodName} {cls : String} {bytes : ByteArray} {mL : Nat} {rt : Option FieldType} {rm : Room} {as : Array Value} {Q : Option Value → Heap → List Loc → Prop} (K0 : Con l Z y bytes mL rt rm as h Q)
    (w1 : (Cond.methodLink x0.cls index y).before a0 Z = true) (w2 : (Cond.declares y).before a0 Z = true) (w5 : (Cond.selects cls y y).before a0 Z = true) (w6 : (Cond.instanceMethod y).before a0 Z = true) (w3 : (Cond.initialized y.cls).before a0 Z = true) (w4 : (Cond.code y bytes mL rt).before a0 Z = true)
    (hy : y.cls ≠ "java/lang/invoke/MethodHandle" ∧ y.cls ≠ "java/lang/invoke/VarHandle") (eT : T.heap = h) {a : Addr} (E : Exa Z h a cls) {pc pc' : Nat} {Ls : Array Slot} {st : List Value} (hd : decode code pc = .ok (.invokevirtual index, 3)) (hsz : Ls.size = maxL)
    {ps : List FieldType} {r : Option FieldType} (hpd : parseMethodDescriptor y.desc = some ⟨ps, r⟩) (argsL rest : List Value) (hlen : argsL.length = ps.length) (has : (.ref a :: argsL).toArray = as) (hst : st = argsL.reverse ++ .ref a :: rest) (W : Nat) (hW : (rest.map fun v => v.category).sum = W)
    (hfr : rm.frames + 1 ≤ R.frames) (hlo : W + (mL + 11) + rm.locals ≤ R.locals) (hce : cells + rm.cells ≤ R.cells) (hsl : slots + rm.slots ≤ R.slots) (hp : pc + 3 = pc')
    (K : ∀ v T' L, Stand p l e R s m args below meth c T' (locs ++ L) (cells + rm.cells) (slots + rm.slots) → Q v T'.heap L → Go p.tables e below G T' (mkF m pc' Ls (v.toList ++ rest))) : Go p.tables e below G T (mkF m pc Ls st) := by
  subst hp has
  obtain ⟨cq, kq, qa, qb, qc⟩ := isOf C.warm eT E
  obtain ⟨v, _, ⟨T1, L1, k1, n1⟩, -, X1, ⟨Lc, hQ, q1, q2, q3⟩, st1⟩ := X.virtualBack C.exec (y := y) (z := y) C.own (mvT C.warm w1) (mvT C.warm w2) (notFace_of_selects (args := #[]) (mvT C.warm w5)) (mvT C.warm w5) (mvT C.warm w6) hy (backOf (W := W) (K0 []) C.warm w4 w3 hfr hlo) qa qc
    (g := mkF m pc Ls st) rfl (by rw [C.maxl]; exact hsz) (Steps.refl _) (argsL := argsL) (rest := rest) (lenOf hpd hlen) hst (by show 2 * 0 + _ ≤ _; rw [hW]; omega) (C.at hd) (fun _ _ => ⟨rfl, eT, hce, hsl⟩)
  dsimp only [Pt.U, Pt.locs, Pt.cells, Pt.slots] at X1 q1 q2 q3 st1 hQ
  subst q1 q2 q3
  exact go_trans st1 (K v T1 Lc X1 hQ)
theorem g_initO (C : Cx p l s m meth c Z x0 code maxL ret) (X : Stand p l e R s m args below meth c T locs cells slots) {index : Nat} (w1 : (Cond.methodLink x0.cls index Lib.objectInit).before a0 Z = true) (w2 : (Cond.instanceMethod Lib.objectInit).before a0 Z = true) (w3 : (Cond.code Lib.objectInit ⟨#[0xb1]⟩ 1 none).before a0 Z = true) (eT : T.heap = h)
    {pc pc' : Nat} {Ls : Array Slot} {a : Addr} {rest : List Value} (hd : decode code pc = .ok (.invokespecial index, 3)) (hsz : Ls.size = maxL) (W : Nat) (hW : (rest.map fun v => v.category).sum = W) (hfr : 1 ≤ R.frames) (hlo : W + 12 ≤ R.locals) (hp : pc + 3 = pc')
    (K : ∀ T', Stand p l e R s m args below meth c T' locs cells slots → T'.heap = h → Go p.tables e below G T' (mkF m pc' Ls rest)) : Go p.tables e below G T (mkF m pc Ls (.ref a :: rest)) := by
  subst hp
  obtain ⟨T1, X1, e1, st1⟩ := initO X C.exec C.warm C.own w1 w2 w3 eT (g := mkF m pc Ls (.ref a :: rest)) rfl (by rw [C.maxl]; exact hsz) rfl (C.at hd) hfr (W := W) (by show 2 * 0 + _ ≤ _; rw [hW]; omega) hlo
  exact Go.step st1 (K T1 X1 e1)
/-! the heap -/
theorem g_new (C : Cx p l s m meth c Z x0 code maxL ret) (X : Stand p l e R s m args below meth c T locs cells slots) {cls : String} {index n : Nat} (w : (Cond.classLink x0.cls index cls).before a0 Z = true) (wi : (Cond.instantiable cls n).before a0 Z = true) (wz : (Cond.initialized cls).before a0 Z = true) (eT : T.heap = h)
    {pc pc' : Nat} {Ls : Array Slot} {st : List Value} (hd : decode code pc = .ok (.new index, 3)) (hc : cells + 1 ≤ R.cells) (hl : slots + n ≤ R.slots) (hp : pc + 3 = pc')
    (K : ∀ T' h' a, a = h.size → Stand p l e R s m args below meth c T' locs (cells + 1) (slots + n) → T'.heap = h' → Ext h h' → Exa Z h' a cls → (∀ {O nm d : String} {ty : FieldType}, Laid Z a0 cls O nm d → parseFieldDescriptor d = some ty → Fld Z h' a O nm d (defaultValue ty)) → Go p.tables e below G T' (mkF m pc' Ls (.ref a :: st))) :
    Go p.tables e below G T (mkF m pc Ls st) := by
  subst hp
  obtain ⟨T1, h1, X1, e1, E1, A1, D1, -, st1⟩ := newO X C.exec C.warm C.own w wi wz eT (g := mkF m pc Ls st) rfl (C.at hd) hc hl
  exact Go.step st1 (K T1 h1 h.size rfl X1 e1 E1 A1 D1)
theorem g_newP (C : Cx p l s m meth c Z x0 code maxL ret) (X : Stand p l e R s m args below meth c T locs cells slots) {aty : ArrayType} (w : (Cond.arrayClass (newarray.typeOf aty)).before a0 Z = true) (eT : T.heap = h)
    {pc pc' : Nat} {Ls : Array Slot} {st : List Value} {z : Int32} (hd : decode code pc = .ok (.newarray aty, 2)) (hz : ¬ z < 0) (cap : Nat) (hcap : z.toNatClampNeg ≤ cap) (hb : cap * 8 ≤ 536870912) (hc : cells + 1 ≤ R.cells) (hl : slots + cap ≤ R.slots) (hp : pc + 2 = pc')
    (K : ∀ T' h' a k, a = h.size → Stand p l e R s m args below meth c T' locs (cells + 1) (slots + cap) → T'.heap = h' → Ext h h' → Arv Z h' a k (newarray.typeOf aty) z [] (defaultValue (newarray.typeOf aty)) → Go p.tables e below G T' (mkF m pc' Ls (.ref a :: st))) :
    Go p.tables e below G T (mkF m pc Ls (.int z :: st)) := by
  subst hp
  obtain ⟨T1, h1, cA, X1, e1, E1, A1, st1⟩ := newP X C.exec C.warm w eT (g := mkF m pc Ls (.int z :: st)) rfl (C.at hd) rfl hz hcap hb hc hl
  exact Go.step st1 (K T1 h1 h.size cA rfl X1 e1 E1 (Arv.new A1 hz))
theorem g_getF (C : Cx p l s m meth c Z x0 code maxL ret) (X : Stand p l e R s m args below meth c T locs cells slots) {R0 O n d host : String} {index : Nat} (w : (Cond.fieldLink x0.cls index R0 n d).before a0 Z = true ∨ (Cond.fieldLinkNest x0.cls index R0 n d host).before a0 Z = true) (via : Via Z R0 O n d) (eT : T.heap = h) {a : Addr} {v : Value} (F : Fld Z h a O n d v)
    {pc pc' : Nat} {Ls : Array Slot} {st : List Value} (hd : decode code pc = .ok (.getfield index, 3)) (hp : pc + 3 = pc')
    (K : ∀ T', Stand p l e R s m args below meth c T' locs cells slots → T'.heap = h → Go p.tables e below G T' (mkF m pc' Ls (v :: st))) : Go p.tables e below G T (mkF m pc Ls (.ref a :: st)) := by
  subst hp
  obtain ⟨T1, X1, e1, st1⟩ := getF X C.exec C.warm C.own w via eT F (g := mkF m pc Ls (.ref a :: st)) rfl rfl (C.at hd)
  exact Go.step st1 (K T1 X1 e1)
theorem g_putF (C : Cx p l s m meth c Z x0 code maxL ret) (X : Stand p l e R s m args below meth c T locs cells slots) {R0 O n d host cls : String} {index kk : Nat} {ty : FieldType} (w : (Cond.fieldLink x0.cls index R0 n d).before a0 Z = true ∨ (Cond.fieldLinkNest x0.cls index R0 n d host).before a0 Z = true) (via : Via Z R0 O n d) (eT : T.heap = h) {a : Addr} {v old : Value} (F : Fld Z h a O n d old) (E : Exa Z h a cls)
    (L : (Cond.lays cls O n d).before a0 Z = true ∨ ((Cond.laysFinal cls O n d).before a0 Z = true ∧ x0.cls = O ∧ x0.name = "<init>")) (wi : (Cond.instantiable cls kk).before a0 Z = true) (hty : parseFieldDescriptor d = some ty) (hn : narrow ty v = v) (hf : fits ty v = true)
    {pc pc' : Nat} {Ls : Array Slot} {st : List Value} (hd : decode code pc = .ok (.putfield index, 3)) (hp : pc + 3 = pc')
    (K : ∀ T' h', Stand p l e R s m args below meth c T' (locs ++ [⟨a, RoadKit.slotOf Z O n d⟩]) cells slots → T'.heap = h' → Wr h h' a (RoadKit.slotOf Z O n d) v → Go p.tables e below G T' (mkF m pc' Ls st)) : Go p.tables e below G T (mkF m pc Ls (v :: .ref a :: st)) := by
  subst hp
  obtain ⟨T1, h1, X1, e1, W1, st1⟩ := putF X C.exec C.warm C.own w via eT F E (L.imp id fun q => ⟨q.1, q.2.1, C.nm.trans q.2.2⟩) wi hty hn hf (g := mkF m pc Ls (v :: .ref a :: st)) rfl rfl (C.at hd)
  exact Go.step st1 (K T1 h1 X1 e1 W1)
/-- an array whose values are a list: read, length, store -/
theorem Arv.cell {a : Addr} {k : ClassId} {ty : FieldType} {z : Int32} {vs : List Value} {d : Value} (A : Arv Z h a k ty z vs d) : ∃ cl : Cell, Arr Z h a cl ty ∧ cl.slots.size = z.toNatClampNeg ∧ ¬ z < 0 ∧ Has cl vs d := by
  obtain ⟨cl, A1, -, S, N, H, -⟩ := A
  exact ⟨cl, A1, S, N, H⟩
theorem g_len (C : Cx p l s m meth c Z x0 code maxL ret) (X : Stand p l e R s m args below meth c T locs cells slots) {a : Addr} {k : ClassId} {ty : FieldType} {z : Int32} {vs : List Value} {d : Value} (eT : T.heap = h) (A : Arv Z h a k ty z vs d) {pc pc' : Nat} {Ls : Array Slot} {st : List Value} (hd : decode code pc = .ok (.arraylength, 1)) (hp : pc + 1 = pc')
    (K : Go p.tables e below G T (mkF m pc' Ls (.int z :: st))) : Go p.tables e below G T (mkF m pc Ls (.ref a :: st)) := by
  subst hp
  obtain ⟨cl, A1, S, N, H⟩ := Arv.cell A
  refine Go.step (fun t q => X.arraylength C.exec (cell := cl) (by rw [eT]; exact A1.1) (State.isArrayOf_alike C.warm.alike A1.2.1) (g := mkF m pc Ls (.ref a :: st)) rfl rfl (C.at hd) t ?_) K
  rw [len_of S N]; exact q
theorem inb {cl : Cell} {z j : Int32} (S : cl.slots.size = z.toNatClampNeg) (h0 : 0 ≤ j.toInt) (h1 : j.toInt < z.toInt) : ¬ (j < 0 ∨ cl.slots.size ≤ j.toNatClampNeg) :=
  inb_of S ⟨fun q => by rw [Int32.lt_iff_toInt_lt] at q; exact absurd q (Int.not_lt.mpr h0), Int32.lt_iff_toInt_lt.mpr h1⟩
theorem g_iaload (C : Cx p l s m meth c Z x0 code maxL ret) (X : Stand p l e R s m args below meth c T locs cells slots) {a : Addr} {k : ClassId} {z j : Int32} {vs : List Value} {d : Value} {v : Int32} (eT : T.heap = h) (A : Arv Z h a k .int z vs d) (h0 : 0 ≤ j.toInt) (h1 : j.toInt < z.toInt) (i : Nat) (hj : j.toNatClampNeg = i) (hv : vs.getD i d = .int v) {pc pc' : Nat} {Ls : Array Slot} {st : List Value} (hd : decode code pc = .ok (.iaload, 1)) (hp : pc + 1 = pc')
    (K : Go p.tables e below G T (mkF m pc' Ls (.int v :: st))) : Go p.tables e below G T (mkF m pc Ls (.int j :: .ref a :: st)) := by
  subst hp
  obtain ⟨cl, A1, S, N, H⟩ := Arv.cell A
  exact Go.step (fun t q => X.iaload C.exec (j := j) (v := .int v) (by rw [eT]; exact A1.1) (State.isArrayOf_alike C.warm.alike A1.2.1) A1.2.2 (inb S h0 h1) (H.at (inb S h0 h1) (by rw [hj]; exact hv)) (g := mkF m pc Ls (.int j :: .ref a :: st)) rfl rfl (C.at hd) t q) K
theorem g_daload (C : Cx p l s m meth c Z x0 code maxL ret) (X : Stand p l e R s m args below meth c T locs cells slots) {a : Addr} {k : ClassId} {z j : Int32} {vs : List Value} {d : Value} {v : UInt64} (eT : T.heap = h) (A : Arv Z h a k .double z vs d) (h0 : 0 ≤ j.toInt) (h1 : j.toInt < z.toInt) (i : Nat) (hj : j.toNatClampNeg = i) (hv : vs.getD i d = .double v) {pc pc' : Nat} {Ls : Array Slot} {st : List Value} (hd : decode code pc = .ok (.daload, 1)) (hp : pc + 1 = pc')
    (K : Go p.tables e below G T (mkF m pc' Ls (.double v :: st))) : Go p.tables e below G T (mkF m pc Ls (.int j :: .ref a :: st)) := by
  subst hp
  obtain ⟨cl, A1, S, N, H⟩ := Arv.cell A
  exact Go.step (fun t q => X.daload C.exec (j := j) (v := .double v) (by rw [eT]; exact A1.1) (State.isArrayOf_alike C.warm.alike A1.2.1) A1.2.2 (inb S h0 h1) (H.at (inb S h0 h1) (by rw [hj]; exact hv)) (g := mkF m pc Ls (.int j :: .ref a :: st)) rfl rfl (C.at hd) t q) K
theorem g_aaload (C : Cx p l s m meth c Z x0 code maxL ret) (X : Stand p l e R s m args below meth c T locs cells slots) {a : Addr} {k : ClassId} {z j : Int32} {ty : FieldType} {vs : List Value} {d v : Value} (eT : T.heap = h) (A : Arv Z h a k ty z vs d) (hty : ty.isReference = true) (hr : v.isRef = true) (h0 : 0 ≤ j.toInt) (h1 : j.toInt < z.toInt) (i : Nat) (hj : j.toNatClampNeg = i) (hv : vs.getD i d = v) {pc pc' : Nat} {Ls : Array Slot} {st : List Value} (hd : decode code pc = .ok (.aaload, 1)) (hp : pc + 1 = pc')
    (K : Go p.tables e below G T (mkF m pc' Ls (v :: st))) : Go p.tables e below G T (mkF m pc Ls (.int j :: .ref a :: st)) := by
  subst hp
  obtain ⟨cl, A1, S, N, H⟩ := Arv.cell A
  exact Go.step (fun t q => X.aaload C.exec (j := j) (v := v) (by rw [eT]; exact A1.1) (State.isArrayOf_alike C.warm.alike A1.2.1) hty A1.2.2 (inb S h0 h1) (H.at (inb S h0 h1) (by rw [hj]; exact hv)) (g := mkF m pc Ls (.int j :: .ref a :: st)) rfl rfl (C.at hd) t q) K
theorem Arv.put {h' : Heap} {a : Addr} {k : ClassId} {ty : FieldType} {z j : Int32} {vs : List Value} {d v : Value} (A : Arv Z h a k ty z vs d) (W : Wr h h' a j.toNatClampNeg v) (hv : fits ty v = true) (i : Nat) (hj : j.toNatClampNeg = i) (n : Nat) (hi : i < vs.length + n) : Arv Z h' a k ty z ((vs ++ List.replicate n d).set i v) d := by
  obtain ⟨cl, A1, q1, S, N, H, Gf⟩ := Arv.pad A (pad_rep vs d n)
  exact Arv.set A1 q1 S N H Gf hv W i hj (by rw [List.length_append, List.length_replicate]; exact hi)
theorem g_iastore (C : Cx p l s m meth c Z x0 code maxL ret) (X : Stand p l e R s m args below meth c T locs cells slots) {a : Addr} {k : ClassId} {z j x : Int32} {vs : List Value} {d : Value} (eT : T.heap = h) (A : Arv Z h a k .int z vs d) (h0 : 0 ≤ j.toInt) (h1 : j.toInt < z.toInt) (i n : Nat) (hj : j.toNatClampNeg = i) (hi : i < vs.length + n) {pc pc' : Nat} {Ls : Array Slot} {st : List Value} (hd : decode code pc = .ok (.iastore, 1)) (hp : pc + 1 = pc')
    (K : ∀ T' h', Stand p l e R s m args below meth c T' (locs ++ [⟨a, j.toNatClampNeg⟩]) cells slots → T'.heap = h' → Wr h h' a j.toNatClampNeg (.int x) → Arv Z h' a k .int z ((vs ++ List.replicate n d).set i (.int x)) d → Go p.tables e below G T' (mkF m pc' Ls st)) : Go p.tables e below G T (mkF m pc Ls (.int x :: .int j :: .ref a :: st)) := by
  subst hp
  obtain ⟨cl, A1, S, N, H⟩ := Arv.cell A
  obtain ⟨T1, h2, X1, e1, W1, st1⟩ := stI X C.exec C.warm eT A1 (inb S h0 h1) (g := mkF m pc Ls (.int x :: .int j :: .ref a :: st)) rfl rfl (C.at hd)
  exact Go.step st1 (K T1 h2 X1 e1 W1 (Arv.put A W1 rfl i hj n hi))
theorem g_dastore (C : Cx p l s m meth c Z x0 code maxL ret) (X : Stand p l e R s m args below meth c T locs cells slots) {a : Addr} {k : ClassId} {z j : Int32} {x : UInt64} {vs : List Value} {d : Value} (eT : T.heap = h) (A : Arv Z h a k .double z vs d) (h0 : 0 ≤ j.toInt) (h1 : j.toInt < z.toInt) (i n : Nat) (hj : j.toNatClampNeg = i) (hi : i < vs.length + n) {pc pc' : Nat} {Ls : Array Slot} {st : List Value} (hd : decode code pc = .ok (.dastore, 1)) (hp : pc + 1 = pc')
    (K : ∀ T' h', Stand p l e R s m args below meth c T' (locs ++ [⟨a, j.toNatClampNeg⟩]) cells slots → T'.heap = h' → Wr h h' a j.toNatClampNeg (.double x) → Arv Z h' a k .double z ((vs ++ List.replicate n d).set i (.double x)) d → Go p.tables e below G T' (mkF m pc' Ls st)) : Go p.tables e below G T (mkF m pc Ls (.double x :: .int j :: .ref a :: st)) := by
  subst hp
  obtain ⟨cl, A1, S, N, H⟩ := Arv.cell A
  obtain ⟨T1, h2, X1, e1, W1, st1⟩ := stD X C.exec C.warm eT A1 (inb S h0 h1) (g := mkF m pc Ls (.double x :: .int j :: .ref a :: st)) rfl rfl (C.at hd)
  exact Go.step st1 (K T1 h2 X1 e1 W1 (Arv.put A W1 rfl i hj n hi))
theorem g_ldc2J (C : Cx p l s m meth c Z x0 code maxL ret) (X : Stand p l e R s m args below meth c T locs cells slots) {index : Nat} {v : Int64} (w : (Cond.constantLong x0.cls index v).before a0 Z = true) {pc pc' : Nat} {Ls : Array Slot} {st : List Value} (hd : decode code pc = .ok (.ldc2_w index, 3)) (hp : pc + 3 = pc')
    (K : Go p.tables e below G T (mkF m pc' Ls (.long v :: st))) : Go p.tables e below G T (mkF m pc Ls st) := by
  subst hp
  exact Go.step (fun t q => X.ldc2Long C.exec C.own (mvT C.warm w) (g := mkF m pc Ls st) rfl (C.at hd) t q) K
theorem g_ldcI (C : Cx p l s m meth c Z x0 code maxL ret) (X : Stand p l e R s m args below meth c T locs cells slots) {index : Nat} {v : Int32} (w : (Cond.constant x0.cls index v).before a0 Z = true) {pc pc' : Nat} {Ls : Array Slot} {st : List Value} (hd : decode code pc = .ok (.ldc index, 2)) (hp : pc + 2 = pc')
    (K : Go p.tables e below G T (mkF m pc' Ls (.int v :: st))) : Go p.tables e below G T (mkF m pc Ls st) := by
  subst hp
  exact Go.step (fun t q => X.ldcInt C.exec C.own (mvT C.warm w) (g := mkF m pc Ls st) rfl (C.at hd) t q) K
theorem FldE.wr {h' : Heap} {a b : Addr} {C n d : String} {sl : Nat} {v : Value} (W : Wr h h' b sl v) (F : ∃ w, Fld Z h a C n d w) : ∃ w, Fld Z h' a C n d w := by
  obtain ⟨w, F⟩ := F
  by_cases q : a ≠ b ∨ RoadKit.slotOf Z C n d ≠ sl
  · exact ⟨w, F.other W q⟩
  · have q1 : a = b := Decidable.not_not.mp fun z => q (Or.inl z)
    have q2 : RoadKit.slotOf Z C n d = sl := Decidable.not_not.mp fun z => q (Or.inr z)
    subst q1 q2
    exact ⟨v, F.same W⟩
theorem g_ldc2D (C : Cx p l s m meth c Z x0 code maxL ret) (X : Stand p l e R s m args below meth c T locs cells slots) {index : Nat} {b : UInt64} (w : (Cond.constantDouble x0.cls index b).before a0 Z = true) {pc pc' : Nat} {Ls : Array Slot} {st : List Value} (hd : decode code pc = .ok (.ldc2_w index, 3)) (hp : pc + 3 = pc')
    (K : Go p.tables e below G T (mkF m pc' Ls (.double b :: st))) : Go p.tables e below G T (mkF m pc Ls st) := by
  subst hp
  exact Go.step (fun t q => X.ldc2DoubleC C.exec C.own (mvT C.warm w) (g := mkF m pc Ls st) rfl (C.at hd) t q) K
end Walk
/-! doubles that are whole numbers -/
section Dbl
open Jvm.FP.Core Jvm.Free.Fl
theorem nn_of_int {i : Int} {a : UInt64} (q : DInt i a) : NoNaN64 a := val64_no.mpr (DInt_ne_nan q)
def cmpI (i j : Int) : Int32 := if j < i then 1 else if i = j then 0 else -1
theorem cmpI_lt (i j : Int) : (cmpI i j).toInt < 0 ↔ i < j := by
  unfold cmpI
  split
  · exact ⟨fun q => absurd q (by decide), fun q => by omega⟩
  · split
    · exact ⟨fun q => absurd q (by decide), fun q => by omega⟩
    · exact ⟨fun _ => by omega, fun _ => by decide⟩
theorem cmpI_gt (i j : Int) : 0 < (cmpI i j).toInt ↔ j < i := by
  unfold cmpI
  split
  · exact ⟨fun _ => by assumption, fun _ => by decide⟩
  · split
    · exact ⟨fun q => absurd q (by decide), fun q => by omega⟩
    · exact ⟨fun q => absurd q (by decide), fun q => by omega⟩
theorem cmpI_eq (i j : Int) : (cmpI i j).toInt = 0 ↔ i = j := by
  unfold cmpI
  split
  · exact ⟨fun q => absurd q (by decide), fun q => by omega⟩
  · split
    · exact ⟨fun _ => by assumption, fun _ => by decide⟩
    · exact ⟨fun q => absurd q (by decide), fun q => by omega⟩
theorem cmpI_self (i : Int) : cmpI i i = 0 := by
  unfold cmpI
  rw [if_neg (Int.lt_irrefl i), if_pos rfl]
theorem cmpL_lt (x y : Int64) : (XT.cmpL x y).toInt < 0 ↔ x.toInt < y.toInt := by
  unfold XT.cmpL
  rw [← Int64.lt_iff_toInt_lt]
  split
  · rename_i q; exact ⟨fun q => absurd q (by decide), fun q' => absurd q' (Int64.lt_asymm q)⟩
  · split
    · rename_i q; subst q; exact ⟨fun q => absurd q (by decide), fun q' => absurd q' Int64.lt_irrefl⟩
    · rename_i q1 q2; exact ⟨fun _ => by have q3 : ¬ x.toInt = y.toInt := fun q => q2 (Int64.toInt_inj.mp q); rw [Int64.lt_iff_toInt_lt] at q1 ⊢; omega, fun _ => by decide⟩
theorem cmpL_gt (x y : Int64) : 0 < (XT.cmpL x y).toInt ↔ y.toInt < x.toInt := by
  unfold XT.cmpL
  rw [← Int64.lt_iff_toInt_lt]
  split
  · rename_i q; exact ⟨fun _ => q, fun _ => by decide⟩
  · split
    · rename_i q0 q; exact ⟨fun q => absurd q (by decide), fun q' => absurd q' q0⟩
    · rename_i q0 q; exact ⟨fun q => absurd q (by decide), fun q' => absurd q' q0⟩
theorem cmpL_eq (x y : Int64) : (XT.cmpL x y).toInt = 0 ↔ x.toInt = y.toInt := by
  unfold XT.cmpL
  rw [Int64.toInt_inj]
  split
  · rename_i q; exact ⟨fun q => absurd q (by decide), fun q' => absurd q (by rw [q']; exact Int64.lt_irrefl)⟩
  · split
    · rename_i q; exact ⟨fun _ => q, fun _ => by decide⟩
    · rename_i q0 q; exact ⟨fun q => absurd q (by decide), fun q' => absurd q' q⟩
theorem cmpV_of {r : Option Ordering} {i j : Int} (q : r = some (compare i j)) (o : CmpOp) : cmpValue r o = cmpI i j := by
  subst q
  unfold cmpI
  split
  · rename_i q; rw [(compare_gt_iff i j).mpr q]; rfl
  · split
    · rename_i q; rw [(compare_eq_iff i j).mpr q]; rfl
    · rename_i q1 q2; rw [(compare_lt_iff i j).mpr (by omega)]; rfl
theorem dcmp_cmpI {i j : Int} {a b : UInt64} (ha : DInt i a) (hb : DInt j b) (o : CmpOp) : cmpValue (FP.dcmp a b) o = cmpI i j := cmpV_of (dcmp_int ha hb) o
theorem dint_zero : DInt 0 FP.dconst0 := by
  unfold DInt
  rw [show val64 FP.dconst0 = _ from val64_dconst0]
  show signed false (0 * _) = 0 * _
  rw [Nat.zero_mul, Int.zero_mul]; rfl
end Dbl
end Jvm.OwnKit
namespace Jvm.OwnKit
open Sem ClassFile Op Lib Jvm.Stand Jvm.Free Jvm.LawKit Jvm.RoadKit
section More
variable {p : Program} {l : Launch} {e : Env} {R : Room} {s : State} {m : MethodId} {args : Array Value} {below : List Frame} {meth : Method} {c : Code} {T : State} {locs : List Loc} {cells slots : Nat} {Z : State} {a0 : Array Value} {h : Heap} {G : Outcome → State → Prop}
variable {x0 : MethodName} {code : ByteArray} {maxL : Nat} {ret : Option FieldType}
theorem g_newPE (C : Cx p l s m meth c Z x0 code maxL ret) (X : Stand p l e R s m args below meth c T locs cells slots) {aty : ArrayType} {ad : String} (had : "[" ++ (newarray.typeOf aty).toString = ad) (w : (Cond.arrayClass (newarray.typeOf aty)).before a0 Z = true) (eT : T.heap = h)
    {pc pc' : Nat} {Ls : Array Slot} {st : List Value} {z : Int32} (hd : decode code pc = .ok (.newarray aty, 2)) (hz : ¬ z < 0) (cap : Nat) (hcap : z.toNatClampNeg ≤ cap) (hb : cap * 8 ≤ 536870912) (hc : cells + 1 ≤ R.cells) (hl : slots + cap ≤ R.slots) (hp : pc + 2 = pc')
    (K : ∀ T' h' a k, a = h.size → Stand p l e R s m args below meth c T' locs (cells + 1) (slots + cap) → T'.heap = h' → Ext h h' → Arv Z h' a k (newarray.typeOf aty) z [] (defaultValue (newarray.typeOf aty)) → Exa Z h' a ad → Go p.tables e below G T' (mkF m pc' Ls (.ref a :: st))) :
    Go p.tables e below G T (mkF m pc Ls (.int z :: st)) := by
  subst hp
  obtain ⟨T1, h1, cA, X1, e1, E1, A1, B1, st1⟩ := newPE X C.exec C.warm w eT (g := mkF m pc Ls (.int z :: st)) rfl (C.at hd) rfl hz hcap hb hc hl had
  exact Go.step st1 (K T1 h1 h.size cA rfl X1 e1 E1 (Arv.new A1 hz) B1)
theorem g_clone (C : Cx p l s m meth c Z x0 code maxL ret) (X : Stand p l e R s m args below meth c T locs cells slots) {index : Nat} {ad : String} {ty : FieldType} (w1 : (Cond.methodLink x0.cls index ⟨ad, "clone", "()Ljava/lang/Object;"⟩).before a0 Z = true) (w2 : (Cond.sameMethod ad "java/lang/Object" "clone" "()Ljava/lang/Object;").before a0 Z = true) (w3 : (Cond.native ⟨"java/lang/Object", "clone", "()Ljava/lang/Object;"⟩).before a0 Z = true)
    (w4 : (Cond.instanceMethod ⟨"java/lang/Object", "clone", "()Ljava/lang/Object;"⟩).before a0 Z = true) (w5 : (Cond.selects ad ⟨ad, "clone", "()Ljava/lang/Object;"⟩ ⟨"java/lang/Object", "clone", "()Ljava/lang/Object;"⟩).before a0 Z = true) (w6 : (Cond.castable ad "java/lang/Cloneable").before a0 Z = true) (eT : T.heap = h)
    {a : Addr} {k : ClassId} {z : Int32} {vs : List Value} {d : Value} (A : Arv Z h a k ty z vs d) (E : Exa Z h a ad) {pc pc' : Nat} {Ls : Array Slot} {rest : List Value} (hd : decode code pc = .ok (.invokevirtual index, 3)) (hsz : Ls.size = maxL) (W : Nat) (hW : (rest.map fun v => v.category).sum = W) (hfr : 1 ≤ R.frames) (hlo : W + 14 ≤ R.locals)
    (cap : Nat) (hcap : z.toNatClampNeg ≤ cap) (hc : cells + 1 ≤ R.cells) (hl : slots + cap ≤ R.slots) (hp : pc + 3 = pc')
    (K : ∀ T' h' a', a' = h.size → Stand p l e R s m args below meth c T' locs (cells + 1) (slots + cap) → T'.heap = h' → Ext h h' → Arv Z h' a' k ty z vs d → Exa Z h' a' ad → Go p.tables e below G T' (mkF m pc' Ls (.ref a' :: rest))) :
    Go p.tables e below G T (mkF m pc Ls (.ref a :: rest)) := by
  subst hp
  obtain ⟨T1, h1, X1, e1, E1, A1, B1, st1⟩ := cloneH X C.exec C.warm C.own w1 w2 w3 w4 w5 w6 eT A.arh E (g := mkF m pc Ls (.ref a :: rest)) rfl (by rw [C.maxl]; exact hsz) rfl (C.at hd) hfr (W := W) (by show 2 * 0 + _ ≤ _; rw [hW]; omega) hlo hcap hc hl
  exact Go.step st1 (K T1 h1 h.size rfl X1 e1 E1 A1 B1)
theorem g_cast (C : Cx p l s m meth c Z x0 code maxL ret) (X : Stand p l e R s m args below meth c T locs cells slots) {cls : String} {index : Nat} (w : (Cond.classLink x0.cls index cls).before a0 Z = true) (eT : T.heap = h) {a : Addr} (F : Ins Z h a cls true) {pc pc' : Nat} {Ls : Array Slot} {rest : List Value} (hd : decode code pc = .ok (.checkcast index, 3)) (hp : pc + 3 = pc')
    (K : ∀ T', Stand p l e R s m args below meth c T' locs cells slots → T'.heap = h → Go p.tables e below G T' (mkF m pc' Ls (.ref a :: rest))) : Go p.tables e below G T (mkF m pc Ls (.ref a :: rest)) := by
  subst hp
  obtain ⟨T1, X1, e1, st1⟩ := castY X C.exec C.warm C.own w eT F (g := mkF m pc Ls (.ref a :: rest)) rfl rfl (C.at hd)
  exact Go.step st1 (K T1 X1 e1)
theorem g_acmpY (C : Cx p l s m meth c Z x0 code maxL ret) (X : Stand p l e R s m args below meth c T locs cells slots) {pc pc' : Nat} {Ls : Array Slot} {st : List Value} {cd : ClassFile.ACond} {v w : Value} {o : Int} (hd : decode code pc = .ok (.if_acmp cd o, 3)) (hv : v.isRef = true) (hw : w.isRef = true) (hc : XT.acmp cd v w = true) (ho : 0 ≤ (pc : Int) + o) (hp : ((pc : Int) + o).toNat = pc')
    (K : Go p.tables e below G T (mkF m pc' Ls st)) : Go p.tables e below G T (mkF m pc Ls (w :: v :: st)) :=
  Go.step (fun _ k => XT.acmpYes X.here C.exec rfl rfl (C.at hd) rfl hv hw hc ho hp k) K
theorem g_acmpN (C : Cx p l s m meth c Z x0 code maxL ret) (X : Stand p l e R s m args below meth c T locs cells slots) {pc pc' : Nat} {Ls : Array Slot} {st : List Value} {cd : ClassFile.ACond} {v w : Value} {o : Int} (hd : decode code pc = .ok (.if_acmp cd o, 3)) (hv : v.isRef = true) (hw : w.isRef = true) (hc : XT.acmp cd v w = false) (hp : pc + 3 = pc')
    (K : Go p.tables e below G T (mkF m pc' Ls st)) : Go p.tables e below G T (mkF m pc Ls (w :: v :: st)) := by
  subst hp
  exact Go.step (fun _ k => XT.acmpNo X.here C.exec rfl (C.at hd) rfl hv hw hc k) K
theorem ac_same (v : Value) : XT.acmp .eq v v = true ∧ XT.acmp .ne v v = false := by simp [XT.acmp]
theorem ac_diff {v w : Value} (q : v ≠ w) : XT.acmp .eq v w = false ∧ XT.acmp .ne v w = true := by simp [XT.acmp, q]
theorem ref_ne {a b : Addr} (q : a ≠ b) : Value.ref a ≠ Value.ref b := fun z => q (Value.ref.inj z)
theorem g_ifnullY (C : Cx p l s m meth c Z x0 code maxL ret) (X : Stand p l e R s m args below meth c T locs cells slots) {pc pc' : Nat} {Ls : Array Slot} {st : List Value} {o : Int} (hd : decode code pc = .ok (.ifnull o, 3)) (ho : 0 ≤ (pc : Int) + o) (hp : ((pc : Int) + o).toNat = pc')
    (K : Go p.tables e below G T (mkF m pc' Ls st)) : Go p.tables e below G T (mkF m pc Ls (.null :: st)) :=
  Go.step (fun _ k => XS.ifnullYes X.here C.exec rfl rfl (C.at hd) rfl ho hp k) K
theorem g_ifnullN (C : Cx p l s m meth c Z x0 code maxL ret) (X : Stand p l e R s m args below meth c T locs cells slots) {pc pc' : Nat} {Ls : Array Slot} {st : List Value} {a : Addr} {o : Int} (hd : decode code pc = .ok (.ifnull o, 3)) (hp : pc + 3 = pc')
    (K : Go p.tables e below G T (mkF m pc' Ls st)) : Go p.tables e below G T (mkF m pc Ls (.ref a :: st)) := by
  subst hp
  exact Go.step (fun _ k => XS.ifnullNo X.here C.exec rfl (C.at hd) rfl k) K
theorem g_ifnonnullN (C : Cx p l s m meth c Z x0 code maxL ret) (X : Stand p l e R s m args below meth c T locs cells slots) {pc pc' : Nat} {Ls : Array Slot} {st : List Value} {o : Int} (hd : decode code pc = .ok (.ifnonnull o, 3)) (hp : pc + 3 = pc')
    (K : Go p.tables e below G T (mkF m pc' Ls st)) : Go p.tables e below G T (mkF m pc Ls (.null :: st)) := by
  subst hp
  exact Go.step (fun _ k => XT.ifnonnullNo X.here C.exec rfl (C.at hd) rfl k) K
theorem g_ifnonnullY (C : Cx p l s m meth c Z x0 code maxL ret) (X : Stand p l e R s m args below meth c T locs cells slots) {pc pc' : Nat} {Ls : Array Slot} {st : List Value} {a : Addr} {o : Int} (hd : decode code pc = .ok (.ifnonnull o, 3)) (ho : 0 ≤ (pc : Int) + o) (hp : ((pc : Int) + o).toNat = pc')
    (K : Go p.tables e below G T (mkF m pc' Ls st)) : Go p.tables e below G T (mkF m pc Ls (.ref a :: st)) :=
  Go.step (fun _ k => XT.ifnonnullYes X.here C.exec rfl rfl (C.at hd) rfl ho hp k) K
theorem g_getS (C : Cx p l s m meth c Z x0 code maxL ret) (X : Stand p l e R s m args below meth c T locs cells slots) {R0 O n d : String} {index : Nat} (w : (Cond.fieldLink x0.cls index R0 n d).before a0 Z = true) (via : Via Z R0 O n d) (eT : T.heap = h) {v : Value} (F : Sta Z h O n d v)
    {pc pc' : Nat} {Ls : Array Slot} {st : List Value} (hd : decode code pc = .ok (.getstatic index, 3)) (hp : pc + 3 = pc')
    (K : ∀ T', Stand p l e R s m args below meth c T' locs cells slots → T'.heap = h → Go p.tables e below G T' (mkF m pc' Ls (v :: st))) : Go p.tables e below G T (mkF m pc Ls st) := by
  subst hp
  obtain ⟨T1, X1, e1, st1⟩ := getS (host := "") X C.exec C.warm C.own w via eT F (g := mkF m pc Ls st) rfl (C.at hd)
  exact Go.step st1 (K T1 X1 e1)
theorem g_lshl (C : Cx p l s m meth c Z x0 code maxL ret) (X : Stand p l e R s m args below meth c T locs cells slots) {pc pc' : Nat} {Ls : Array Slot} {st : List Value} {x : Int64} {y : Int32} (hd : decode code pc = .ok (.lshl, 1)) (hp : pc + 1 = pc')
    (K : Go p.tables e below G T (mkF m pc' Ls (.long (x <<< (y.toInt64 &&& 63)) :: st))) : Go p.tables e below G T (mkF m pc Ls (.int y :: .long x :: st)) := by
  subst hp; exact Go.step (fun _ k => XT.lshl X.here C.exec rfl (C.at hd) rfl k) K
end More
end Jvm.OwnKit
namespace Jvm.OwnKit
section Dbl
open Jvm.FP.Core Jvm.Free.Fl
theorem i2d_D (x : Int32) : DInt x.toInt (FP.i2d x) := i2d_int x
theorem l2d_D {x : Int64} (h : x.toInt.natAbs ≤ 2 ^ 53) : DInt x.toInt (FP.l2d x) := l2d_int h
theorem dadd_D {i j : Int} {a b : UInt64} (ha : DInt i a) (hb : DInt j b) (h : (i + j).natAbs ≤ 2 ^ 53) : DInt (i + j) (FP.dadd a b) := dadd_int ha hb h
theorem dsub_D {i j : Int} {a b : UInt64} (ha : DInt i a) (hb : DInt j b) (h : (i - j).natAbs ≤ 2 ^ 53) : DInt (i - j) (FP.dsub a b) := dsub_int ha hb h
theorem dmul_D {i j : Int} {a b : UInt64} (ha : DInt i a) (hb : DInt j b) (h : (i * j).natAbs ≤ 2 ^ 53) : DInt (i * j) (FP.dmul a b) := dmul_int ha hb h
theorem dint_one' : DInt 1 FP.dconst1 := dint_one
theorem dneg_int' {i : Int} {a : UInt64} (ha : DInt i a) : DInt (-i) (FP.dneg a) := by
  unfold DInt
  rw [FP.val64_dneg]
  exact whole_negate ha
theorem own_pow_cancel {c k d q1 q2 r1 r2 : Nat} {q r : Int} (hq : (q1 : Int) - q2 = q) (hr : (r1 : Int) - r2 = r) (h : c * 2 ^ (q1 + r2) = k * d * 2 ^ (q2 + r1)) : c * 2 ^ (q - r).toNat = k * d * 2 ^ (r - q).toNat := by
  obtain ⟨n, hn⟩ : ∃ n : Nat, n = min (q1 + r2) (q2 + r1) := ⟨_, rfl⟩
  have e1 : q1 + r2 = (q - r).toNat + n := by omega
  have e2 : q2 + r1 = (r - q).toNat + n := by omega
  rw [e1, e2, Nat.pow_add, Nat.pow_add, ← Nat.mul_assoc, ← Nat.mul_assoc] at h
  exact Nat.eq_of_mul_eq_mul_right (Nat.two_pow_pos n) h
theorem ddiv_int {i j k : Int} {a b : UInt64} (ha : DInt i a) (hb : DInt j b) (hj : j ≠ 0) (hk : i = k * j) (h : k.natAbs ≤ 2 ^ 53) : DInt k (FP.ddiv a b) := by
  unfold DInt at *
  show Whole k (val64 (ddiv a b))
  rw [val64_ddiv]
  cases hva : val64 a with
  | nan => rw [hva] at ha; exact ha.elim
  | inf => rw [hva] at ha; exact ha.elim
  | fin s c q =>
    cases hvb : val64 b with
    | nan => rw [hvb] at hb; exact hb.elim
    | inf => rw [hvb] at hb; exact hb.elim
    | fin t d r =>
      rw [hva] at ha
      rw [hvb] at hb
      have hd : d ≠ 0 := fun q => hj ((whole_zero hb).mp q)
      have h1 := whole_natAbs ha
      have h2 := whole_natAbs hb
      have e1 : quotient b64 (.fin s c q) (.fin t d r) = round b64 (.fin (s != t) k.natAbs 0) := by
        show (if d = 0 then _ else roundRatio b64 (s != t) c d (q - r)) = roundRatio b64 (s != t) k.natAbs 1 0
        rw [if_neg hd]
        refine roundRatio_congr (by omega) (by decide) ?_
        have e2 : c * 2 ^ (q.toNat + (-r).toNat) = k.natAbs * d * 2 ^ ((-q).toNat + r.toNat) := by
          rw [Nat.pow_add, Nat.pow_add, ← Nat.mul_assoc, h1, hk, Int.natAbs_mul]
          calc k.natAbs * j.natAbs * 2 ^ (-q).toNat * 2 ^ (-r).toNat = k.natAbs * 2 ^ (-q).toNat * (j.natAbs * 2 ^ (-r).toNat) := by ac_rfl
            _ = k.natAbs * 2 ^ (-q).toNat * (d * 2 ^ r.toNat) := by rw [h2]
            _ = k.natAbs * d * (2 ^ (-q).toNat * 2 ^ r.toNat) := by ac_rfl
        have e3 := own_pow_cancel (q := q) (r := r) (by omega) (by omega) e2
        rw [Nat.mul_one, show (q - r - 0).toNat = (q - r).toNat by omega, show (0 - (q - r)).toNat = (r - q).toNat by omega]
        exact e3
      rw [e1]
      refine whole_round good_b64 wide_b64 h ?_
      show signed (s != t) (k.natAbs * 2 ^ 0) = k * ((2 ^ 0 : Nat) : Int)
      rw [Nat.pow_zero, Nat.mul_one]
      by_cases hk0 : k = 0
      · subst hk0; exact signed_zero _
      · have hi : i ≠ 0 := by rw [hk]; exact Int.mul_ne_zero hk0 hj
        rw [whole_sign ha hi, whole_sign hb hj]
        unfold signed
        rcases Int.lt_or_gt_of_ne hj with q1 | q1 <;> rcases Int.lt_or_gt_of_ne hk0 with q2 | q2
        · have q3 := Int.mul_pos_of_neg_of_neg q2 q1
          rw [← hk] at q3
          simp [q1, show ¬ i < 0 by omega]; omega
        · have q3 := Int.mul_neg_of_pos_of_neg q2 q1
          rw [← hk] at q3
          simp [q1, q3]; omega
        · have q3 := Int.mul_neg_of_neg_of_pos q2 q1
          rw [← hk] at q3
          simp [show ¬ j < 0 by omega, q3]; omega
        · have q3 := Int.mul_pos q2 q1
          rw [← hk] at q3
          simp [show ¬ j < 0 by omega, show ¬ i < 0 by omega]; omega
end Dbl
end Jvm.OwnKit
namespace Jvm.Pilot.@@N@@
open Jvm Jvm.ClassFile Sem Op Lib Jvm.Free Jvm.Stand Jvm.LawKit Jvm.RoadKit Jvm.OwnKit Bundle Jvm.Pilot.@@N@@.Jvm.D
theorem d1_0 : decode prog_38_method_14_code 0 = .ok (.aload_n 0, 1) := by decide +kernel
theorem d1_1 : decode prog_38_method_14_code 1 = .ok (.astore_n 3, 1) := by decide +kernel
theorem d1_2 : decode prog_38_method_14_code 2 = .ok (.iconst 0, 1) := by decide +kernel
theorem d1_3 : decode prog_38_method_14_code 3 = .ok (.istore 4, 2) := by decide +kernel
theorem d1_5 : decode prog_38_method_14_code 5 = .ok (.iload 4, 2) := by decide +kernel
theorem d1_7 : decode prog_38_method_14_code 7 = .ok (.aload_n 0, 1) := by decide +kernel
theorem d1_8 : decode prog_38_method_14_code 8 = .ok (.arraylength, 1) := by decide +kernel
theorem d1_9 : decode prog_38_method_14_code 9 = .ok (.if_icmp .ge 36, 3) := by decide +kernel
theorem d1_12 : decode prog_38_method_14_code 12 = .ok (.aload_n 0, 1) := by decide +kernel
theorem d1_13 : decode prog_38_method_14_code 13 = .ok (.iload 4, 2) := by decide +kernel
theorem d1_15 : decode prog_38_method_14_code 15 = .ok (.daload, 1) := by decide +kernel
theorem d1_16 : decode prog_38_method_14_code 16 = .ok (.dload_n 1, 1) := by decide +kernel
theorem d1_17 : decode prog_38_method_14_code 17 = .ok (.dcmp .l, 1) := by decide +kernel
theorem d1_18 : decode prog_38_method_14_code 18 = .ok (.ifCond .le 21, 3) := by decide +kernel
theorem d1_21 : decode prog_38_method_14_code 21 = .ok (.aload_n 3, 1) := by decide +kernel
theorem d1_22 : decode prog_38_method_14_code 22 = .ok (.aload_n 0, 1) := by decide +kernel
theorem d1_23 : decode prog_38_method_14_code 23 = .ok (.if_acmp .ne 11, 3) := by decide +kernel
theorem d1_26 : decode prog_38_method_14_code 26 = .ok (.aload_n 0, 1) := by decide +kernel
theorem d1_27 : decode prog_38_method_14_code 27 = .ok (.invokevirtual 103, 3) := by decide +kernel
theorem d1_30 : decode prog_38_method_14_code 30 = .ok (.checkcast 95, 3) := by decide +kernel
theorem d1_33 : decode prog_38_method_14_code 33 = .ok (.astore_n 3, 1) := by decide +kernel
theorem d1_34 : decode prog_38_method_14_code 34 = .ok (.aload_n 3, 1) := by decide +kernel
theorem d1_35 : decode prog_38_method_14_code 35 = .ok (.iload 4, 2) := by decide +kernel
theorem d1_37 : decode prog_38_method_14_code 37 = .ok (.dload_n 1, 1) := by decide +kernel
theorem d1_38 : decode prog_38_method_14_code 38 = .ok (.dastore, 1) := by decide +kernel
theorem d1_39 : decode prog_38_method_14_code 39 = .ok (.iinc 4 1, 3) := by decide +kernel
theorem d1_42 : decode prog_38_method_14_code 42 = .ok (.goto (-37), 3) := by decide +kernel
theorem d1_45 : decode prog_38_method_14_code 45 = .ok (.aload_n 3, 1) := by decide +kernel
theorem d1_46 : decode prog_38_method_14_code 46 = .ok (.areturn, 1) := by decide +kernel
theorem d2_0 : decode method_3_code 0 = .ok (.iload_n 2, 1) := by decide +kernel
theorem d2_1 : decode method_3_code 1 = .ok (.iload_n 3, 1) := by decide +kernel
theorem d2_2 : decode method_3_code 2 = .ok (.if_icmp .lt 5, 3) := by decide +kernel
theorem d2_5 : decode method_3_code 5 = .ok (.iconst 1, 1) := by decide +kernel
theorem d2_6 : decode method_3_code 6 = .ok (.ireturn, 1) := by decide +kernel
theorem d2_7 : decode method_3_code 7 = .ok (.dload 4, 2) := by decide +kernel
theorem d2_9 : decode method_3_code 9 = .ok (.dload 6, 2) := by decide +kernel
theorem d2_11 : decode method_3_code 11 = .ok (.dcmp .l, 1) := by decide +kernel
theorem d2_12 : decode method_3_code 12 = .ok (.ifCond .le 8, 3) := by decide +kernel
theorem d2_15 : decode method_3_code 15 = .ok (.dload 6, 2) := by decide +kernel
theorem d2_17 : decode method_3_code 17 = .ok (.goto 5, 3) := by decide +kernel
theorem d2_20 : decode method_3_code 20 = .ok (.dload 4, 2) := by decide +kernel
theorem d2_22 : decode method_3_code 22 = .ok (.dstore 8, 2) := by decide +kernel
theorem d2_24 : decode method_3_code 24 = .ok (.aload_n 0, 1) := by decide +kernel
theorem d2_25 : decode method_3_code 25 = .ok (.iload_n 2, 1) := by decide +kernel
theorem d2_26 : decode method_3_code 26 = .ok (.daload, 1) := by decide +kernel
theorem d2_27 : decode method_3_code 27 = .ok (.dload 8, 2) := by decide +kernel
theorem d2_29 : decode method_3_code 29 = .ok (.dcmp .l, 1) := by decide +kernel
theorem d2_30 : decode method_3_code 30 = .ok (.ifCond .ne 16, 3) := by decide +kernel
theorem d2_33 : decode method_3_code 33 = .ok (.aload_n 1, 1) := by decide +kernel
theorem d2_34 : decode method_3_code 34 = .ok (.iload_n 2, 1) := by decide +kernel
theorem d2_35 : decode method_3_code 35 = .ok (.daload, 1) := by decide +kernel
theorem d2_36 : decode method_3_code 36 = .ok (.dload 4, 2) := by decide +kernel
theorem d2_38 : decode method_3_code 38 = .ok (.dcmp .l, 1) := by decide +kernel
theorem d2_39 : decode method_3_code 39 = .ok (.ifCond .ne 7, 3) := by decide +kernel
theorem d2_42 : decode method_3_code 42 = .ok (.iconst 1, 1) := by decide +kernel
theorem d2_43 : decode method_3_code 43 = .ok (.goto 4, 3) := by decide +kernel
theorem d2_46 : decode method_3_code 46 = .ok (.iconst 0, 1) := by decide +kernel
theorem d2_47 : decode method_3_code 47 = .ok (.ireturn, 1) := by decide +kernel
theorem pn0 : plainName x.cls = true := by first | (simp [x, plainName, overriddenIn]; done) | decide +kernel
theorem pnA : plainName "com/example/sitewise/sitewise/UncapacitatedInstance" = true := by first | (simp [plainName, overriddenIn]; done) | decide +kernel
theorem pnS : plainName "com/example/sitewise/sitewise/UncapacitatedInstanceAtMostPinLaw" = true := by first | (simp [plainName, overriddenIn]; done) | decide +kernel
theorem pdA : parseMethodDescriptor "([DD)[D" = some ⟨[.array .double, .double], some (.array .double)⟩ := by decide +kernel
theorem pdS : parseMethodDescriptor "([D[DIIDD)Z" = some ⟨[.array .double, .array .double, .int, .int, .double, .double], some .boolean⟩ := by decide +kernel
theorem efA (m : MethodId) (a : Addr) (x : UInt64) : entryFrame m #[(.ref a), (.double x)] 5 = mkF m 0 #[.val (.ref a), .val (.double x), .second, .unset, .unset] [] := by first | (simp [entryFrame, mkF, argsToLocals, Value.category, maxLocals]; done) | rfl
theorem efS (m : MethodId) (a b : Addr) (i j : Int32) (x y : UInt64) : entryFrame m #[(.ref a), (.ref b), (.int i), (.int j), (.double x), (.double y)] 10 = mkF m 0 #[.val (.ref a), .val (.ref b), .val (.int i), .val (.int j), .val (.double x), .second, .val (.double y), .second, .unset, .unset] [] := by first | (simp [entryFrame, mkF, argsToLocals, Value.category, maxLocals]; done) | rfl
theorem ef0 (m : MethodId) (x0 x1 x2 x3 x4 : Int32) : entryFrame m #[(.int x0), (.int x1), (.int x2), (.int x3), (.int x4)] maxLocals = mkF m 0 #[.val (.int x0), .val (.int x1), .val (.int x2), .val (.int x3), .val (.int x4), .unset, .unset, .unset, .unset, .unset, .unset, .unset, .unset, .unset, .unset, .unset, .unset] [] := by first | (simp [entryFrame, mkF, argsToLocals, Value.category, maxLocals]; done) | rfl
def own_cut (E i t : Int) : Prop := (E < i ∧ t = E) ∨ (¬ E < i ∧ t = i)
set_option maxRecDepth 65536 in
set_option maxHeartbeats 40000000 in
theorem c_am0 (l : Launch) (Z : State) (a0 : Array Value) (hw : ∀ d ∈ tables_1, d.before a0 Z = true) (h : Heap) (n0 : Nat) (Z0 : n0 ≤ h.size) (a : Addr) (k : ClassId) (x : UInt64) (E : Int) (DE : FP.Core.DInt E x) (A : Arv Z h a k .double (0 : Int32) [] (.double (0 : UInt64))) (B : Exa Z h a "[D") :
    Con l Z (⟨"com/example/sitewise/sitewise/UncapacitatedInstance", "atMost", "([DD)[D"⟩ : MethodName) prog_38_method_14_code 5 (some (.array .double)) ⟨1, 1, 0, 20⟩ #[.ref a, .double x] h (fun v h' L => ∃ ar kk, v = some (.ref ar) ∧ Fr n0 L ∧ Keep h h' [] ∧ ((ar = a ∧ ¬ (False)) ∨ (ar ≠ a ∧ (False))) ∧ Arv Z h' ar kk .double (0 : Int32) [] (.double (0 : UInt64))) := by
  refine con_of_go pnA (fun m => efA m a x) ?_
  intro p e s m below meth c T0 C X0 e0
  refine g_aloadN C X0 (pc' := 1) d1_0 rfl rfl rfl ?_
  refine g_astoreN C X0 (pc' := 2) d1_1 rfl (l' := #[.val (.ref a), .val (.double x), .second, .val (.ref a), .unset]) rfl rfl ?_
  refine g_iconst C X0 (pc' := 3) d1_2 (v := (0 : Int32)) (by decide) rfl ?_
  refine g_istore C X0 (pc' := 5) d1_3 (x := (0 : Int32)) rfl (l' := #[.val (.ref a), .val (.double x), .second, .val (.ref a), .val (.int (0 : Int32))]) rfl rfl ?_
  refine g_iload C X0 (pc' := 7) d1_5 rfl rfl ?_
  refine g_aloadN C X0 (pc' := 8) d1_7 rfl rfl rfl ?_
  refine g_len C X0 (pc' := 9) e0 A d1_8 rfl ?_
  refine g_icmpY C X0 d1_9 (pc' := 45) (by decide) (by decide) (by decide) ?_
  refine g_aloadN C X0 (pc' := 46) d1_45 rfl rfl rfl ?_
  exact g_areturn C X0 d1_46 rfl rfl rfl ⟨a, k, rfl, (Fr.nil n0), by rw [e0]; exact (Keep.refl h []), Or.inl ⟨rfl, id⟩, by rw [e0]; exact A⟩ (by decide) (by decide)
set_option maxRecDepth 65536 in
set_option maxHeartbeats 40000000 in
theorem c_am1 (l : Launch) (Z : State) (a0 : Array Value) (hw : ∀ d ∈ tables_1, d.before a0 Z = true) (h : Heap) (n0 : Nat) (Z0 : n0 ≤ h.size) (a : Addr) (k : ClassId) (x : UInt64) (x0 : UInt64) (E : Int) (i0 : Int) (DE : FP.Core.DInt E x) (D0 : FP.Core.DInt i0 x0) (A : Arv Z h a k .double (1 : Int32) [.double x0] (.double (0 : UInt64))) (B : Exa Z h a "[D") :
    Con l Z (⟨"com/example/sitewise/sitewise/UncapacitatedInstance", "atMost", "([DD)[D"⟩ : MethodName) prog_38_method_14_code 5 (some (.array .double)) ⟨1, 1, 1, 20⟩ #[.ref a, .double x] h (fun v h' L => ∃ ar kk, v = some (.ref ar) ∧ Fr n0 L ∧ Keep h h' [] ∧ ((ar = a ∧ ¬ (E < i0)) ∨ (ar ≠ a ∧ (E < i0))) ∧ ∃ y0 t0, FP.Core.DInt t0 y0 ∧ own_cut E i0 t0 ∧ Arv Z h' ar kk .double (1 : Int32) [.double y0] (.double (0 : UInt64))) := by
  refine con_of_go pnA (fun m => efA m a x) ?_
  intro p e s m below meth c T0 C X0 e0
  refine g_aloadN C X0 (pc' := 1) d1_0 rfl rfl rfl ?_
  refine g_astoreN C X0 (pc' := 2) d1_1 rfl (l' := #[.val (.ref a), .val (.double x), .second, .val (.ref a), .unset]) rfl rfl ?_
  refine g_iconst C X0 (pc' := 3) d1_2 (v := (0 : Int32)) (by decide) rfl ?_
  refine g_istore C X0 (pc' := 5) d1_3 (x := (0 : Int32)) rfl (l' := #[.val (.ref a), .val (.double x), .second, .val (.ref a), .val (.int (0 : Int32))]) rfl rfl ?_
  refine g_iload C X0 (pc' := 7) d1_5 rfl rfl ?_
  refine g_aloadN C X0 (pc' := 8) d1_7 rfl rfl rfl ?_
  refine g_len C X0 (pc' := 9) e0 A d1_8 rfl ?_
  refine g_icmpN C X0 d1_9 (by decide) rfl ?_
  refine g_aloadN C X0 (pc' := 13) d1_12 rfl rfl rfl ?_
  refine g_iload C X0 (pc' := 15) d1_13 rfl rfl ?_
  refine g_daload C X0 (pc' := 16) e0 A (by decide) (by decide) 0 (by decide) rfl d1_15 rfl ?_
  refine g_dloadN C X0 (pc' := 17) d1_16 rfl rfl ?_
  refine g_dcmpV C X0 (pc' := 18) d1_17 (dcmp_cmpI D0 DE _) rfl ?_
  refine g_if C X0 d1_18 (pc' := 39) (pc'' := 21) (by decide) (by decide) rfl (fun c18 => ?_) (fun c18 => ?_)
  · have c18 : ¬ (0 < (cmpI i0 E).toInt) := c18
    have c18 : ¬ (E < i0) := fun q => c18 ((cmpI_gt _ _).mpr q)
    refine g_iinc C X0 (pc' := 42) d1_39 rfl (z := (1 : Int32)) (by decide) (l' := #[.val (.ref a), .val (.double x), .second, .val (.ref a), .val (.int (1 : Int32))]) rfl rfl ?_
    refine g_goto C X0 d1_42 (pc' := 5) (by decide) (by decide) ?_
    refine g_iload C X0 (pc' := 7) d1_5 rfl rfl ?_
    refine g_aloadN C X0 (pc' := 8) d1_7 rfl rfl rfl ?_
    refine g_len C X0 (pc' := 9) e0 A d1_8 rfl ?_
    refine g_icmpY C X0 d1_9 (pc' := 45) (by decide) (by decide) (by decide) ?_
    refine g_aloadN C X0 (pc' := 46) d1_45 rfl rfl rfl ?_
    exact g_areturn C X0 d1_46 rfl rfl rfl ⟨a, k, rfl, (Fr.nil n0), by rw [e0]; exact (Keep.refl h []), Or.inl ⟨rfl, by omega⟩, x0, i0, D0, by unfold own_cut; omega, by rw [e0]; exact A⟩ (by decide) (by decide)
  · have c18 : 0 < (cmpI i0 E).toInt := Decidable.not_not.mp c18
    have c18 : E < i0 := (cmpI_gt _ _).mp c18
    refine g_aloadN C X0 (pc' := 22) d1_21 rfl rfl rfl ?_
    refine g_aloadN C X0 (pc' := 23) d1_22 rfl rfl rfl ?_
    refine g_acmpN C X0 d1_23 rfl rfl (ac_same _).2 rfl ?_
    refine g_aloadN C X0 (pc' := 27) d1_26 rfl rfl rfl ?_
    refine g_clone C X0 (hw _ (List.mem_of_getElem? (i := 9) rfl)) (hw _ (List.mem_of_getElem? (i := 10) rfl)) (hw _ (List.mem_of_getElem? (i := 14) rfl)) (hw _ (List.mem_of_getElem? (i := 12) rfl)) (hw _ (List.mem_of_getElem? (i := 13) rfl)) (hw _ (List.mem_of_getElem? (i := 15) rfl)) e0 A B d1_27 rfl 0 rfl (by decide) (by decide) 1 (by decide) (by decide) (by decide) rfl ?_
    intro T1 h1 a1 g1 X1 e1 E1 A1 B1
    have ne_a_a1 : a ≠ a1 := Nat.ne_of_lt (by rw [g1]; exact A.lt)
    have z_a1 : n0 ≤ a1 := by rw [g1]; exact Z0
    have y_a1 : h.size ≤ a1 := by rw [g1]; exact (Keep.refl h []).1
    have A := A.ext E1
    have B := B.ext E1
    have P1 := (Keep.refl h []).ext E1
    have Z1 : n0 ≤ h1.size := Nat.le_trans Z0 E1.1
    refine g_cast C X1 (hw _ (List.mem_of_getElem? (i := 16) rfl)) e1 (Ins.of_exa B1 (hw _ (List.mem_of_getElem? (i := 17) rfl))) d1_30 rfl ?_
    intro T2 X2 e2
    refine g_astoreN C X2 (pc' := 34) d1_33 rfl (l' := #[.val (.ref a), .val (.double x), .second, .val (.ref a1), .val (.int (0 : Int32))]) rfl rfl ?_
    refine g_aloadN C X2 (pc' := 35) d1_34 rfl rfl rfl ?_
    refine g_iload C X2 (pc' := 37) d1_35 rfl rfl ?_
    refine g_dloadN C X2 (pc' := 38) d1_37 rfl rfl ?_
    refine g_dastore C X2 (pc' := 39) e2 A1 (by decide) (by decide) 0 0 (by decide) (of_decide_eq_true rfl) d1_38 rfl ?_
    intro T3 h3 X3 e3 W3 Aq
    have A := A.other W3 ne_a_a1
    have B := B.wr W3
    have B1 := B1.wr W3
    have Z3 : n0 ≤ h3.size := by rw [W3.size]; exact Z1
    have N3 := Fr.snoc X3 (Fr.nil n0) z_a1
    have P3 := P1.wr W3 (Or.inr y_a1)
    have A1 : Arv Z h3 a1 k .double (1 : Int32) [(.double x)] (.double (0 : UInt64)) := Aq
    refine g_iinc C X3 (pc' := 42) d1_39 rfl (z := (1 : Int32)) (by decide) (l' := #[.val (.ref a), .val (.double x), .second, .val (.ref a1), .val (.int (1 : Int32))]) rfl rfl ?_
    refine g_goto C X3 d1_42 (pc' := 5) (by decide) (by decide) ?_
    refine g_iload C X3 (pc' := 7) d1_5 rfl rfl ?_
    refine g_aloadN C X3 (pc' := 8) d1_7 rfl rfl rfl ?_
    refine g_len C X3 (pc' := 9) e3 A d1_8 rfl ?_
    refine g_icmpY C X3 d1_9 (pc' := 45) (by decide) (by decide) (by decide) ?_
    refine g_aloadN C X3 (pc' := 46) d1_45 rfl rfl rfl ?_
    exact g_areturn C X3 d1_46 rfl rfl rfl ⟨a1, k, rfl, N3, by rw [e3]; exact P3, Or.inr ⟨Ne.symm ne_a_a1, by omega⟩, x, E, DE, by unfold own_cut; omega, by rw [e3]; exact A1⟩ (by decide) (by decide)
set_option maxRecDepth 65536 in
set_option maxHeartbeats 40000000 in
theorem c_am2 (l : Launch) (Z : State) (a0 : Array Value) (hw : ∀ d ∈ tables_1, d.before a0 Z = true) (h : Heap) (n0 : Nat) (Z0 : n0 ≤ h.size) (a : Addr) (k : ClassId) (x : UInt64) (x0 : UInt64) (x1 : UInt64) (E : Int) (i0 : Int) (i1 : Int) (DE : FP.Core.DInt E x) (D0 : FP.Core.DInt i0 x0) (D1 : FP.Core.DInt i1 x1) (A : Arv Z h a k .double (2 : Int32) [.double x0, .double x1] (.double (0 : UInt64))) (B : Exa Z h a "[D") :
    Con l Z (⟨"com/example/sitewise/sitewise/UncapacitatedInstance", "atMost", "([DD)[D"⟩ : MethodName) prog_38_method_14_code 5 (some (.array .double)) ⟨1, 1, 2, 20⟩ #[.ref a, .double x] h (fun v h' L => ∃ ar kk, v = some (.ref ar) ∧ Fr n0 L ∧ Keep h h' [] ∧ ((ar = a ∧ ¬ (E < i0 ∨ E < i1)) ∨ (ar ≠ a ∧ (E < i0 ∨ E < i1))) ∧ ∃ y0 t0 y1 t1, FP.Core.DInt t0 y0 ∧ own_cut E i0 t0 ∧ FP.Core.DInt t1 y1 ∧ own_cut E i1 t1 ∧ Arv Z h' ar kk .double (2 : Int32) [.double y0, .double y1] (.double (0 : UInt64))) := by
  refine con_of_go pnA (fun m => efA m a x) ?_
  intro p e s m below meth c T0 C X0 e0
  refine g_aloadN C X0 (pc' := 1) d1_0 rfl rfl rfl ?_
  refine g_astoreN C X0 (pc' := 2) d1_1 rfl (l' := #[.val (.ref a), .val (.double x), .second, .val (.ref a), .unset]) rfl rfl ?_
  refine g_iconst C X0 (pc' := 3) d1_2 (v := (0 : Int32)) (by decide) rfl ?_
  refine g_istore C X0 (pc' := 5) d1_3 (x := (0 : Int32)) rfl (l' := #[.val (.ref a), .val (.double x), .second, .val (.ref a), .val (.int (0 : Int32))]) rfl rfl ?_
  refine g_iload C X0 (pc' := 7) d1_5 rfl rfl ?_
  refine g_aloadN C X0 (pc' := 8) d1_7 rfl rfl rfl ?_
  refine g_len C X0 (pc' := 9) e0 A d1_8 rfl ?_
  refine g_icmpN C X0 d1_9 (by decide) rfl ?_
  refine g_aloadN C X0 (pc' := 13) d1_12 rfl rfl rfl ?_
  refine g_iload C X0 (pc' := 15) d1_13 rfl rfl ?_
  refine g_daload C X0 (pc' := 16) e0 A (by decide) (by decide) 0 (by decide) rfl d1_15 rfl ?_
  refine g_dloadN C X0 (pc' := 17) d1_16 rfl rfl ?_
  refine g_dcmpV C X0 (pc' := 18) d1_17 (dcmp_cmpI D0 DE _) rfl ?_
  refine g_if C X0 d1_18 (pc' := 39) (pc'' := 21) (by decide) (by decide) rfl (fun c18 => ?_) (fun c18 => ?_)
  · have c18 : ¬ (0 < (cmpI i0 E).toInt) := c18
    have c18 : ¬ (E < i0) := fun q => c18 ((cmpI_gt _ _).mpr q)
    refine g_iinc C X0 (pc' := 42) d1_39 rfl (z := (1 : Int32)) (by decide) (l' := #[.val (.ref a), .val (.double x), .second, .val (.ref a), .val (.int (1 : Int32))]) rfl rfl ?_
    refine g_goto C X0 d1_42 (pc' := 5) (by decide) (by decide) ?_
    refine g_iload C X0 (pc' := 7) d1_5 rfl rfl ?_
    refine g_aloadN C X0 (pc' := 8) d1_7 rfl rfl rfl ?_
    refine g_len C X0 (pc' := 9) e0 A d1_8 rfl ?_
    refine g_icmpN C X0 d1_9 (by decide) rfl ?_
    refine g_aloadN C X0 (pc' := 13) d1_12 rfl rfl rfl ?_
    refine g_iload C X0 (pc' := 15) d1_13 rfl rfl ?_
    refine g_daload C X0 (pc' := 16) e0 A (by decide) (by decide) 1 (by decide) rfl d1_15 rfl ?_
    refine g_dloadN C X0 (pc' := 17) d1_16 rfl rfl ?_
    refine g_dcmpV C X0 (pc' := 18) d1_17 (dcmp_cmpI D1 DE _) rfl ?_
    refine g_if C X0 d1_18 (pc' := 39) (pc'' := 21) (by decide) (by decide) rfl (fun c18 => ?_) (fun c18 => ?_)
    · have c18 : ¬ (0 < (cmpI i1 E).toInt) := c18
      have c18 : ¬ (E < i1) := fun q => c18 ((cmpI_gt _ _).mpr q)
      refine g_iinc C X0 (pc' := 42) d1_39 rfl (z := (2 : Int32)) (by decide) (l' := #[.val (.ref a), .val (.double x), .second, .val (.ref a), .val (.int (2 : Int32))]) rfl rfl ?_
      refine g_goto C X0 d1_42 (pc' := 5) (by decide) (by decide) ?_
      refine g_iload C X0 (pc' := 7) d1_5 rfl rfl ?_
      refine g_aloadN C X0 (pc' := 8) d1_7 rfl rfl rfl ?_
      refine g_len C X0 (pc' := 9) e0 A d1_8 rfl ?_
      refine g_icmpY C X0 d1_9 (pc' := 45) (by decide) (by decide) (by decide) ?_
      refine g_aloadN C X0 (pc' := 46) d1_45 rfl rfl rfl ?_
      exact g_areturn C X0 d1_46 rfl rfl rfl ⟨a, k, rfl, (Fr.nil n0), by rw [e0]; exact (Keep.refl h []), Or.inl ⟨rfl, by omega⟩, x0, i0, x1, i1, D0, by unfold own_cut; omega, D1, by unfold own_cut; omega, by rw [e0]; exact A⟩ (by decide) (by decide)
    · have c18 : 0 < (cmpI i1 E).toInt := Decidable.not_not.mp c18
      have c18 : E < i1 := (cmpI_gt _ _).mp c18
      refine g_aloadN C X0 (pc' := 22) d1_21 rfl rfl rfl ?_
      refine g_aloadN C X0 (pc' := 23) d1_22 rfl rfl rfl ?_
      refine g_acmpN C X0 d1_23 rfl rfl (ac_same _).2 rfl ?_
      refine g_aloadN C X0 (pc' := 27) d1_26 rfl rfl rfl ?_
      refine g_clone C X0 (hw _ (List.mem_of_getElem? (i := 9) rfl)) (hw _ (List.mem_of_getElem? (i := 10) rfl)) (hw _ (List.mem_of_getElem? (i := 14) rfl)) (hw _ (List.mem_of_getElem? (i := 12) rfl)) (hw _ (List.mem_of_getElem? (i := 13) rfl)) (hw _ (List.mem_of_getElem? (i := 15) rfl)) e0 A B d1_27 rfl 0 rfl (by decide) (by decide) 2 (by decide) (by decide) (by decide) rfl ?_
      intro T1 h1 a1 g1 X1 e1 E1 A1 B1
      have ne_a_a1 : a ≠ a1 := Nat.ne_of_lt (by rw [g1]; exact A.lt)
      have z_a1 : n0 ≤ a1 := by rw [g1]; exact Z0
      have y_a1 : h.size ≤ a1 := by rw [g1]; exact (Keep.refl h []).1
      have A := A.ext E1
      have B := B.ext E1
      have P1 := (Keep.refl h []).ext E1
      have Z1 : n0 ≤ h1.size := Nat.le_trans Z0 E1.1
      refine g_cast C X1 (hw _ (List.mem_of_getElem? (i := 16) rfl)) e1 (Ins.of_exa B1 (hw _ (List.mem_of_getElem? (i := 17) rfl))) d1_30 rfl ?_
      intro T2 X2 e2
      refine g_astoreN C X2 (pc' := 34) d1_33 rfl (l' := #[.val (.ref a), .val (.double x), .second, .val (.ref a1), .val (.int (1 : Int32))]) rfl rfl ?_
      refine g_aloadN C X2 (pc' := 35) d1_34 rfl rfl rfl ?_
      refine g_iload C X2 (pc' := 37) d1_35 rfl rfl ?_
      refine g_dloadN C X2 (pc' := 38) d1_37 rfl rfl ?_
      refine g_dastore C X2 (pc' := 39) e2 A1 (by decide) (by decide) 1 0 (by decide) (of_decide_eq_true rfl) d1_38 rfl ?_
      intro T3 h3 X3 e3 W3 Aq
      have A := A.other W3 ne_a_a1
      have B := B.wr W3
      have B1 := B1.wr W3
      have Z3 : n0 ≤ h3.size := by rw [W3.size]; exact Z1
      have N3 := Fr.snoc X3 (Fr.nil n0) z_a1
      have P3 := P1.wr W3 (Or.inr y_a1)
      have A1 : Arv Z h3 a1 k .double (2 : Int32) [(.double x0), (.double x)] (.double (0 : UInt64)) := Aq
      refine g_iinc C X3 (pc' := 42) d1_39 rfl (z := (2 : Int32)) (by decide) (l' := #[.val (.ref a), .val (.double x), .second, .val (.ref a1), .val (.int (2 : Int32))]) rfl rfl ?_
      refine g_goto C X3 d1_42 (pc' := 5) (by decide) (by decide) ?_
      refine g_iload C X3 (pc' := 7) d1_5 rfl rfl ?_
      refine g_aloadN C X3 (pc' := 8) d1_7 rfl rfl rfl ?_
      refine g_len C X3 (pc' := 9) e3 A d1_8 rfl ?_
      refine g_icmpY C X3 d1_9 (pc' := 45) (by decide) (by decide) (by decide) ?_
      refine g_aloadN C X3 (pc' := 46) d1_45 rfl rfl rfl ?_
      exact g_areturn C X3 d1_46 rfl rfl rfl ⟨a1, k, rfl, N3, by rw [e3]; exact P3, Or.inr ⟨Ne.symm ne_a_a1, by omega⟩, x0, i0, x, E, D0, by unfold own_cut; omega, DE, by unfold own_cut; omega, by rw [e3]; exact A1⟩ (by decide) (by decide)
  · have c18 : 0 < (cmpI i0 E).toInt := Decidable.not_not.mp c18
    have c18 : E < i0 := (cmpI_gt _ _).mp c18
    refine g_aloadN C X0 (pc' := 22) d1_21 rfl rfl rfl ?_
    refine g_aloadN C X0 (pc' := 23) d1_22 rfl rfl rfl ?_
    refine g_acmpN C X0 d1_23 rfl rfl (ac_same _).2 rfl ?_
    refine g_aloadN C X0 (pc' := 27) d1_26 rfl rfl rfl ?_
    refine g_clone C X0 (hw _ (List.mem_of_getElem? (i := 9) rfl)) (hw _ (List.mem_of_getElem? (i := 10) rfl)) (hw _ (List.mem_of_getElem? (i := 14) rfl)) (hw _ (List.mem_of_getElem? (i := 12) rfl)) (hw _ (List.mem_of_getElem? (i := 13) rfl)) (hw _ (List.mem_of_getElem? (i := 15) rfl)) e0 A B d1_27 rfl 0 rfl (by decide) (by decide) 2 (by decide) (by decide) (by decide) rfl ?_
    intro T4 h4 a4 g4 X4 e4 E4 A4 B4
    have ne_a_a4 : a ≠ a4 := Nat.ne_of_lt (by rw [g4]; exact A.lt)
    have z_a4 : n0 ≤ a4 := by rw [g4]; exact Z0
    have y_a4 : h.size ≤ a4 := by rw [g4]; exact (Keep.refl h []).1
    have A := A.ext E4
    have B := B.ext E4
    have P4 := (Keep.refl h []).ext E4
    have Z4 : n0 ≤ h4.size := Nat.le_trans Z0 E4.1
    refine g_cast C X4 (hw _ (List.mem_of_getElem? (i := 16) rfl)) e4 (Ins.of_exa B4 (hw _ (List.mem_of_getElem? (i := 17) rfl))) d1_30 rfl ?_
    intro T5 X5 e5
    refine g_astoreN C X5 (pc' := 34) d1_33 rfl (l' := #[.val (.ref a), .val (.double x), .second, .val (.ref a4), .val (.int (0 : Int32))]) rfl rfl ?_
    refine g_aloadN C X5 (pc' := 35) d1_34 rfl rfl rfl ?_
    refine g_iload C X5 (pc' := 37) d1_35 rfl rfl ?_
    refine g_dloadN C X5 (pc' := 38) d1_37 rfl rfl ?_
    refine g_dastore C X5 (pc' := 39) e5 A4 (by decide) (by decide) 0 0 (by decide) (of_decide_eq_true rfl) d1_38 rfl ?_
    intro T6 h6 X6 e6 W6 Aq
    have A := A.other W6 ne_a_a4
    have B := B.wr W6
    have B4 := B4.wr W6
    have Z6 : n0 ≤ h6.size := by rw [W6.size]; exact Z4
    have N6 := Fr.snoc X6 (Fr.nil n0) z_a4
    have P6 := P4.wr W6 (Or.inr y_a4)
    have A4 : Arv Z h6 a4 k .double (2 : Int32) [(.double x), (.double x1)] (.double (0 : UInt64)) := Aq
    refine g_iinc C X6 (pc' := 42) d1_39 rfl (z := (1 : Int32)) (by decide) (l' := #[.val (.ref a), .val (.double x), .second, .val (.ref a4), .val (.int (1 : Int32))]) rfl rfl ?_
    refine g_goto C X6 d1_42 (pc' := 5) (by decide) (by decide) ?_
    refine g_iload C X6 (pc' := 7) d1_5 rfl rfl ?_
    refine g_aloadN C X6 (pc' := 8) d1_7 rfl rfl rfl ?_
    refine g_len C X6 (pc' := 9) e6 A d1_8 rfl ?_
    refine g_icmpN C X6 d1_9 (by decide) rfl ?_
    refine g_aloadN C X6 (pc' := 13) d1_12 rfl rfl rfl ?_
    refine g_iload C X6 (pc' := 15) d1_13 rfl rfl ?_
    refine g_daload C X6 (pc' := 16) e6 A (by decide) (by decide) 1 (by decide) rfl d1_15 rfl ?_
    refine g_dloadN C X6 (pc' := 17) d1_16 rfl rfl ?_
    refine g_dcmpV C X6 (pc' := 18) d1_17 (dcmp_cmpI D1 DE _) rfl ?_
    refine g_if C X6 d1_18 (pc' := 39) (pc'' := 21) (by decide) (by decide) rfl (fun c18 => ?_) (fun c18 => ?_)
    · have c18 : ¬ (0 < (cmpI i1 E).toInt) := c18
      have c18 : ¬ (E < i1) := fun q => c18 ((cmpI_gt _ _).mpr q)
      refine g_iinc C X6 (pc' := 42) d1_39 rfl (z := (2 : Int32)) (by decide) (l' := #[.val (.ref a), .val (.double x), .second, .val (.ref a4), .val (.int (2 : Int32))]) rfl rfl ?_
      refine g_goto C X6 d1_42 (pc' := 5) (by decide) (by decide) ?_
      refine g_iload C X6 (pc' := 7) d1_5 rfl rfl ?_
      refine g_aloadN C X6 (pc' := 8) d1_7 rfl rfl rfl ?_
      refine g_len C X6 (pc' := 9) e6 A d1_8 rfl ?_
      refine g_icmpY C X6 d1_9 (pc' := 45) (by decide) (by decide) (by decide) ?_
      refine g_aloadN C X6 (pc' := 46) d1_45 rfl rfl rfl ?_
      exact g_areturn C X6 d1_46 rfl rfl rfl ⟨a4, k, rfl, N6, by rw [e6]; exact P6, Or.inr ⟨Ne.symm ne_a_a4, by omega⟩, x, E, x1, i1, DE, by unfold own_cut; omega, D1, by unfold own_cut; omega, by rw [e6]; exact A4⟩ (by decide) (by decide)
    · have c18 : 0 < (cmpI i1 E).toInt := Decidable.not_not.mp c18
      have c18 : E < i1 := (cmpI_gt _ _).mp c18
      refine g_aloadN C X6 (pc' := 22) d1_21 rfl rfl rfl ?_
      refine g_aloadN C X6 (pc' := 23) d1_22 rfl rfl rfl ?_
      refine g_acmpY C X6 d1_23 rfl rfl (ac_diff (ref_ne (Ne.symm ne_a_a4))).2 (pc' := 34) (by decide) (by decide) ?_
      refine g_aloadN C X6 (pc' := 35) d1_34 rfl rfl rfl ?_
      refine g_iload C X6 (pc' := 37) d1_35 rfl rfl ?_
      refine g_dloadN C X6 (pc' := 38) d1_37 rfl rfl ?_
      refine g_dastore C X6 (pc' := 39) e6 A4 (by decide) (by decide) 1 0 (by decide) (of_decide_eq_true rfl) d1_38 rfl ?_
      intro T7 h7 X7 e7 W7 Aq
      have A := A.other W7 ne_a_a4
      have B := B.wr W7
      have B4 := B4.wr W7
      have Z7 : n0 ≤ h7.size := by rw [W7.size]; exact Z6
      have N7 := Fr.snoc X7 N6 z_a4
      have P7 := P6.wr W7 (Or.inr y_a4)
      have A4 : Arv Z h7 a4 k .double (2 : Int32) [(.double x), (.double x)] (.double (0 : UInt64)) := Aq
      refine g_iinc C X7 (pc' := 42) d1_39 rfl (z := (2 : Int32)) (by decide) (l' := #[.val (.ref a), .val (.double x), .second, .val (.ref a4), .val (.int (2 : Int32))]) rfl rfl ?_
      refine g_goto C X7 d1_42 (pc' := 5) (by decide) (by decide) ?_
      refine g_iload C X7 (pc' := 7) d1_5 rfl rfl ?_
      refine g_aloadN C X7 (pc' := 8) d1_7 rfl rfl rfl ?_
      refine g_len C X7 (pc' := 9) e7 A d1_8 rfl ?_
      refine g_icmpY C X7 d1_9 (pc' := 45) (by decide) (by decide) (by decide) ?_
      refine g_aloadN C X7 (pc' := 46) d1_45 rfl rfl rfl ?_
      exact g_areturn C X7 d1_46 rfl rfl rfl ⟨a4, k, rfl, N7, by rw [e7]; exact P7, Or.inr ⟨Ne.symm ne_a_a4, by omega⟩, x, E, x, E, DE, by unfold own_cut; omega, DE, by unfold own_cut; omega, by rw [e7]; exact A4⟩ (by decide) (by decide)
set_option maxRecDepth 65536 in
set_option maxHeartbeats 40000000 in
theorem c_am3 (l : Launch) (Z : State) (a0 : Array Value) (hw : ∀ d ∈ tables_1, d.before a0 Z = true) (h : Heap) (n0 : Nat) (Z0 : n0 ≤ h.size) (a : Addr) (k : ClassId) (x : UInt64) (x0 : UInt64) (x1 : UInt64) (x2 : UInt64) (E : Int) (i0 : Int) (i1 : Int) (i2 : Int) (DE : FP.Core.DInt E x) (D0 : FP.Core.DInt i0 x0) (D1 : FP.Core.DInt i1 x1) (D2 : FP.Core.DInt i2 x2) (A : Arv Z h a k .double (3 : Int32) [.double x0, .double x1, .double x2] (.double (0 : UInt64))) (B : Exa Z h a "[D") :
    Con l Z (⟨"com/example/sitewise/sitewise/UncapacitatedInstance", "atMost", "([DD)[D"⟩ : MethodName) prog_38_method_14_code 5 (some (.array .double)) ⟨1, 1, 3, 20⟩ #[.ref a, .double x] h (fun v h' L => ∃ ar kk, v = some (.ref ar) ∧ Fr n0 L ∧ Keep h h' [] ∧ ((ar = a ∧ ¬ (E < i0 ∨ E < i1 ∨ E < i2)) ∨ (ar ≠ a ∧ (E < i0 ∨ E < i1 ∨ E < i2))) ∧ ∃ y0 t0 y1 t1 y2 t2, FP.Core.DInt t0 y0 ∧ own_cut E i0 t0 ∧ FP.Core.DInt t1 y1 ∧ own_cut E i1 t1 ∧ FP.Core.DInt t2 y2 ∧ own_cut E i2 t2 ∧ Arv Z h' ar kk .double (3 : Int32) [.double y0, .double y1, .double y2] (.double (0 : UInt64))) := by
  refine con_of_go pnA (fun m => efA m a x) ?_
  intro p e s m below meth c T0 C X0 e0
  refine g_aloadN C X0 (pc' := 1) d1_0 rfl rfl rfl ?_
  refine g_astoreN C X0 (pc' := 2) d1_1 rfl (l' := #[.val (.ref a), .val (.double x), .second, .val (.ref a), .unset]) rfl rfl ?_
  refine g_iconst C X0 (pc' := 3) d1_2 (v := (0 : Int32)) (by decide) rfl ?_
  refine g_istore C X0 (pc' := 5) d1_3 (x := (0 : Int32)) rfl (l' := #[.val (.ref a), .val (.double x), .second, .val (.ref a), .val (.int (0 : Int32))]) rfl rfl ?_
  refine g_iload C X0 (pc' := 7) d1_5 rfl rfl ?_
  refine g_aloadN C X0 (pc' := 8) d1_7 rfl rfl rfl ?_
  refine g_len C X0 (pc' := 9) e0 A d1_8 rfl ?_
  refine g_icmpN C X0 d1_9 (by decide) rfl ?_
  refine g_aloadN C X0 (pc' := 13) d1_12 rfl rfl rfl ?_
  refine g_iload C X0 (pc' := 15) d1_13 rfl rfl ?_
  refine g_daload C X0 (pc' := 16) e0 A (by decide) (by decide) 0 (by decide) rfl d1_15 rfl ?_
  refine g_dloadN C X0 (pc' := 17) d1_16 rfl rfl ?_
  refine g_dcmpV C X0 (pc' := 18) d1_17 (dcmp_cmpI D0 DE _) rfl ?_
  refine g_if C X0 d1_18 (pc' := 39) (pc'' := 21) (by decide) (by decide) rfl (fun c18 => ?_) (fun c18 => ?_)
  · have c18 : ¬ (0 < (cmpI i0 E).toInt) := c18
    have c18 : ¬ (E < i0) := fun q => c18 ((cmpI_gt _ _).mpr q)
    refine g_iinc C X0 (pc' := 42) d1_39 rfl (z := (1 : Int32)) (by decide) (l' := #[.val (.ref a), .val (.double x), .second, .val (.ref a), .val (.int (1 : Int32))]) rfl rfl ?_
    refine g_goto C X0 d1_42 (pc' := 5) (by decide) (by decide) ?_
    refine g_iload C X0 (pc' := 7) d1_5 rfl rfl ?_
    refine g_aloadN C X0 (pc' := 8) d1_7 rfl rfl rfl ?_
    refine g_len C X0 (pc' := 9) e0 A d1_8 rfl ?_
    refine g_icmpN C X0 d1_9 (by decide) rfl ?_
    refine g_aloadN C X0 (pc' := 13) d1_12 rfl rfl rfl ?_
    refine g_iload C X0 (pc' := 15) d1_13 rfl rfl ?_
    refine g_daload C X0 (pc' := 16) e0 A (by decide) (by decide) 1 (by decide) rfl d1_15 rfl ?_
    refine g_dloadN C X0 (pc' := 17) d1_16 rfl rfl ?_
    refine g_dcmpV C X0 (pc' := 18) d1_17 (dcmp_cmpI D1 DE _) rfl ?_
    refine g_if C X0 d1_18 (pc' := 39) (pc'' := 21) (by decide) (by decide) rfl (fun c18 => ?_) (fun c18 => ?_)
    · have c18 : ¬ (0 < (cmpI i1 E).toInt) := c18
      have c18 : ¬ (E < i1) := fun q => c18 ((cmpI_gt _ _).mpr q)
      refine g_iinc C X0 (pc' := 42) d1_39 rfl (z := (2 : Int32)) (by decide) (l' := #[.val (.ref a), .val (.double x), .second, .val (.ref a), .val (.int (2 : Int32))]) rfl rfl ?_
      refine g_goto C X0 d1_42 (pc' := 5) (by decide) (by decide) ?_
      refine g_iload C X0 (pc' := 7) d1_5 rfl rfl ?_
      refine g_aloadN C X0 (pc' := 8) d1_7 rfl rfl rfl ?_
      refine g_len C X0 (pc' := 9) e0 A d1_8 rfl ?_
      refine g_icmpN C X0 d1_9 (by decide) rfl ?_
      refine g_aloadN C X0 (pc' := 13) d1_12 rfl rfl rfl ?_
      refine g_iload C X0 (pc' := 15) d1_13 rfl rfl ?_
      refine g_daload C X0 (pc' := 16) e0 A (by decide) (by decide) 2 (by decide) rfl d1_15 rfl ?_
      refine g_dloadN C X0 (pc' := 17) d1_16 rfl rfl ?_
      refine g_dcmpV C X0 (pc' := 18) d1_17 (dcmp_cmpI D2 DE _) rfl ?_
      refine g_if C X0 d1_18 (pc' := 39) (pc'' := 21) (by decide) (by decide) rfl (fun c18 => ?_) (fun c18 => ?_)
      · have c18 : ¬ (0 < (cmpI i2 E).toInt) := c18
        have c18 : ¬ (E < i2) := fun q => c18 ((cmpI_gt _ _).mpr q)
        refine g_iinc C X0 (pc' := 42) d1_39 rfl (z := (3 : Int32)) (by decide) (l' := #[.val (.ref a), .val (.double x), .second, .val (.ref a), .val (.int (3 : Int32))]) rfl rfl ?_
        refine g_goto C X0 d1_42 (pc' := 5) (by decide) (by decide) ?_
        refine g_iload C X0 (pc' := 7) d1_5 rfl rfl ?_
        refine g_aloadN C X0 (pc' := 8) d1_7 rfl rfl rfl ?_
        refine g_len C X0 (pc' := 9) e0 A d1_8 rfl ?_
        refine g_icmpY C X0 d1_9 (pc' := 45) (by decide) (by decide) (by decide) ?_
        refine g_aloadN C X0 (pc' := 46) d1_45 rfl rfl rfl ?_
        exact g_areturn C X0 d1_46 rfl rfl rfl ⟨a, k, rfl, (Fr.nil n0), by rw [e0]; exact (Keep.refl h []), Or.inl ⟨rfl, by omega⟩, x0, i0, x1, i1, x2, i2, D0, by unfold own_cut; omega, D1, by unfold own_cut; omega, D2, by unfold own_cut; omega, by rw [e0]; exact A⟩ (by decide) (by decide)
      · have c18 : 0 < (cmpI i2 E).toInt := Decidable.not_not.mp c18
        have c18 : E < i2 := (cmpI_gt _ _).mp c18
        refine g_aloadN C X0 (pc' := 22) d1_21 rfl rfl rfl ?_
        refine g_aloadN C X0 (pc' := 23) d1_22 rfl rfl rfl ?_
        refine g_acmpN C X0 d1_23 rfl rfl (ac_same _).2 rfl ?_
        refine g_aloadN C X0 (pc' := 27) d1_26 rfl rfl rfl ?_
        refine g_clone C X0 (hw _ (List.mem_of_getElem? (i := 9) rfl)) (hw _ (List.mem_of_getElem? (i := 10) rfl)) (hw _ (List.mem_of_getElem? (i := 14) rfl)) (hw _ (List.mem_of_getElem? (i := 12) rfl)) (hw _ (List.mem_of_getElem? (i := 13) rfl)) (hw _ (List.mem_of_getElem? (i := 15) rfl)) e0 A B d1_27 rfl 0 rfl (by decide) (by decide) 3 (by decide) (by decide) (by decide) rfl ?_
        intro T1 h1 a1 g1 X1 e1 E1 A1 B1
        have ne_a_a1 : a ≠ a1 := Nat.ne_of_lt (by rw [g1]; exact A.lt)
        have z_a1 : n0 ≤ a1 := by rw [g1]; exact Z0
        have y_a1 : h.size ≤ a1 := by rw [g1]; exact (Keep.refl h []).1
        have A := A.ext E1
        have B := B.ext E1
        have P1 := (Keep.refl h []).ext E1
        have Z1 : n0 ≤ h1.size := Nat.le_trans Z0 E1.1
        refine g_cast C X1 (hw _ (List.mem_of_getElem? (i := 16) rfl)) e1 (Ins.of_exa B1 (hw _ (List.mem_of_getElem? (i := 17) rfl))) d1_30 rfl ?_
        intro T2 X2 e2
        refine g_astoreN C X2 (pc' := 34) d1_33 rfl (l' := #[.val (.ref a), .val (.double x), .second, .val (.ref a1), .val (.int (2 : Int32))]) rfl rfl ?_
        refine g_aloadN C X2 (pc' := 35) d1_34 rfl rfl rfl ?_
        refine g_iload C X2 (pc' := 37) d1_35 rfl rfl ?_
        refine g_dloadN C X2 (pc' := 38) d1_37 rfl rfl ?_
        refine g_dastore C X2 (pc' := 39) e2 A1 (by decide) (by decide) 2 0 (by decide) (of_decide_eq_true rfl) d1_38 rfl ?_
        intro T3 h3 X3 e3 W3 Aq
        have A := A.other W3 ne_a_a1
        have B := B.wr W3
        have B1 := B1.wr W3
        have Z3 : n0 ≤ h3.size := by rw [W3.size]; exact Z1
        have N3 := Fr.snoc X3 (Fr.nil n0) z_a1
        have P3 := P1.wr W3 (Or.inr y_a1)
        have A1 : Arv Z h3 a1 k .double (3 : Int32) [(.double x0), (.double x1), (.double x)] (.double (0 : UInt64)) := Aq
        refine g_iinc C X3 (pc' := 42) d1_39 rfl (z := (3 : Int32)) (by decide) (l' := #[.val (.ref a), .val (.double x), .second, .val (.ref a1), .val (.int (3 : Int32))]) rfl rfl ?_
        refine g_goto C X3 d1_42 (pc' := 5) (by decide) (by decide) ?_
        refine g_iload C X3 (pc' := 7) d1_5 rfl rfl ?_
        refine g_aloadN C X3 (pc' := 8) d1_7 rfl rfl rfl ?_
        refine g_len C X3 (pc' := 9) e3 A d1_8 rfl ?_
        refine g_icmpY C X3 d1_9 (pc' := 45) (by decide) (by decide) (by decide) ?_
        refine g_aloadN C X3 (pc' := 46) d1_45 rfl rfl rfl ?_
        exact g_areturn C X3 d1_46 rfl rfl rfl ⟨a1, k, rfl, N3, by rw [e3]; exact P3, Or.inr ⟨Ne.symm ne_a_a1, by omega⟩, x0, i0, x1, i1, x, E, D0, by unfold own_cut; omega, D1, by unfold own_cut; omega, DE, by unfold own_cut; omega, by rw [e3]; exact A1⟩ (by decide) (by decide)
    · have c18 : 0 < (cmpI i1 E).toInt := Decidable.not_not.mp c18
      have c18 : E < i1 := (cmpI_gt _ _).mp c18
      refine g_aloadN C X0 (pc' := 22) d1_21 rfl rfl rfl ?_
      refine g_aloadN C X0 (pc' := 23) d1_22 rfl rfl rfl ?_
      refine g_acmpN C X0 d1_23 rfl rfl (ac_same _).2 rfl ?_
      refine g_aloadN C X0 (pc' := 27) d1_26 rfl rfl rfl ?_
      refine g_clone C X0 (hw _ (List.mem_of_getElem? (i := 9) rfl)) (hw _ (List.mem_of_getElem? (i := 10) rfl)) (hw _ (List.mem_of_getElem? (i := 14) rfl)) (hw _ (List.mem_of_getElem? (i := 12) rfl)) (hw _ (List.mem_of_getElem? (i := 13) rfl)) (hw _ (List.mem_of_getElem? (i := 15) rfl)) e0 A B d1_27 rfl 0 rfl (by decide) (by decide) 3 (by decide) (by decide) (by decide) rfl ?_
      intro T4 h4 a4 g4 X4 e4 E4 A4 B4
      have ne_a_a4 : a ≠ a4 := Nat.ne_of_lt (by rw [g4]; exact A.lt)
      have z_a4 : n0 ≤ a4 := by rw [g4]; exact Z0
      have y_a4 : h.size ≤ a4 := by rw [g4]; exact (Keep.refl h []).1
      have A := A.ext E4
      have B := B.ext E4
      have P4 := (Keep.refl h []).ext E4
      have Z4 : n0 ≤ h4.size := Nat.le_trans Z0 E4.1
      refine g_cast C X4 (hw _ (List.mem_of_getElem? (i := 16) rfl)) e4 (Ins.of_exa B4 (hw _ (List.mem_of_getElem? (i := 17) rfl))) d1_30 rfl ?_
      intro T5 X5 e5
      refine g_astoreN C X5 (pc' := 34) d1_33 rfl (l' := #[.val (.ref a), .val (.double x), .second, .val (.ref a4), .val (.int (1 : Int32))]) rfl rfl ?_
      refine g_aloadN C X5 (pc' := 35) d1_34 rfl rfl rfl ?_
      refine g_iload C X5 (pc' := 37) d1_35 rfl rfl ?_
      refine g_dloadN C X5 (pc' := 38) d1_37 rfl rfl ?_
      refine g_dastore C X5 (pc' := 39) e5 A4 (by decide) (by decide) 1 0 (by decide) (of_decide_eq_true rfl) d1_38 rfl ?_
      intro T6 h6 X6 e6 W6 Aq
      have A := A.other W6 ne_a_a4
      have B := B.wr W6
      have B4 := B4.wr W6
      have Z6 : n0 ≤ h6.size := by rw [W6.size]; exact Z4
      have N6 := Fr.snoc X6 (Fr.nil n0) z_a4
      have P6 := P4.wr W6 (Or.inr y_a4)
      have A4 : Arv Z h6 a4 k .double (3 : Int32) [(.double x0), (.double x), (.double x2)] (.double (0 : UInt64)) := Aq
      refine g_iinc C X6 (pc' := 42) d1_39 rfl (z := (2 : Int32)) (by decide) (l' := #[.val (.ref a), .val (.double x), .second, .val (.ref a4), .val (.int (2 : Int32))]) rfl rfl ?_
      refine g_goto C X6 d1_42 (pc' := 5) (by decide) (by decide) ?_
      refine g_iload C X6 (pc' := 7) d1_5 rfl rfl ?_
      refine g_aloadN C X6 (pc' := 8) d1_7 rfl rfl rfl ?_
      refine g_len C X6 (pc' := 9) e6 A d1_8 rfl ?_
      refine g_icmpN C X6 d1_9 (by decide) rfl ?_
      refine g_aloadN C X6 (pc' := 13) d1_12 rfl rfl rfl ?_
      refine g_iload C X6 (pc' := 15) d1_13 rfl rfl ?_
      refine g_daload C X6 (pc' := 16) e6 A (by decide) (by decide) 2 (by decide) rfl d1_15 rfl ?_
      refine g_dloadN C X6 (pc' := 17) d1_16 rfl rfl ?_
      refine g_dcmpV C X6 (pc' := 18) d1_17 (dcmp_cmpI D2 DE _) rfl ?_
      refine g_if C X6 d1_18 (pc' := 39) (pc'' := 21) (by decide) (by decide) rfl (fun c18 => ?_) (fun c18 => ?_)
      · have c18 : ¬ (0 < (cmpI i2 E).toInt) := c18
        have c18 : ¬ (E < i2) := fun q => c18 ((cmpI_gt _ _).mpr q)
        refine g_iinc C X6 (pc' := 42) d1_39 rfl (z := (3 : Int32)) (by decide) (l' := #[.val (.ref a), .val (.double x), .second, .val (.ref a4), .val (.int (3 : Int32))]) rfl rfl ?_
        refine g_goto C X6 d1_42 (pc' := 5) (by decide) (by decide) ?_
        refine g_iload C X6 (pc' := 7) d1_5 rfl rfl ?_
        refine g_aloadN C X6 (pc' := 8) d1_7 rfl rfl rfl ?_
        refine g_len C X6 (pc' := 9) e6 A d1_8 rfl ?_
        refine g_icmpY C X6 d1_9 (pc' := 45) (by decide) (by decide) (by decide) ?_
        refine g_aloadN C X6 (pc' := 46) d1_45 rfl rfl rfl ?_
        exact g_areturn C X6 d1_46 rfl rfl rfl ⟨a4, k, rfl, N6, by rw [e6]; exact P6, Or.inr ⟨Ne.symm ne_a_a4, by omega⟩, x0, i0, x, E, x2, i2, D0, by unfold own_cut; omega, DE, by unfold own_cut; omega, D2, by unfold own_cut; omega, by rw [e6]; exact A4⟩ (by decide) (by decide)
      · have c18 : 0 < (cmpI i2 E).toInt := Decidable.not_not.mp c18
        have c18 : E < i2 := (cmpI_gt _ _).mp c18
        refine g_aloadN C X6 (pc' := 22) d1_21 rfl rfl rfl ?_
        refine g_aloadN C X6 (pc' := 23) d1_22 rfl rfl rfl ?_
        refine g_acmpY C X6 d1_23 rfl rfl (ac_diff (ref_ne (Ne.symm ne_a_a4))).2 (pc' := 34) (by decide) (by decide) ?_
        refine g_aloadN C X6 (pc' := 35) d1_34 rfl rfl rfl ?_
        refine g_iload C X6 (pc' := 37) d1_35 rfl rfl ?_
        refine g_dloadN C X6 (pc' := 38) d1_37 rfl rfl ?_
        refine g_dastore C X6 (pc' := 39) e6 A4 (by decide) (by decide) 2 0 (by decide) (of_decide_eq_true rfl) d1_38 rfl ?_
        intro T7 h7 X7 e7 W7 Aq
        have A := A.other W7 ne_a_a4
        have B := B.wr W7
        have B4 := B4.wr W7
        have Z7 : n0 ≤ h7.size := by rw [W7.size]; exact Z6
        have N7 := Fr.snoc X7 N6 z_a4
        have P7 := P6.wr W7 (Or.inr y_a4)
        have A4 : Arv Z h7 a4 k .double (3 : Int32) [(.double x0), (.double x), (.double x)] (.double (0 : UInt64)) := Aq
        refine g_iinc C X7 (pc' := 42) d1_39 rfl (z := (3 : Int32)) (by decide) (l' := #[.val (.ref a), .val (.double x), .second, .val (.ref a4), .val (.int (3 : Int32))]) rfl rfl ?_
        refine g_goto C X7 d1_42 (pc' := 5) (by decide) (by decide) ?_
        refine g_iload C X7 (pc' := 7) d1_5 rfl rfl ?_
        refine g_aloadN C X7 (pc' := 8) d1_7 rfl rfl rfl ?_
        refine g_len C X7 (pc' := 9) e7 A d1_8 rfl ?_
        refine g_icmpY C X7 d1_9 (pc' := 45) (by decide) (by decide) (by decide) ?_
        refine g_aloadN C X7 (pc' := 46) d1_45 rfl rfl rfl ?_
        exact g_areturn C X7 d1_46 rfl rfl rfl ⟨a4, k, rfl, N7, by rw [e7]; exact P7, Or.inr ⟨Ne.symm ne_a_a4, by omega⟩, x0, i0, x, E, x, E, D0, by unfold own_cut; omega, DE, by unfold own_cut; omega, DE, by unfold own_cut; omega, by rw [e7]; exact A4⟩ (by decide) (by decide)
  · have c18 : 0 < (cmpI i0 E).toInt := Decidable.not_not.mp c18
    have c18 : E < i0 := (cmpI_gt _ _).mp c18
    refine g_aloadN C X0 (pc' := 22) d1_21 rfl rfl rfl ?_
    refine g_aloadN C X0 (pc' := 23) d1_22 rfl rfl rfl ?_
    refine g_acmpN C X0 d1_23 rfl rfl (ac_same _).2 rfl ?_
    refine g_aloadN C X0 (pc' := 27) d1_26 rfl rfl rfl ?_
    refine g_clone C X0 (hw _ (List.mem_of_getElem? (i := 9) rfl)) (hw _ (List.mem_of_getElem? (i := 10) rfl)) (hw _ (List.mem_of_getElem? (i := 14) rfl)) (hw _ (List.mem_of_getElem? (i := 12) rfl)) (hw _ (List.mem_of_getElem? (i := 13) rfl)) (hw _ (List.mem_of_getElem? (i := 15) rfl)) e0 A B d1_27 rfl 0 rfl (by decide) (by decide) 3 (by decide) (by decide) (by decide) rfl ?_
    intro T8 h8 a8 g8 X8 e8 E8 A8 B8
    have ne_a_a8 : a ≠ a8 := Nat.ne_of_lt (by rw [g8]; exact A.lt)
    have z_a8 : n0 ≤ a8 := by rw [g8]; exact Z0
    have y_a8 : h.size ≤ a8 := by rw [g8]; exact (Keep.refl h []).1
    have A := A.ext E8
    have B := B.ext E8
    have P8 := (Keep.refl h []).ext E8
    have Z8 : n0 ≤ h8.size := Nat.le_trans Z0 E8.1
    refine g_cast C X8 (hw _ (List.mem_of_getElem? (i := 16) rfl)) e8 (Ins.of_exa B8 (hw _ (List.mem_of_getElem? (i := 17) rfl))) d1_30 rfl ?_
    intro T9 X9 e9
    refine g_astoreN C X9 (pc' := 34) d1_33 rfl (l' := #[.val (.ref a), .val (.double x), .second, .val (.ref a8), .val (.int (0 : Int32))]) rfl rfl ?_
    refine g_aloadN C X9 (pc' := 35) d1_34 rfl rfl rfl ?_
    refine g_iload C X9 (pc' := 37) d1_35 rfl rfl ?_
    refine g_dloadN C X9 (pc' := 38) d1_37 rfl rfl ?_
    refine g_dastore C X9 (pc' := 39) e9 A8 (by decide) (by decide) 0 0 (by decide) (of_decide_eq_true rfl) d1_38 rfl ?_
    intro T10 h10 X10 e10 W10 Aq
    have A := A.other W10 ne_a_a8
    have B := B.wr W10
    have B8 := B8.wr W10
    have Z10 : n0 ≤ h10.size := by rw [W10.size]; exact Z8
    have N10 := Fr.snoc X10 (Fr.nil n0) z_a8
    have P10 := P8.wr W10 (Or.inr y_a8)
    have A8 : Arv Z h10 a8 k .double (3 : Int32) [(.double x), (.double x1), (.double x2)] (.double (0 : UInt64)) := Aq
    refine g_iinc C X10 (pc' := 42) d1_39 rfl (z := (1 : Int32)) (by decide) (l' := #[.val (.ref a), .val (.double x), .second, .val (.ref a8), .val (.int (1 : Int32))]) rfl rfl ?_
    refine g_goto C X10 d1_42 (pc' := 5) (by decide) (by decide) ?_
    refine g_iload C X10 (pc' := 7) d1_5 rfl rfl ?_
    refine g_aloadN C X10 (pc' := 8) d1_7 rfl rfl rfl ?_
    refine g_len C X10 (pc' := 9) e10 A d1_8 rfl ?_
    refine g_icmpN C X10 d1_9 (by decide) rfl ?_
    refine g_aloadN C X10 (pc' := 13) d1_12 rfl rfl rfl ?_
    refine g_iload C X10 (pc' := 15) d1_13 rfl rfl ?_
    refine g_daload C X10 (pc' := 16) e10 A (by decide) (by decide) 1 (by decide) rfl d1_15 rfl ?_
    refine g_dloadN C X10 (pc' := 17) d1_16 rfl rfl ?_
    refine g_dcmpV C X10 (pc' := 18) d1_17 (dcmp_cmpI D1 DE _) rfl ?_
    refine g_if C X10 d1_18 (pc' := 39) (pc'' := 21) (by decide) (by decide) rfl (fun c18 => ?_) (fun c18 => ?_)
    · have c18 : ¬ (0 < (cmpI i1 E).toInt) := c18
      have c18 : ¬ (E < i1) := fun q => c18 ((cmpI_gt _ _).mpr q)
      refine g_iinc C X10 (pc' := 42) d1_39 rfl (z := (2 : Int32)) (by decide) (l' := #[.val (.ref a), .val (.double x), .second, .val (.ref a8), .val (.int (2 : Int32))]) rfl rfl ?_
      refine g_goto C X10 d1_42 (pc' := 5) (by decide) (by decide) ?_
      refine g_iload C X10 (pc' := 7) d1_5 rfl rfl ?_
      refine g_aloadN C X10 (pc' := 8) d1_7 rfl rfl rfl ?_
      refine g_len C X10 (pc' := 9) e10 A d1_8 rfl ?_
      refine g_icmpN C X10 d1_9 (by decide) rfl ?_
      refine g_aloadN C X10 (pc' := 13) d1_12 rfl rfl rfl ?_
      refine g_iload C X10 (pc' := 15) d1_13 rfl rfl ?_
      refine g_daload C X10 (pc' := 16) e10 A (by decide) (by decide) 2 (by decide) rfl d1_15 rfl ?_
      refine g_dloadN C X10 (pc' := 17) d1_16 rfl rfl ?_
      refine g_dcmpV C X10 (pc' := 18) d1_17 (dcmp_cmpI D2 DE _) rfl ?_
      refine g_if C X10 d1_18 (pc' := 39) (pc'' := 21) (by decide) (by decide) rfl (fun c18 => ?_) (fun c18 => ?_)
      · have c18 : ¬ (0 < (cmpI i2 E).toInt) := c18
        have c18 : ¬ (E < i2) := fun q => c18 ((cmpI_gt _ _).mpr q)
        refine g_iinc C X10 (pc' := 42) d1_39 rfl (z := (3 : Int32)) (by decide) (l' := #[.val (.ref a), .val (.double x), .second, .val (.ref a8), .val (.int (3 : Int32))]) rfl rfl ?_
        refine g_goto C X10 d1_42 (pc' := 5) (by decide) (by decide) ?_
        refine g_iload C X10 (pc' := 7) d1_5 rfl rfl ?_
        refine g_aloadN C X10 (pc' := 8) d1_7 rfl rfl rfl ?_
        refine g_len C X10 (pc' := 9) e10 A d1_8 rfl ?_
        refine g_icmpY C X10 d1_9 (pc' := 45) (by decide) (by decide) (by decide) ?_
        refine g_aloadN C X10 (pc' := 46) d1_45 rfl rfl rfl ?_
        exact g_areturn C X10 d1_46 rfl rfl rfl ⟨a8, k, rfl, N10, by rw [e10]; exact P10, Or.inr ⟨Ne.symm ne_a_a8, by omega⟩, x, E, x1, i1, x2, i2, DE, by unfold own_cut; omega, D1, by unfold own_cut; omega, D2, by unfold own_cut; omega, by rw [e10]; exact A8⟩ (by decide) (by decide)
      · have c18 : 0 < (cmpI i2 E).toInt := Decidable.not_not.mp c18
        have c18 : E < i2 := (cmpI_gt _ _).mp c18
        refine g_aloadN C X10 (pc' := 22) d1_21 rfl rfl rfl ?_
        refine g_aloadN C X10 (pc' := 23) d1_22 rfl rfl rfl ?_
        refine g_acmpY C X10 d1_23 rfl rfl (ac_diff (ref_ne (Ne.symm ne_a_a8))).2 (pc' := 34) (by decide) (by decide) ?_
        refine g_aloadN C X10 (pc' := 35) d1_34 rfl rfl rfl ?_
        refine g_iload C X10 (pc' := 37) d1_35 rfl rfl ?_
        refine g_dloadN C X10 (pc' := 38) d1_37 rfl rfl ?_
        refine g_dastore C X10 (pc' := 39) e10 A8 (by decide) (by decide) 2 0 (by decide) (of_decide_eq_true rfl) d1_38 rfl ?_
        intro T11 h11 X11 e11 W11 Aq
        have A := A.other W11 ne_a_a8
        have B := B.wr W11
        have B8 := B8.wr W11
        have Z11 : n0 ≤ h11.size := by rw [W11.size]; exact Z10
        have N11 := Fr.snoc X11 N10 z_a8
        have P11 := P10.wr W11 (Or.inr y_a8)
        have A8 : Arv Z h11 a8 k .double (3 : Int32) [(.double x), (.double x1), (.double x)] (.double (0 : UInt64)) := Aq
        refine g_iinc C X11 (pc' := 42) d1_39 rfl (z := (3 : Int32)) (by decide) (l' := #[.val (.ref a), .val (.double x), .second, .val (.ref a8), .val (.int (3 : Int32))]) rfl rfl ?_
        refine g_goto C X11 d1_42 (pc' := 5) (by decide) (by decide) ?_
        refine g_iload C X11 (pc' := 7) d1_5 rfl rfl ?_
        refine g_aloadN C X11 (pc' := 8) d1_7 rfl rfl rfl ?_
        refine g_len C X11 (pc' := 9) e11 A d1_8 rfl ?_
        refine g_icmpY C X11 d1_9 (pc' := 45) (by decide) (by decide) (by decide) ?_
        refine g_aloadN C X11 (pc' := 46) d1_45 rfl rfl rfl ?_
        exact g_areturn C X11 d1_46 rfl rfl rfl ⟨a8, k, rfl, N11, by rw [e11]; exact P11, Or.inr ⟨Ne.symm ne_a_a8, by omega⟩, x, E, x1, i1, x, E, DE, by unfold own_cut; omega, D1, by unfold own_cut; omega, DE, by unfold own_cut; omega, by rw [e11]; exact A8⟩ (by decide) (by decide)
    · have c18 : 0 < (cmpI i1 E).toInt := Decidable.not_not.mp c18
      have c18 : E < i1 := (cmpI_gt _ _).mp c18
      refine g_aloadN C X10 (pc' := 22) d1_21 rfl rfl rfl ?_
      refine g_aloadN C X10 (pc' := 23) d1_22 rfl rfl rfl ?_
      refine g_acmpY C X10 d1_23 rfl rfl (ac_diff (ref_ne (Ne.symm ne_a_a8))).2 (pc' := 34) (by decide) (by decide) ?_
      refine g_aloadN C X10 (pc' := 35) d1_34 rfl rfl rfl ?_
      refine g_iload C X10 (pc' := 37) d1_35 rfl rfl ?_
      refine g_dloadN C X10 (pc' := 38) d1_37 rfl rfl ?_
      refine g_dastore C X10 (pc' := 39) e10 A8 (by decide) (by decide) 1 0 (by decide) (of_decide_eq_true rfl) d1_38 rfl ?_
      intro T12 h12 X12 e12 W12 Aq
      have A := A.other W12 ne_a_a8
      have B := B.wr W12
      have B8 := B8.wr W12
      have Z12 : n0 ≤ h12.size := by rw [W12.size]; exact Z10
      have N12 := Fr.snoc X12 N10 z_a8
      have P12 := P10.wr W12 (Or.inr y_a8)
      have A8 : Arv Z h12 a8 k .double (3 : Int32) [(.double x), (.double x), (.double x2)] (.double (0 : UInt64)) := Aq
      refine g_iinc C X12 (pc' := 42) d1_39 rfl (z := (2 : Int32)) (by decide) (l' := #[.val (.ref a), .val (.double x), .second, .val (.ref a8), .val (.int (2 : Int32))]) rfl rfl ?_
      refine g_goto C X12 d1_42 (pc' := 5) (by decide) (by decide) ?_
      refine g_iload C X12 (pc' := 7) d1_5 rfl rfl ?_
      refine g_aloadN C X12 (pc' := 8) d1_7 rfl rfl rfl ?_
      refine g_len C X12 (pc' := 9) e12 A d1_8 rfl ?_
      refine g_icmpN C X12 d1_9 (by decide) rfl ?_
      refine g_aloadN C X12 (pc' := 13) d1_12 rfl rfl rfl ?_
      refine g_iload C X12 (pc' := 15) d1_13 rfl rfl ?_
      refine g_daload C X12 (pc' := 16) e12 A (by decide) (by decide) 2 (by decide) rfl d1_15 rfl ?_
      refine g_dloadN C X12 (pc' := 17) d1_16 rfl rfl ?_
      refine g_dcmpV C X12 (pc' := 18) d1_17 (dcmp_cmpI D2 DE _) rfl ?_
      refine g_if C X12 d1_18 (pc' := 39) (pc'' := 21) (by decide) (by decide) rfl (fun c18 => ?_) (fun c18 => ?_)
      · have c18 : ¬ (0 < (cmpI i2 E).toInt) := c18
        have c18 : ¬ (E < i2) := fun q => c18 ((cmpI_gt _ _).mpr q)
        refine g_iinc C X12 (pc' := 42) d1_39 rfl (z := (3 : Int32)) (by decide) (l' := #[.val (.ref a), .val (.double x), .second, .val (.ref a8), .val (.int (3 : Int32))]) rfl rfl ?_
        refine g_goto C X12 d1_42 (pc' := 5) (by decide) (by decide) ?_
        refine g_iload C X12 (pc' := 7) d1_5 rfl rfl ?_
        refine g_aloadN C X12 (pc' := 8) d1_7 rfl rfl rfl ?_
        refine g_len C X12 (pc' := 9) e12 A d1_8 rfl ?_
        refine g_icmpY C X12 d1_9 (pc' := 45) (by decide) (by decide) (by decide) ?_
        refine g_aloadN C X12 (pc' := 46) d1_45 rfl rfl rfl ?_
        exact g_areturn C X12 d1_46 rfl rfl rfl ⟨a8, k, rfl, N12, by rw [e12]; exact P12, Or.inr ⟨Ne.symm ne_a_a8, by omega⟩, x, E, x, E, x2, i2, DE, by unfold own_cut; omega, DE, by unfold own_cut; omega, D2, by unfold own_cut; omega, by rw [e12]; exact A8⟩ (by decide) (by decide)
      · have c18 : 0 < (cmpI i2 E).toInt := Decidable.not_not.mp c18
        have c18 : E < i2 := (cmpI_gt _ _).mp c18
        refine g_aloadN C X12 (pc' := 22) d1_21 rfl rfl rfl ?_
        refine g_aloadN C X12 (pc' := 23) d1_22 rfl rfl rfl ?_
        refine g_acmpY C X12 d1_23 rfl rfl (ac_diff (ref_ne (Ne.symm ne_a_a8))).2 (pc' := 34) (by decide) (by decide) ?_
        refine g_aloadN C X12 (pc' := 35) d1_34 rfl rfl rfl ?_
        refine g_iload C X12 (pc' := 37) d1_35 rfl rfl ?_
        refine g_dloadN C X12 (pc' := 38) d1_37 rfl rfl ?_
        refine g_dastore C X12 (pc' := 39) e12 A8 (by decide) (by decide) 2 0 (by decide) (of_decide_eq_true rfl) d1_38 rfl ?_
        intro T13 h13 X13 e13 W13 Aq
        have A := A.other W13 ne_a_a8
        have B := B.wr W13
        have B8 := B8.wr W13
        have Z13 : n0 ≤ h13.size := by rw [W13.size]; exact Z12
        have N13 := Fr.snoc X13 N12 z_a8
        have P13 := P12.wr W13 (Or.inr y_a8)
        have A8 : Arv Z h13 a8 k .double (3 : Int32) [(.double x), (.double x), (.double x)] (.double (0 : UInt64)) := Aq
        refine g_iinc C X13 (pc' := 42) d1_39 rfl (z := (3 : Int32)) (by decide) (l' := #[.val (.ref a), .val (.double x), .second, .val (.ref a8), .val (.int (3 : Int32))]) rfl rfl ?_
        refine g_goto C X13 d1_42 (pc' := 5) (by decide) (by decide) ?_
        refine g_iload C X13 (pc' := 7) d1_5 rfl rfl ?_
        refine g_aloadN C X13 (pc' := 8) d1_7 rfl rfl rfl ?_
        refine g_len C X13 (pc' := 9) e13 A d1_8 rfl ?_
        refine g_icmpY C X13 d1_9 (pc' := 45) (by decide) (by decide) (by decide) ?_
        refine g_aloadN C X13 (pc' := 46) d1_45 rfl rfl rfl ?_
        exact g_areturn C X13 d1_46 rfl rfl rfl ⟨a8, k, rfl, N13, by rw [e13]; exact P13, Or.inr ⟨Ne.symm ne_a_a8, by omega⟩, x, E, x, E, x, E, DE, by unfold own_cut; omega, DE, by unfold own_cut; omega, DE, by unfold own_cut; omega, by rw [e13]; exact A8⟩ (by decide) (by decide)
set_option maxRecDepth 65536 in
set_option maxHeartbeats 40000000 in
theorem c_sl0_0 (l : Launch) (Z : State) (h : Heap) (a b : Addr) (ka kb : ClassId) (x y : UInt64) (A : Arv Z h a ka .double (0 : Int32) [] (.double (0 : UInt64))) (A' : Arv Z h b kb .double (0 : Int32) [] (.double (0 : UInt64))) :
    Con l Z (⟨"com/example/sitewise/sitewise/UncapacitatedInstanceAtMostPinLaw", "slot", "([D[DIIDD)Z"⟩ : MethodName) method_3_code 10 (some .boolean) ⟨0, 0, 0, 0⟩ #[.ref a, .ref b, .int (0 : Int32), .int (0 : Int32), .double x, .double y] h (fun v h' L => v = some (.int 1) ∧ L = [] ∧ h' = h) := by
  refine con_of_go pnS (fun m => efS m a b _ _ x y) ?_
  intro p e s m below meth c T0 C X0 e0
  refine g_iloadN C X0 (pc' := 1) d2_0 rfl rfl ?_
  refine g_iloadN C X0 (pc' := 2) d2_1 rfl rfl ?_
  refine g_icmpN C X0 d2_2 (by decide) rfl ?_
  refine g_iconst C X0 (pc' := 6) d2_5 (v := (1 : Int32)) (by decide) rfl ?_
  exact g_zreturn C X0 d2_6 (w := 1) (by decide) ⟨rfl, rfl, e0⟩ (by decide) (by decide)
set_option maxRecDepth 65536 in
set_option maxHeartbeats 40000000 in
theorem c_sl0_1 (l : Launch) (Z : State) (h : Heap) (a b : Addr) (ka kb : ClassId) (x y : UInt64) (A : Arv Z h a ka .double (0 : Int32) [] (.double (0 : UInt64))) (A' : Arv Z h b kb .double (0 : Int32) [] (.double (0 : UInt64))) :
    Con l Z (⟨"com/example/sitewise/sitewise/UncapacitatedInstanceAtMostPinLaw", "slot", "([D[DIIDD)Z"⟩ : MethodName) method_3_code 10 (some .boolean) ⟨0, 0, 0, 0⟩ #[.ref a, .ref b, .int (1 : Int32), .int (0 : Int32), .double x, .double y] h (fun v h' L => v = some (.int 1) ∧ L = [] ∧ h' = h) := by
  refine con_of_go pnS (fun m => efS m a b _ _ x y) ?_
  intro p e s m below meth c T0 C X0 e0
  refine g_iloadN C X0 (pc' := 1) d2_0 rfl rfl ?_
  refine g_iloadN C X0 (pc' := 2) d2_1 rfl rfl ?_
  refine g_icmpN C X0 d2_2 (by decide) rfl ?_
  refine g_iconst C X0 (pc' := 6) d2_5 (v := (1 : Int32)) (by decide) rfl ?_
  exact g_zreturn C X0 d2_6 (w := 1) (by decide) ⟨rfl, rfl, e0⟩ (by decide) (by decide)
set_option maxRecDepth 65536 in
set_option maxHeartbeats 40000000 in
theorem c_sl0_2 (l : Launch) (Z : State) (h : Heap) (a b : Addr) (ka kb : ClassId) (x y : UInt64) (A : Arv Z h a ka .double (0 : Int32) [] (.double (0 : UInt64))) (A' : Arv Z h b kb .double (0 : Int32) [] (.double (0 : UInt64))) :
    Con l Z (⟨"com/example/sitewise/sitewise/UncapacitatedInstanceAtMostPinLaw", "slot", "([D[DIIDD)Z"⟩ : MethodName) method_3_code 10 (some .boolean) ⟨0, 0, 0, 0⟩ #[.ref a, .ref b, .int (2 : Int32), .int (0 : Int32), .double x, .double y] h (fun v h' L => v = some (.int 1) ∧ L = [] ∧ h' = h) := by
  refine con_of_go pnS (fun m => efS m a b _ _ x y) ?_
  intro p e s m below meth c T0 C X0 e0
  refine g_iloadN C X0 (pc' := 1) d2_0 rfl rfl ?_
  refine g_iloadN C X0 (pc' := 2) d2_1 rfl rfl ?_
  refine g_icmpN C X0 d2_2 (by decide) rfl ?_
  refine g_iconst C X0 (pc' := 6) d2_5 (v := (1 : Int32)) (by decide) rfl ?_
  exact g_zreturn C X0 d2_6 (w := 1) (by decide) ⟨rfl, rfl, e0⟩ (by decide) (by decide)
set_option maxRecDepth 65536 in
set_option maxHeartbeats 40000000 in
theorem c_sl1_0 (l : Launch) (Z : State) (h : Heap) (a b : Addr) (ka kb : ClassId) (x y : UInt64) (u0 w0 : UInt64) (t i E : Int) (Dt : FP.Core.DInt t u0) (Dw : FP.Core.DInt i w0) (D : FP.Core.DInt i x) (DE : FP.Core.DInt E y) (hc : own_cut E i t) (A : Arv Z h a ka .double (1 : Int32) [.double u0] (.double (0 : UInt64))) (A' : Arv Z h b kb .double (1 : Int32) [.double w0] (.double (0 : UInt64))) :
    Con l Z (⟨"com/example/sitewise/sitewise/UncapacitatedInstanceAtMostPinLaw", "slot", "([D[DIIDD)Z"⟩ : MethodName) method_3_code 10 (some .boolean) ⟨0, 0, 0, 0⟩ #[.ref a, .ref b, .int (0 : Int32), .int (1 : Int32), .double x, .double y] h (fun v h' L => v = some (.int 1) ∧ L = [] ∧ h' = h) := by
  refine con_of_go pnS (fun m => efS m a b _ _ x y) ?_
  intro p e s m below meth c T0 C X0 e0
  refine g_iloadN C X0 (pc' := 1) d2_0 rfl rfl ?_
  refine g_iloadN C X0 (pc' := 2) d2_1 rfl rfl ?_
  refine g_icmpY C X0 d2_2 (pc' := 7) (by decide) (by decide) (by decide) ?_
  refine g_dload C X0 (pc' := 9) d2_7 rfl rfl ?_
  refine g_dload C X0 (pc' := 11) d2_9 rfl rfl ?_
  refine g_dcmpV C X0 (pc' := 12) d2_11 (dcmp_cmpI D DE _) rfl ?_
  refine g_if C X0 d2_12 (pc' := 20) (pc'' := 15) (by decide) (by decide) rfl (fun c12 => ?_) (fun c12 => ?_)
  · have c12 : ¬ (0 < (cmpI i E).toInt) := c12
    have c12 : ¬ (E < i) := fun q => c12 ((cmpI_gt _ _).mpr q)
    refine g_dload C X0 (pc' := 22) d2_20 rfl rfl ?_
    refine g_dstore C X0 (pc' := 24) d2_22 (x := x) rfl (l' := #[.val (.ref a), .val (.ref b), .val (.int (0 : Int32)), .val (.int (1 : Int32)), .val (.double x), .second, .val (.double y), .second, .val (.double x), .second]) rfl rfl ?_
    refine g_aloadN C X0 (pc' := 25) d2_24 rfl rfl rfl ?_
    refine g_iloadN C X0 (pc' := 26) d2_25 rfl rfl ?_
    refine g_daload C X0 (pc' := 27) e0 A (by decide) (by decide) 0 (by decide) rfl d2_26 rfl ?_
    refine g_dload C X0 (pc' := 29) d2_27 rfl rfl ?_
    refine g_dcmpV C X0 (pc' := 30) d2_29 (dcmp_cmpI Dt D _) rfl ?_
    refine g_if C X0 d2_30 (pc' := 46) (pc'' := 33) (by decide) (by decide) rfl (fun c30 => ?_) (fun c30 => ?_)
    · have c30 : ¬ ((cmpI t i).toInt = 0) := c30
      have c30 : ¬ (t = i) := fun q => c30 ((cmpI_eq _ _).mpr q)
      refine g_iconst C X0 (pc' := 47) d2_46 (v := (0 : Int32)) (by decide) rfl ?_
      exfalso; unfold own_cut at hc; omega
    · have c30 : (cmpI t i).toInt = 0 := Decidable.not_not.mp c30
      have c30 : t = i := (cmpI_eq _ _).mp c30
      refine g_aloadN C X0 (pc' := 34) d2_33 rfl rfl rfl ?_
      refine g_iloadN C X0 (pc' := 35) d2_34 rfl rfl ?_
      refine g_daload C X0 (pc' := 36) e0 A' (by decide) (by decide) 0 (by decide) rfl d2_35 rfl ?_
      refine g_dload C X0 (pc' := 38) d2_36 rfl rfl ?_
      refine g_dcmpV C X0 d2_38 (v := (0 : Int32)) ((dcmp_cmpI Dw D _).trans (cmpI_self _)) rfl ?_
      refine g_ifN C X0 d2_39 (by decide) rfl ?_
      refine g_iconst C X0 (pc' := 43) d2_42 (v := (1 : Int32)) (by decide) rfl ?_
      refine g_goto C X0 d2_43 (pc' := 47) (by decide) (by decide) ?_
      exact g_zreturn C X0 d2_47 (w := 1) (by decide) ⟨rfl, rfl, e0⟩ (by decide) (by decide)
  · have c12 : 0 < (cmpI i E).toInt := Decidable.not_not.mp c12
    have c12 : E < i := (cmpI_gt _ _).mp c12
    refine g_dload C X0 (pc' := 17) d2_15 rfl rfl ?_
    refine g_goto C X0 d2_17 (pc' := 22) (by decide) (by decide) ?_
    refine g_dstore C X0 (pc' := 24) d2_22 (x := y) rfl (l' := #[.val (.ref a), .val (.ref b), .val (.int (0 : Int32)), .val (.int (1 : Int32)), .val (.double x), .second, .val (.double y), .second, .val (.double y), .second]) rfl rfl ?_
    refine g_aloadN C X0 (pc' := 25) d2_24 rfl rfl rfl ?_
    refine g_iloadN C X0 (pc' := 26) d2_25 rfl rfl ?_
    refine g_daload C X0 (pc' := 27) e0 A (by decide) (by decide) 0 (by decide) rfl d2_26 rfl ?_
    refine g_dload C X0 (pc' := 29) d2_27 rfl rfl ?_
    refine g_dcmpV C X0 (pc' := 30) d2_29 (dcmp_cmpI Dt DE _) rfl ?_
    refine g_if C X0 d2_30 (pc' := 46) (pc'' := 33) (by decide) (by decide) rfl (fun c30 => ?_) (fun c30 => ?_)
    · have c30 : ¬ ((cmpI t E).toInt = 0) := c30
      have c30 : ¬ (t = E) := fun q => c30 ((cmpI_eq _ _).mpr q)
      refine g_iconst C X0 (pc' := 47) d2_46 (v := (0 : Int32)) (by decide) rfl ?_
      exfalso; unfold own_cut at hc; omega
    · have c30 : (cmpI t E).toInt = 0 := Decidable.not_not.mp c30
      have c30 : t = E := (cmpI_eq _ _).mp c30
      refine g_aloadN C X0 (pc' := 34) d2_33 rfl rfl rfl ?_
      refine g_iloadN C X0 (pc' := 35) d2_34 rfl rfl ?_
      refine g_daload C X0 (pc' := 36) e0 A' (by decide) (by decide) 0 (by decide) rfl d2_35 rfl ?_
      refine g_dload C X0 (pc' := 38) d2_36 rfl rfl ?_
      refine g_dcmpV C X0 d2_38 (v := (0 : Int32)) ((dcmp_cmpI Dw D _).trans (cmpI_self _)) rfl ?_
      refine g_ifN C X0 d2_39 (by decide) rfl ?_
      refine g_iconst C X0 (pc' := 43) d2_42 (v := (1 : Int32)) (by decide) rfl ?_
      refine g_goto C X0 d2_43 (pc' := 47) (by decide) (by decide) ?_
      exact g_zreturn C X0 d2_47 (w := 1) (by decide) ⟨rfl, rfl, e0⟩ (by decide) (by decide)
set_option maxRecDepth 65536 in
set_option maxHeartbeats 40000000 in
theorem c_sl1_1 (l : Launch) (Z : State) (h : Heap) (a b : Addr) (ka kb : ClassId) (x y : UInt64) (u0 w0 : UInt64) (A : Arv Z h a ka .double (1 : Int32) [.double u0] (.double (0 : UInt64))) (A' : Arv Z h b kb .double (1 : Int32) [.double w0] (.double (0 : UInt64))) :
    Con l Z (⟨"com/example/sitewise/sitewise/UncapacitatedInstanceAtMostPinLaw", "slot", "([D[DIIDD)Z"⟩ : MethodName) method_3_code 10 (some .boolean) ⟨0, 0, 0, 0⟩ #[.ref a, .ref b, .int (1 : Int32), .int (1 : Int32), .double x, .double y] h (fun v h' L => v = some (.int 1) ∧ L = [] ∧ h' = h) := by
  refine con_of_go pnS (fun m => efS m a b _ _ x y) ?_
  intro p e s m below meth c T0 C X0 e0
  refine g_iloadN C X0 (pc' := 1) d2_0 rfl rfl ?_
  refine g_iloadN C X0 (pc' := 2) d2_1 rfl rfl ?_
  refine g_icmpN C X0 d2_2 (by decide) rfl ?_
  refine g_iconst C X0 (pc' := 6) d2_5 (v := (1 : Int32)) (by decide) rfl ?_
  exact g_zreturn C X0 d2_6 (w := 1) (by decide) ⟨rfl, rfl, e0⟩ (by decide) (by decide)
set_option maxRecDepth 65536 in
set_option maxHeartbeats 40000000 in
theorem c_sl1_2 (l : Launch) (Z : State) (h : Heap) (a b : Addr) (ka kb : ClassId) (x y : UInt64) (u0 w0 : UInt64) (A : Arv Z h a ka .double (1 : Int32) [.double u0] (.double (0 : UInt64))) (A' : Arv Z h b kb .double (1 : Int32) [.double w0] (.double (0 : UInt64))) :
    Con l Z (⟨"com/example/sitewise/sitewise/UncapacitatedInstanceAtMostPinLaw", "slot", "([D[DIIDD)Z"⟩ : MethodName) method_3_code 10 (some .boolean) ⟨0, 0, 0, 0⟩ #[.ref a, .ref b, .int (2 : Int32), .int (1 : Int32), .double x, .double y] h (fun v h' L => v = some (.int 1) ∧ L = [] ∧ h' = h) := by
  refine con_of_go pnS (fun m => efS m a b _ _ x y) ?_
  intro p e s m below meth c T0 C X0 e0
  refine g_iloadN C X0 (pc' := 1) d2_0 rfl rfl ?_
  refine g_iloadN C X0 (pc' := 2) d2_1 rfl rfl ?_
  refine g_icmpN C X0 d2_2 (by decide) rfl ?_
  refine g_iconst C X0 (pc' := 6) d2_5 (v := (1 : Int32)) (by decide) rfl ?_
  exact g_zreturn C X0 d2_6 (w := 1) (by decide) ⟨rfl, rfl, e0⟩ (by decide) (by decide)
set_option maxRecDepth 65536 in
set_option maxHeartbeats 40000000 in
theorem c_sl2_0 (l : Launch) (Z : State) (h : Heap) (a b : Addr) (ka kb : ClassId) (x y : UInt64) (u0 w0 : UInt64) (u1 w1 : UInt64) (t i E : Int) (Dt : FP.Core.DInt t u0) (Dw : FP.Core.DInt i w0) (D : FP.Core.DInt i x) (DE : FP.Core.DInt E y) (hc : own_cut E i t) (A : Arv Z h a ka .double (2 : Int32) [.double u0, .double u1] (.double (0 : UInt64))) (A' : Arv Z h b kb .double (2 : Int32) [.double w0, .double w1] (.double (0 : UInt64))) :
    Con l Z (⟨"com/example/sitewise/sitewise/UncapacitatedInstanceAtMostPinLaw", "slot", "([D[DIIDD)Z"⟩ : MethodName) method_3_code 10 (some .boolean) ⟨0, 0, 0, 0⟩ #[.ref a, .ref b, .int (0 : Int32), .int (2 : Int32), .double x, .double y] h (fun v h' L => v = some (.int 1) ∧ L = [] ∧ h' = h) := by
  refine con_of_go pnS (fun m => efS m a b _ _ x y) ?_
  intro p e s m below meth c T0 C X0 e0
  refine g_iloadN C X0 (pc' := 1) d2_0 rfl rfl ?_
  refine g_iloadN C X0 (pc' := 2) d2_1 rfl rfl ?_
  refine g_icmpY C X0 d2_2 (pc' := 7) (by decide) (by decide) (by decide) ?_
  refine g_dload C X0 (pc' := 9) d2_7 rfl rfl ?_
  refine g_dload C X0 (pc' := 11) d2_9 rfl rfl ?_
  refine g_dcmpV C X0 (pc' := 12) d2_11 (dcmp_cmpI D DE _) rfl ?_
  refine g_if C X0 d2_12 (pc' := 20) (pc'' := 15) (by decide) (by decide) rfl (fun c12 => ?_) (fun c12 => ?_)
  · have c12 : ¬ (0 < (cmpI i E).toInt) := c12
    have c12 : ¬ (E < i) := fun q => c12 ((cmpI_gt _ _).mpr q)
    refine g_dload C X0 (pc' := 22) d2_20 rfl rfl ?_
    refine g_dstore C X0 (pc' := 24) d2_22 (x := x) rfl (l' := #[.val (.ref a), .val (.ref b), .val (.int (0 : Int32)), .val (.int (2 : Int32)), .val (.double x), .second, .val (.double y), .second, .val (.double x), .second]) rfl rfl ?_
    refine g_aloadN C X0 (pc' := 25) d2_24 rfl rfl rfl ?_
    refine g_iloadN C X0 (pc' := 26) d2_25 rfl rfl ?_
    refine g_daload C X0 (pc' := 27) e0 A (by decide) (by decide) 0 (by decide) rfl d2_26 rfl ?_
    refine g_dload C X0 (pc' := 29) d2_27 rfl rfl ?_
    refine g_dcmpV C X0 (pc' := 30) d2_29 (dcmp_cmpI Dt D _) rfl ?_
    refine g_if C X0 d2_30 (pc' := 46) (pc'' := 33) (by decide) (by decide) rfl (fun c30 => ?_) (fun c30 => ?_)
    · have c30 : ¬ ((cmpI t i).toInt = 0) := c30
      have c30 : ¬ (t = i) := fun q => c30 ((cmpI_eq _ _).mpr q)
      refine g_iconst C X0 (pc' := 47) d2_46 (v := (0 : Int32)) (by decide) rfl ?_
      exfalso; unfold own_cut at hc; omega
    · have c30 : (cmpI t i).toInt = 0 := Decidable.not_not.mp c30
      have c30 : t = i := (cmpI_eq _ _).mp c30
      refine g_aloadN C X0 (pc' := 34) d2_33 rfl rfl rfl ?_
      refine g_iloadN C X0 (pc' := 35) d2_34 rfl rfl ?_
      refine g_daload C X0 (pc' := 36) e0 A' (by decide) (by decide) 0 (by decide) rfl d2_35 rfl ?_
      refine g_dload C X0 (pc' := 38) d2_36 rfl rfl ?_
      refine g_dcmpV C X0 d2_38 (v := (0 : Int32)) ((dcmp_cmpI Dw D _).trans (cmpI_self _)) rfl ?_
      refine g_ifN C X0 d2_39 (by decide) rfl ?_
      refine g_iconst C X0 (pc' := 43) d2_42 (v := (1 : Int32)) (by decide) rfl ?_
      refine g_goto C X0 d2_43 (pc' := 47) (by decide) (by decide) ?_
      exact g_zreturn C X0 d2_47 (w := 1) (by decide) ⟨rfl, rfl, e0⟩ (by decide) (by decide)
  · have c12 : 0 < (cmpI i E).toInt := Decidable.not_not.mp c12
    have c12 : E < i := (cmpI_gt _ _).mp c12
    refine g_dload C X0 (pc' := 17) d2_15 rfl rfl ?_
    refine g_goto C X0 d2_17 (pc' := 22) (by decide) (by decide) ?_
    refine g_dstore C X0 (pc' := 24) d2_22 (x := y) rfl (l' := #[.val (.ref a), .val (.ref b), .val (.int (0 : Int32)), .val (.int (2 : Int32)), .val (.double x), .second, .val (.double y), .second, .val (.double y), .second]) rfl rfl ?_
    refine g_aloadN C X0 (pc' := 25) d2_24 rfl rfl rfl ?_
    refine g_iloadN C X0 (pc' := 26) d2_25 rfl rfl ?_
    refine g_daload C X0 (pc' := 27) e0 A (by decide) (by decide) 0 (by decide) rfl d2_26 rfl ?_
    refine g_dload C X0 (pc' := 29) d2_27 rfl rfl ?_
    refine g_dcmpV C X0 (pc' := 30) d2_29 (dcmp_cmpI Dt DE _) rfl ?_
    refine g_if C X0 d2_30 (pc' := 46) (pc'' := 33) (by decide) (by decide) rfl (fun c30 => ?_) (fun c30 => ?_)
    · have c30 : ¬ ((cmpI t E).toInt = 0) := c30
      have c30 : ¬ (t = E) := fun q => c30 ((cmpI_eq _ _).mpr q)
      refine g_iconst C X0 (pc' := 47) d2_46 (v := (0 : Int32)) (by decide) rfl ?_
      exfalso; unfold own_cut at hc; omega
    · have c30 : (cmpI t E).toInt = 0 := Decidable.not_not.mp c30
      have c30 : t = E := (cmpI_eq _ _).mp c30
      refine g_aloadN C X0 (pc' := 34) d2_33 rfl rfl rfl ?_
      refine g_iloadN C X0 (pc' := 35) d2_34 rfl rfl ?_
      refine g_daload C X0 (pc' := 36) e0 A' (by decide) (by decide) 0 (by decide) rfl d2_35 rfl ?_
      refine g_dload C X0 (pc' := 38) d2_36 rfl rfl ?_
      refine g_dcmpV C X0 d2_38 (v := (0 : Int32)) ((dcmp_cmpI Dw D _).trans (cmpI_self _)) rfl ?_
      refine g_ifN C X0 d2_39 (by decide) rfl ?_
      refine g_iconst C X0 (pc' := 43) d2_42 (v := (1 : Int32)) (by decide) rfl ?_
      refine g_goto C X0 d2_43 (pc' := 47) (by decide) (by decide) ?_
      exact g_zreturn C X0 d2_47 (w := 1) (by decide) ⟨rfl, rfl, e0⟩ (by decide) (by decide)
set_option maxRecDepth 65536 in
set_option maxHeartbeats 40000000 in
theorem c_sl2_1 (l : Launch) (Z : State) (h : Heap) (a b : Addr) (ka kb : ClassId) (x y : UInt64) (u0 w0 : UInt64) (u1 w1 : UInt64) (t i E : Int) (Dt : FP.Core.DInt t u1) (Dw : FP.Core.DInt i w1) (D : FP.Core.DInt i x) (DE : FP.Core.DInt E y) (hc : own_cut E i t) (A : Arv Z h a ka .double (2 : Int32) [.double u0, .double u1] (.double (0 : UInt64))) (A' : Arv Z h b kb .double (2 : Int32) [.double w0, .double w1] (.double (0 : UInt64))) :
    Con l Z (⟨"com/example/sitewise/sitewise/UncapacitatedInstanceAtMostPinLaw", "slot", "([D[DIIDD)Z"⟩ : MethodName) method_3_code 10 (some .boolean) ⟨0, 0, 0, 0⟩ #[.ref a, .ref b, .int (1 : Int32), .int (2 : Int32), .double x, .double y] h (fun v h' L => v = some (.int 1) ∧ L = [] ∧ h' = h) := by
  refine con_of_go pnS (fun m => efS m a b _ _ x y) ?_
  intro p e s m below meth c T0 C X0 e0
  refine g_iloadN C X0 (pc' := 1) d2_0 rfl rfl ?_
  refine g_iloadN C X0 (pc' := 2) d2_1 rfl rfl ?_
  refine g_icmpY C X0 d2_2 (pc' := 7) (by decide) (by decide) (by decide) ?_
  refine g_dload C X0 (pc' := 9) d2_7 rfl rfl ?_
  refine g_dload C X0 (pc' := 11) d2_9 rfl rfl ?_
  refine g_dcmpV C X0 (pc' := 12) d2_11 (dcmp_cmpI D DE _) rfl ?_
  refine g_if C X0 d2_12 (pc' := 20) (pc'' := 15) (by decide) (by decide) rfl (fun c12 => ?_) (fun c12 => ?_)
  · have c12 : ¬ (0 < (cmpI i E).toInt) := c12
    have c12 : ¬ (E < i) := fun q => c12 ((cmpI_gt _ _).mpr q)
    refine g_dload C X0 (pc' := 22) d2_20 rfl rfl ?_
    refine g_dstore C X0 (pc' := 24) d2_22 (x := x) rfl (l' := #[.val (.ref a), .val (.ref b), .val (.int (1 : Int32)), .val (.int (2 : Int32)), .val (.double x), .second, .val (.double y), .second, .val (.double x), .second]) rfl rfl ?_
    refine g_aloadN C X0 (pc' := 25) d2_24 rfl rfl rfl ?_
    refine g_iloadN C X0 (pc' := 26) d2_25 rfl rfl ?_
    refine g_daload C X0 (pc' := 27) e0 A (by decide) (by decide) 1 (by decide) rfl d2_26 rfl ?_
    refine g_dload C X0 (pc' := 29) d2_27 rfl rfl ?_
    refine g_dcmpV C X0 (pc' := 30) d2_29 (dcmp_cmpI Dt D _) rfl ?_
    refine g_if C X0 d2_30 (pc' := 46) (pc'' := 33) (by decide) (by decide) rfl (fun c30 => ?_) (fun c30 => ?_)
    · have c30 : ¬ ((cmpI t i).toInt = 0) := c30
      have c30 : ¬ (t = i) := fun q => c30 ((cmpI_eq _ _).mpr q)
      refine g_iconst C X0 (pc' := 47) d2_46 (v := (0 : Int32)) (by decide) rfl ?_
      exfalso; unfold own_cut at hc; omega
    · have c30 : (cmpI t i).toInt = 0 := Decidable.not_not.mp c30
      have c30 : t = i := (cmpI_eq _ _).mp c30
      refine g_aloadN C X0 (pc' := 34) d2_33 rfl rfl rfl ?_
      refine g_iloadN C X0 (pc' := 35) d2_34 rfl rfl ?_
      refine g_daload C X0 (pc' := 36) e0 A' (by decide) (by decide) 1 (by decide) rfl d2_35 rfl ?_
      refine g_dload C X0 (pc' := 38) d2_36 rfl rfl ?_
      refine g_dcmpV C X0 d2_38 (v := (0 : Int32)) ((dcmp_cmpI Dw D _).trans (cmpI_self _)) rfl ?_
      refine g_ifN C X0 d2_39 (by decide) rfl ?_
      refine g_iconst C X0 (pc' := 43) d2_42 (v := (1 : Int32)) (by decide) rfl ?_
      refine g_goto C X0 d2_43 (pc' := 47) (by decide) (by decide) ?_
      exact g_zreturn C X0 d2_47 (w := 1) (by decide) ⟨rfl, rfl, e0⟩ (by decide) (by decide)
  · have c12 : 0 < (cmpI i E).toInt := Decidable.not_not.mp c12
    have c12 : E < i := (cmpI_gt _ _).mp c12
    refine g_dload C X0 (pc' := 17) d2_15 rfl rfl ?_
    refine g_goto C X0 d2_17 (pc' := 22) (by decide) (by decide) ?_
    refine g_dstore C X0 (pc' := 24) d2_22 (x := y) rfl (l' := #[.val (.ref a), .val (.ref b), .val (.int (1 : Int32)), .val (.int (2 : Int32)), .val (.double x), .second, .val (.double y), .second, .val (.double y), .second]) rfl rfl ?_
    refine g_aloadN C X0 (pc' := 25) d2_24 rfl rfl rfl ?_
    refine g_iloadN C X0 (pc' := 26) d2_25 rfl rfl ?_
    refine g_daload C X0 (pc' := 27) e0 A (by decide) (by decide) 1 (by decide) rfl d2_26 rfl ?_
    refine g_dload C X0 (pc' := 29) d2_27 rfl rfl ?_
    refine g_dcmpV C X0 (pc' := 30) d2_29 (dcmp_cmpI Dt DE _) rfl ?_
    refine g_if C X0 d2_30 (pc' := 46) (pc'' := 33) (by decide) (by decide) rfl (fun c30 => ?_) (fun c30 => ?_)
    · have c30 : ¬ ((cmpI t E).toInt = 0) := c30
      have c30 : ¬ (t = E) := fun q => c30 ((cmpI_eq _ _).mpr q)
      refine g_iconst C X0 (pc' := 47) d2_46 (v := (0 : Int32)) (by decide) rfl ?_
      exfalso; unfold own_cut at hc; omega
    · have c30 : (cmpI t E).toInt = 0 := Decidable.not_not.mp c30
      have c30 : t = E := (cmpI_eq _ _).mp c30
      refine g_aloadN C X0 (pc' := 34) d2_33 rfl rfl rfl ?_
      refine g_iloadN C X0 (pc' := 35) d2_34 rfl rfl ?_
      refine g_daload C X0 (pc' := 36) e0 A' (by decide) (by decide) 1 (by decide) rfl d2_35 rfl ?_
      refine g_dload C X0 (pc' := 38) d2_36 rfl rfl ?_
      refine g_dcmpV C X0 d2_38 (v := (0 : Int32)) ((dcmp_cmpI Dw D _).trans (cmpI_self _)) rfl ?_
      refine g_ifN C X0 d2_39 (by decide) rfl ?_
      refine g_iconst C X0 (pc' := 43) d2_42 (v := (1 : Int32)) (by decide) rfl ?_
      refine g_goto C X0 d2_43 (pc' := 47) (by decide) (by decide) ?_
      exact g_zreturn C X0 d2_47 (w := 1) (by decide) ⟨rfl, rfl, e0⟩ (by decide) (by decide)
set_option maxRecDepth 65536 in
set_option maxHeartbeats 40000000 in
theorem c_sl2_2 (l : Launch) (Z : State) (h : Heap) (a b : Addr) (ka kb : ClassId) (x y : UInt64) (u0 w0 : UInt64) (u1 w1 : UInt64) (A : Arv Z h a ka .double (2 : Int32) [.double u0, .double u1] (.double (0 : UInt64))) (A' : Arv Z h b kb .double (2 : Int32) [.double w0, .double w1] (.double (0 : UInt64))) :
    Con l Z (⟨"com/example/sitewise/sitewise/UncapacitatedInstanceAtMostPinLaw", "slot", "([D[DIIDD)Z"⟩ : MethodName) method_3_code 10 (some .boolean) ⟨0, 0, 0, 0⟩ #[.ref a, .ref b, .int (2 : Int32), .int (2 : Int32), .double x, .double y] h (fun v h' L => v = some (.int 1) ∧ L = [] ∧ h' = h) := by
  refine con_of_go pnS (fun m => efS m a b _ _ x y) ?_
  intro p e s m below meth c T0 C X0 e0
  refine g_iloadN C X0 (pc' := 1) d2_0 rfl rfl ?_
  refine g_iloadN C X0 (pc' := 2) d2_1 rfl rfl ?_
  refine g_icmpN C X0 d2_2 (by decide) rfl ?_
  refine g_iconst C X0 (pc' := 6) d2_5 (v := (1 : Int32)) (by decide) rfl ?_
  exact g_zreturn C X0 d2_6 (w := 1) (by decide) ⟨rfl, rfl, e0⟩ (by decide) (by decide)
set_option maxRecDepth 65536 in
set_option maxHeartbeats 40000000 in
theorem c_sl3_0 (l : Launch) (Z : State) (h : Heap) (a b : Addr) (ka kb : ClassId) (x y : UInt64) (u0 w0 : UInt64) (u1 w1 : UInt64) (u2 w2 : UInt64) (t i E : Int) (Dt : FP.Core.DInt t u0) (Dw : FP.Core.DInt i w0) (D : FP.Core.DInt i x) (DE : FP.Core.DInt E y) (hc : own_cut E i t) (A : Arv Z h a ka .double (3 : Int32) [.double u0, .double u1, .double u2] (.double (0 : UInt64))) (A' : Arv Z h b kb .double (3 : Int32) [.double w0, .double w1, .double w2] (.double (0 : UInt64))) :
    Con l Z (⟨"com/example/sitewise/sitewise/UncapacitatedInstanceAtMostPinLaw", "slot", "([D[DIIDD)Z"⟩ : MethodName) method_3_code 10 (some .boolean) ⟨0, 0, 0, 0⟩ #[.ref a, .ref b, .int (0 : Int32), .int (3 : Int32), .double x, .double y] h (fun v h' L => v = some (.int 1) ∧ L = [] ∧ h' = h) := by
  refine con_of_go pnS (fun m => efS m a b _ _ x y) ?_
  intro p e s m below meth c T0 C X0 e0
  refine g_iloadN C X0 (pc' := 1) d2_0 rfl rfl ?_
  refine g_iloadN C X0 (pc' := 2) d2_1 rfl rfl ?_
  refine g_icmpY C X0 d2_2 (pc' := 7) (by decide) (by decide) (by decide) ?_
  refine g_dload C X0 (pc' := 9) d2_7 rfl rfl ?_
  refine g_dload C X0 (pc' := 11) d2_9 rfl rfl ?_
  refine g_dcmpV C X0 (pc' := 12) d2_11 (dcmp_cmpI D DE _) rfl ?_
  refine g_if C X0 d2_12 (pc' := 20) (pc'' := 15) (by decide) (by decide) rfl (fun c12 => ?_) (fun c12 => ?_)
  · have c12 : ¬ (0 < (cmpI i E).toInt) := c12
    have c12 : ¬ (E < i) := fun q => c12 ((cmpI_gt _ _).mpr q)
    refine g_dload C X0 (pc' := 22) d2_20 rfl rfl ?_
    refine g_dstore C X0 (pc' := 24) d2_22 (x := x) rfl (l' := #[.val (.ref a), .val (.ref b), .val (.int (0 : Int32)), .val (.int (3 : Int32)), .val (.double x), .second, .val (.double y), .second, .val (.double x), .second]) rfl rfl ?_
    refine g_aloadN C X0 (pc' := 25) d2_24 rfl rfl rfl ?_
    refine g_iloadN C X0 (pc' := 26) d2_25 rfl rfl ?_
    refine g_daload C X0 (pc' := 27) e0 A (by decide) (by decide) 0 (by decide) rfl d2_26 rfl ?_
    refine g_dload C X0 (pc' := 29) d2_27 rfl rfl ?_
    refine g_dcmpV C X0 (pc' := 30) d2_29 (dcmp_cmpI Dt D _) rfl ?_
    refine g_if C X0 d2_30 (pc' := 46) (pc'' := 33) (by decide) (by decide) rfl (fun c30 => ?_) (fun c30 => ?_)
    · have c30 : ¬ ((cmpI t i).toInt = 0) := c30
      have c30 : ¬ (t = i) := fun q => c30 ((cmpI_eq _ _).mpr q)
      refine g_iconst C X0 (pc' := 47) d2_46 (v := (0 : Int32)) (by decide) rfl ?_
      exfalso; unfold own_cut at hc; omega
    · have c30 : (cmpI t i).toInt = 0 := Decidable.not_not.mp c30
      have c30 : t = i := (cmpI_eq _ _).mp c30
      refine g_aloadN C X0 (pc' := 34) d2_33 rfl rfl rfl ?_
      refine g_iloadN C X0 (pc' := 35) d2_34 rfl rfl ?_
      refine g_daload C X0 (pc' := 36) e0 A' (by decide) (by decide) 0 (by decide) rfl d2_35 rfl ?_
      refine g_dload C X0 (pc' := 38) d2_36 rfl rfl ?_
      refine g_dcmpV C X0 d2_38 (v := (0 : Int32)) ((dcmp_cmpI Dw D _).trans (cmpI_self _)) rfl ?_
      refine g_ifN C X0 d2_39 (by decide) rfl ?_
      refine g_iconst C X0 (pc' := 43) d2_42 (v := (1 : Int32)) (by decide) rfl ?_
      refine g_goto C X0 d2_43 (pc' := 47) (by decide) (by decide) ?_
      exact g_zreturn C X0 d2_47 (w := 1) (by decide) ⟨rfl, rfl, e0⟩ (by decide) (by decide)
  · have c12 : 0 < (cmpI i E).toInt := Decidable.not_not.mp c12
    have c12 : E < i := (cmpI_gt _ _).mp c12
    refine g_dload C X0 (pc' := 17) d2_15 rfl rfl ?_
    refine g_goto C X0 d2_17 (pc' := 22) (by decide) (by decide) ?_
    refine g_dstore C X0 (pc' := 24) d2_22 (x := y) rfl (l' := #[.val (.ref a), .val (.ref b), .val (.int (0 : Int32)), .val (.int (3 : Int32)), .val (.double x), .second, .val (.double y), .second, .val (.double y), .second]) rfl rfl ?_
    refine g_aloadN C X0 (pc' := 25) d2_24 rfl rfl rfl ?_
    refine g_iloadN C X0 (pc' := 26) d2_25 rfl rfl ?_
    refine g_daload C X0 (pc' := 27) e0 A (by decide) (by decide) 0 (by decide) rfl d2_26 rfl ?_
    refine g_dload C X0 (pc' := 29) d2_27 rfl rfl ?_
    refine g_dcmpV C X0 (pc' := 30) d2_29 (dcmp_cmpI Dt DE _) rfl ?_
    refine g_if C X0 d2_30 (pc' := 46) (pc'' := 33) (by decide) (by decide) rfl (fun c30 => ?_) (fun c30 => ?_)
    · have c30 : ¬ ((cmpI t E).toInt = 0) := c30
      have c30 : ¬ (t = E) := fun q => c30 ((cmpI_eq _ _).mpr q)
      refine g_iconst C X0 (pc' := 47) d2_46 (v := (0 : Int32)) (by decide) rfl ?_
      exfalso; unfold own_cut at hc; omega
    · have c30 : (cmpI t E).toInt = 0 := Decidable.not_not.mp c30
      have c30 : t = E := (cmpI_eq _ _).mp c30
      refine g_aloadN C X0 (pc' := 34) d2_33 rfl rfl rfl ?_
      refine g_iloadN C X0 (pc' := 35) d2_34 rfl rfl ?_
      refine g_daload C X0 (pc' := 36) e0 A' (by decide) (by decide) 0 (by decide) rfl d2_35 rfl ?_
      refine g_dload C X0 (pc' := 38) d2_36 rfl rfl ?_
      refine g_dcmpV C X0 d2_38 (v := (0 : Int32)) ((dcmp_cmpI Dw D _).trans (cmpI_self _)) rfl ?_
      refine g_ifN C X0 d2_39 (by decide) rfl ?_
      refine g_iconst C X0 (pc' := 43) d2_42 (v := (1 : Int32)) (by decide) rfl ?_
      refine g_goto C X0 d2_43 (pc' := 47) (by decide) (by decide) ?_
      exact g_zreturn C X0 d2_47 (w := 1) (by decide) ⟨rfl, rfl, e0⟩ (by decide) (by decide)
set_option maxRecDepth 65536 in
set_option maxHeartbeats 40000000 in
theorem c_sl3_1 (l : Launch) (Z : State) (h : Heap) (a b : Addr) (ka kb : ClassId) (x y : UInt64) (u0 w0 : UInt64) (u1 w1 : UInt64) (u2 w2 : UInt64) (t i E : Int) (Dt : FP.Core.DInt t u1) (Dw : FP.Core.DInt i w1) (D : FP.Core.DInt i x) (DE : FP.Core.DInt E y) (hc : own_cut E i t) (A : Arv Z h a ka .double (3 : Int32) [.double u0, .double u1, .double u2] (.double (0 : UInt64))) (A' : Arv Z h b kb .double (3 : Int32) [.double w0, .double w1, .double w2] (.double (0 : UInt64))) :
    Con l Z (⟨"com/example/sitewise/sitewise/UncapacitatedInstanceAtMostPinLaw", "slot", "([D[DIIDD)Z"⟩ : MethodName) method_3_code 10 (some .boolean) ⟨0, 0, 0, 0⟩ #[.ref a, .ref b, .int (1 : Int32), .int (3 : Int32), .double x, .double y] h (fun v h' L => v = some (.int 1) ∧ L = [] ∧ h' = h) := by
  refine con_of_go pnS (fun m => efS m a b _ _ x y) ?_
  intro p e s m below meth c T0 C X0 e0
  refine g_iloadN C X0 (pc' := 1) d2_0 rfl rfl ?_
  refine g_iloadN C X0 (pc' := 2) d2_1 rfl rfl ?_
  refine g_icmpY C X0 d2_2 (pc' := 7) (by decide) (by decide) (by decide) ?_
  refine g_dload C X0 (pc' := 9) d2_7 rfl rfl ?_
  refine g_dload C X0 (pc' := 11) d2_9 rfl rfl ?_
  refine g_dcmpV C X0 (pc' := 12) d2_11 (dcmp_cmpI D DE _) rfl ?_
  refine g_if C X0 d2_12 (pc' := 20) (pc'' := 15) (by decide) (by decide) rfl (fun c12 => ?_) (fun c12 => ?_)
  · have c12 : ¬ (0 < (cmpI i E).toInt) := c12
    have c12 : ¬ (E < i) := fun q => c12 ((cmpI_gt _ _).mpr q)
    refine g_dload C X0 (pc' := 22) d2_20 rfl rfl ?_
    refine g_dstore C X0 (pc' := 24) d2_22 (x := x) rfl (l' := #[.val (.ref a), .val (.ref b), .val (.int (1 : Int32)), .val (.int (3 : Int32)), .val (.double x), .second, .val (.double y), .second, .val (.double x), .second]) rfl rfl ?_
    refine g_aloadN C X0 (pc' := 25) d2_24 rfl rfl rfl ?_
    refine g_iloadN C X0 (pc' := 26) d2_25 rfl rfl ?_
    refine g_daload C X0 (pc' := 27) e0 A (by decide) (by decide) 1 (by decide) rfl d2_26 rfl ?_
    refine g_dload C X0 (pc' := 29) d2_27 rfl rfl ?_
    refine g_dcmpV C X0 (pc' := 30) d2_29 (dcmp_cmpI Dt D _) rfl ?_
    refine g_if C X0 d2_30 (pc' := 46) (pc'' := 33) (by decide) (by decide) rfl (fun c30 => ?_) (fun c30 => ?_)
    · have c30 : ¬ ((cmpI t i).toInt = 0) := c30
      have c30 : ¬ (t = i) := fun q => c30 ((cmpI_eq _ _).mpr q)
      refine g_iconst C X0 (pc' := 47) d2_46 (v := (0 : Int32)) (by decide) rfl ?_
      exfalso; unfold own_cut at hc; omega
    · have c30 : (cmpI t i).toInt = 0 := Decidable.not_not.mp c30
      have c30 : t = i := (cmpI_eq _ _).mp c30
      refine g_aloadN C X0 (pc' := 34) d2_33 rfl rfl rfl ?_
      refine g_iloadN C X0 (pc' := 35) d2_34 rfl rfl ?_
      refine g_daload C X0 (pc' := 36) e0 A' (by decide) (by decide) 1 (by decide) rfl d2_35 rfl ?_
      refine g_dload C X0 (pc' := 38) d2_36 rfl rfl ?_
      refine g_dcmpV C X0 d2_38 (v := (0 : Int32)) ((dcmp_cmpI Dw D _).trans (cmpI_self _)) rfl ?_
      refine g_ifN C X0 d2_39 (by decide) rfl ?_
      refine g_iconst C X0 (pc' := 43) d2_42 (v := (1 : Int32)) (by decide) rfl ?_
      refine g_goto C X0 d2_43 (pc' := 47) (by decide) (by decide) ?_
      exact g_zreturn C X0 d2_47 (w := 1) (by decide) ⟨rfl, rfl, e0⟩ (by decide) (by decide)
  · have c12 : 0 < (cmpI i E).toInt := Decidable.not_not.mp c12
    have c12 : E < i := (cmpI_gt _ _).mp c12
    refine g_dload C X0 (pc' := 17) d2_15 rfl rfl ?_
    refine g_goto C X0 d2_17 (pc' := 22) (by decide) (by decide) ?_
    refine g_dstore C X0 (pc' := 24) d2_22 (x := y) rfl (l' := #[.val (.ref a), .val (.ref b), .val (.int (1 : Int32)), .val (.int (3 : Int32)), .val (.double x), .second, .val (.double y), .second, .val (.double y), .second]) rfl rfl ?_
    refine g_aloadN C X0 (pc' := 25) d2_24 rfl rfl rfl ?_
    refine g_iloadN C X0 (pc' := 26) d2_25 rfl rfl ?_
    refine g_daload C X0 (pc' := 27) e0 A (by decide) (by decide) 1 (by decide) rfl d2_26 rfl ?_
    refine g_dload C X0 (pc' := 29) d2_27 rfl rfl ?_
    refine g_dcmpV C X0 (pc' := 30) d2_29 (dcmp_cmpI Dt DE _) rfl ?_
    refine g_if C X0 d2_30 (pc' := 46) (pc'' := 33) (by decide) (by decide) rfl (fun c30 => ?_) (fun c30 => ?_)
    · have c30 : ¬ ((cmpI t E).toInt = 0) := c30
      have c30 : ¬ (t = E) := fun q => c30 ((cmpI_eq _ _).mpr q)
      refine g_iconst C X0 (pc' := 47) d2_46 (v := (0 : Int32)) (by decide) rfl ?_
      exfalso; unfold own_cut at hc; omega
    · have c30 : (cmpI t E).toInt = 0 := Decidable.not_not.mp c30
      have c30 : t = E := (cmpI_eq _ _).mp c30
      refine g_aloadN C X0 (pc' := 34) d2_33 rfl rfl rfl ?_
      refine g_iloadN C X0 (pc' := 35) d2_34 rfl rfl ?_
      refine g_daload C X0 (pc' := 36) e0 A' (by decide) (by decide) 1 (by decide) rfl d2_35 rfl ?_
      refine g_dload C X0 (pc' := 38) d2_36 rfl rfl ?_
      refine g_dcmpV C X0 d2_38 (v := (0 : Int32)) ((dcmp_cmpI Dw D _).trans (cmpI_self _)) rfl ?_
      refine g_ifN C X0 d2_39 (by decide) rfl ?_
      refine g_iconst C X0 (pc' := 43) d2_42 (v := (1 : Int32)) (by decide) rfl ?_
      refine g_goto C X0 d2_43 (pc' := 47) (by decide) (by decide) ?_
      exact g_zreturn C X0 d2_47 (w := 1) (by decide) ⟨rfl, rfl, e0⟩ (by decide) (by decide)
set_option maxRecDepth 65536 in
set_option maxHeartbeats 40000000 in
theorem c_sl3_2 (l : Launch) (Z : State) (h : Heap) (a b : Addr) (ka kb : ClassId) (x y : UInt64) (u0 w0 : UInt64) (u1 w1 : UInt64) (u2 w2 : UInt64) (t i E : Int) (Dt : FP.Core.DInt t u2) (Dw : FP.Core.DInt i w2) (D : FP.Core.DInt i x) (DE : FP.Core.DInt E y) (hc : own_cut E i t) (A : Arv Z h a ka .double (3 : Int32) [.double u0, .double u1, .double u2] (.double (0 : UInt64))) (A' : Arv Z h b kb .double (3 : Int32) [.double w0, .double w1, .double w2] (.double (0 : UInt64))) :
    Con l Z (⟨"com/example/sitewise/sitewise/UncapacitatedInstanceAtMostPinLaw", "slot", "([D[DIIDD)Z"⟩ : MethodName) method_3_code 10 (some .boolean) ⟨0, 0, 0, 0⟩ #[.ref a, .ref b, .int (2 : Int32), .int (3 : Int32), .double x, .double y] h (fun v h' L => v = some (.int 1) ∧ L = [] ∧ h' = h) := by
  refine con_of_go pnS (fun m => efS m a b _ _ x y) ?_
  intro p e s m below meth c T0 C X0 e0
  refine g_iloadN C X0 (pc' := 1) d2_0 rfl rfl ?_
  refine g_iloadN C X0 (pc' := 2) d2_1 rfl rfl ?_
  refine g_icmpY C X0 d2_2 (pc' := 7) (by decide) (by decide) (by decide) ?_
  refine g_dload C X0 (pc' := 9) d2_7 rfl rfl ?_
  refine g_dload C X0 (pc' := 11) d2_9 rfl rfl ?_
  refine g_dcmpV C X0 (pc' := 12) d2_11 (dcmp_cmpI D DE _) rfl ?_
  refine g_if C X0 d2_12 (pc' := 20) (pc'' := 15) (by decide) (by decide) rfl (fun c12 => ?_) (fun c12 => ?_)
  · have c12 : ¬ (0 < (cmpI i E).toInt) := c12
    have c12 : ¬ (E < i) := fun q => c12 ((cmpI_gt _ _).mpr q)
    refine g_dload C X0 (pc' := 22) d2_20 rfl rfl ?_
    refine g_dstore C X0 (pc' := 24) d2_22 (x := x) rfl (l' := #[.val (.ref a), .val (.ref b), .val (.int (2 : Int32)), .val (.int (3 : Int32)), .val (.double x), .second, .val (.double y), .second, .val (.double x), .second]) rfl rfl ?_
    refine g_aloadN C X0 (pc' := 25) d2_24 rfl rfl rfl ?_
    refine g_iloadN C X0 (pc' := 26) d2_25 rfl rfl ?_
    refine g_daload C X0 (pc' := 27) e0 A (by decide) (by decide) 2 (by decide) rfl d2_26 rfl ?_
    refine g_dload C X0 (pc' := 29) d2_27 rfl rfl ?_
    refine g_dcmpV C X0 (pc' := 30) d2_29 (dcmp_cmpI Dt D _) rfl ?_
    refine g_if C X0 d2_30 (pc' := 46) (pc'' := 33) (by decide) (by decide) rfl (fun c30 => ?_) (fun c30 => ?_)
    · have c30 : ¬ ((cmpI t i).toInt = 0) := c30
      have c30 : ¬ (t = i) := fun q => c30 ((cmpI_eq _ _).mpr q)
      refine g_iconst C X0 (pc' := 47) d2_46 (v := (0 : Int32)) (by decide) rfl ?_
      exfalso; unfold own_cut at hc; omega
    · have c30 : (cmpI t i).toInt = 0 := Decidable.not_not.mp c30
      have c30 : t = i := (cmpI_eq _ _).mp c30
      refine g_aloadN C X0 (pc' := 34) d2_33 rfl rfl rfl ?_
      refine g_iloadN C X0 (pc' := 35) d2_34 rfl rfl ?_
      refine g_daload C X0 (pc' := 36) e0 A' (by decide) (by decide) 2 (by decide) rfl d2_35 rfl ?_
      refine g_dload C X0 (pc' := 38) d2_36 rfl rfl ?_
      refine g_dcmpV C X0 d2_38 (v := (0 : Int32)) ((dcmp_cmpI Dw D _).trans (cmpI_self _)) rfl ?_
      refine g_ifN C X0 d2_39 (by decide) rfl ?_
      refine g_iconst C X0 (pc' := 43) d2_42 (v := (1 : Int32)) (by decide) rfl ?_
      refine g_goto C X0 d2_43 (pc' := 47) (by decide) (by decide) ?_
      exact g_zreturn C X0 d2_47 (w := 1) (by decide) ⟨rfl, rfl, e0⟩ (by decide) (by decide)
  · have c12 : 0 < (cmpI i E).toInt := Decidable.not_not.mp c12
    have c12 : E < i := (cmpI_gt _ _).mp c12
    refine g_dload C X0 (pc' := 17) d2_15 rfl rfl ?_
    refine g_goto C X0 d2_17 (pc' := 22) (by decide) (by decide) ?_
    refine g_dstore C X0 (pc' := 24) d2_22 (x := y) rfl (l' := #[.val (.ref a), .val (.ref b), .val (.int (2 : Int32)), .val (.int (3 : Int32)), .val (.double x), .second, .val (.double y), .second, .val (.double y), .second]) rfl rfl ?_
    refine g_aloadN C X0 (pc' := 25) d2_24 rfl rfl rfl ?_
    refine g_iloadN C X0 (pc' := 26) d2_25 rfl rfl ?_
    refine g_daload C X0 (pc' := 27) e0 A (by decide) (by decide) 2 (by decide) rfl d2_26 rfl ?_
    refine g_dload C X0 (pc' := 29) d2_27 rfl rfl ?_
    refine g_dcmpV C X0 (pc' := 30) d2_29 (dcmp_cmpI Dt DE _) rfl ?_
    refine g_if C X0 d2_30 (pc' := 46) (pc'' := 33) (by decide) (by decide) rfl (fun c30 => ?_) (fun c30 => ?_)
    · have c30 : ¬ ((cmpI t E).toInt = 0) := c30
      have c30 : ¬ (t = E) := fun q => c30 ((cmpI_eq _ _).mpr q)
      refine g_iconst C X0 (pc' := 47) d2_46 (v := (0 : Int32)) (by decide) rfl ?_
      exfalso; unfold own_cut at hc; omega
    · have c30 : (cmpI t E).toInt = 0 := Decidable.not_not.mp c30
      have c30 : t = E := (cmpI_eq _ _).mp c30
      refine g_aloadN C X0 (pc' := 34) d2_33 rfl rfl rfl ?_
      refine g_iloadN C X0 (pc' := 35) d2_34 rfl rfl ?_
      refine g_daload C X0 (pc' := 36) e0 A' (by decide) (by decide) 2 (by decide) rfl d2_35 rfl ?_
      refine g_dload C X0 (pc' := 38) d2_36 rfl rfl ?_
      refine g_dcmpV C X0 d2_38 (v := (0 : Int32)) ((dcmp_cmpI Dw D _).trans (cmpI_self _)) rfl ?_
      refine g_ifN C X0 d2_39 (by decide) rfl ?_
      refine g_iconst C X0 (pc' := 43) d2_42 (v := (1 : Int32)) (by decide) rfl ?_
      refine g_goto C X0 d2_43 (pc' := 47) (by decide) (by decide) ?_
      exact g_zreturn C X0 d2_47 (w := 1) (by decide) ⟨rfl, rfl, e0⟩ (by decide) (by decide)
theorem own_n (x : Int32) : x &&& 3 = 0 ∨ x &&& 3 = 1 ∨ x &&& 3 = 2 ∨ x &&& 3 = 3 := by
  have h1 := c_and x 3 (by decide)
  have e0 : (0 : Int32).toInt = 0 := by decide
  have e1 : (1 : Int32).toInt = 1 := by decide
  have e2 : (2 : Int32).toInt = 2 := by decide
  have e3 : (3 : Int32).toInt = 3 := by decide
  simp only [← Int32.toInt_inj]
  omega
set_option maxRecDepth 65536 in
set_option maxHeartbeats 40000000 in
theorem law (l : Launch) (Z : State) (a0 : Array Value) (hw : ∀ d ∈ tables_1, d.before a0 Z = true) (p0 p1 p2 p3 p4 : Int32) (h : Heap) (n0 : Nat) (Z0 : n0 ≤ h.size) :
    Con l Z x code maxLocals ret room_1 #[.int p0, .int p1, .int p2, .int p3, .int p4] h (fun v _ L => v = some (.int 1) ∧ Fr n0 L) := by
  refine con_of_go pn0 (fun m => ef0 m p0 p1 p2 p3 p4) ?_
  intro p e s m below meth c T0 C X0 e0
  refine g_iloadN C X0 (pc' := 1) at_0 rfl rfl ?_
  refine g_iconst C X0 (pc' := 2) at_1 (v := (3 : Int32)) (by decide) rfl ?_
  refine g_iand C X0 (pc' := 3) at_2 rfl ?_
  obtain ⟨i1, e_i1⟩ : ∃ z : Int32, z = p0 &&& (3 : Int32) := ⟨_, rfl⟩
  refine g_istore C X0 (pc' := 5) at_3 (x := i1) e_i1 (l' := #[.val (.int p0), .val (.int p1), .val (.int p2), .val (.int p3), .val (.int p4), .val (.int i1), .unset, .unset, .unset, .unset, .unset, .unset, .unset, .unset, .unset, .unset, .unset]) rfl rfl ?_
  have nn := own_n p0
  rw [← e_i1] at nn
  clear e_i1
  rcases nn with rfl | rfl | rfl | rfl
  · show Go p.tables e below _ T0 (mkF m 5 #[.val (.int p0), .val (.int p1), .val (.int p2), .val (.int p3), .val (.int p4), .val (.int (0 : Int32)), .unset, .unset, .unset, .unset, .unset, .unset, .unset, .unset, .unset, .unset, .unset] [])
    refine g_iloadN C X0 (pc' := 6) at_5 rfl rfl ?_
    refine g_i2d C X0 (pc' := 7) at_6 rfl ?_
    obtain ⟨d2, e_d2⟩ : ∃ z : UInt64, z = FP.i2d p1 := ⟨_, rfl⟩
    have D_d2 : FP.Core.DInt p1.toInt d2 := e_d2 ▸ (i2d_D p1)
    refine g_dstore C X0 (pc' := 9) at_7 (x := d2) e_d2 (l' := #[.val (.int p0), .val (.int p1), .val (.int p2), .val (.int p3), .val (.int p4), .val (.int (0 : Int32)), .val (.double d2), .second, .unset, .unset, .unset, .unset, .unset, .unset, .unset, .unset, .unset]) rfl rfl ?_
    refine g_iloadN C X0 (pc' := 10) at_9 rfl rfl ?_
    refine g_i2d C X0 (pc' := 11) at_10 rfl ?_
    obtain ⟨d3, e_d3⟩ : ∃ z : UInt64, z = FP.i2d p2 := ⟨_, rfl⟩
    have D_d3 : FP.Core.DInt p2.toInt d3 := e_d3 ▸ (i2d_D p2)
    refine g_dstore C X0 (pc' := 13) at_11 (x := d3) e_d3 (l' := #[.val (.int p0), .val (.int p1), .val (.int p2), .val (.int p3), .val (.int p4), .val (.int (0 : Int32)), .val (.double d2), .second, .val (.double d3), .second, .unset, .unset, .unset, .unset, .unset, .unset, .unset]) rfl rfl ?_
    refine g_iloadN C X0 (pc' := 14) at_13 rfl rfl ?_
    refine g_i2d C X0 (pc' := 15) at_14 rfl ?_
    obtain ⟨d4, e_d4⟩ : ∃ z : UInt64, z = FP.i2d p3 := ⟨_, rfl⟩
    have D_d4 : FP.Core.DInt p3.toInt d4 := e_d4 ▸ (i2d_D p3)
    refine g_dstore C X0 (pc' := 17) at_15 (x := d4) e_d4 (l' := #[.val (.int p0), .val (.int p1), .val (.int p2), .val (.int p3), .val (.int p4), .val (.int (0 : Int32)), .val (.double d2), .second, .val (.double d3), .second, .val (.double d4), .second, .unset, .unset, .unset, .unset, .unset]) rfl rfl ?_
    refine g_iload C X0 (pc' := 19) at_17 rfl rfl ?_
    refine g_i2d C X0 (pc' := 20) at_19 rfl ?_
    obtain ⟨d5, e_d5⟩ : ∃ z : UInt64, z = FP.i2d p4 := ⟨_, rfl⟩
    have D_d5 : FP.Core.DInt p4.toInt d5 := e_d5 ▸ (i2d_D p4)
    refine g_dstore C X0 (pc' := 22) at_20 (x := d5) e_d5 (l' := #[.val (.int p0), .val (.int p1), .val (.int p2), .val (.int p3), .val (.int p4), .val (.int (0 : Int32)), .val (.double d2), .second, .val (.double d3), .second, .val (.double d4), .second, .val (.double d5), .second, .unset, .unset, .unset]) rfl rfl ?_
    refine g_iload C X0 (pc' := 24) at_22 rfl rfl ?_
    refine g_newPE C X0 (aty := .double) (ad := "[D") (by decide) (hw _ (List.mem_of_getElem? (i := 0) rfl)) e0 at_24 (by decide) 0 (by decide) (by decide) (by decide) (by decide) rfl ?_
    intro T1 h1 a1 k1 g1 X1 e1 E1 A1 B1
    have z_a1 : n0 ≤ a1 := by rw [g1]; exact Z0
    have Z1 : n0 ≤ h1.size := Nat.le_trans Z0 E1.1
    have A1 : Arv Z h1 a1 k1 .double (0 : Int32) [] (.double (0 : UInt64)) := A1
    refine g_astore C X1 (pc' := 28) at_26 rfl (l' := #[.val (.int p0), .val (.int p1), .val (.int p2), .val (.int p3), .val (.int p4), .val (.int (0 : Int32)), .val (.double d2), .second, .val (.double d3), .second, .val (.double d4), .second, .val (.double d5), .second, .val (.ref a1), .unset, .unset]) rfl rfl ?_
    refine g_iload C X1 (pc' := 30) at_28 rfl rfl ?_
    refine g_ifY C X1 at_30 (pc' := 39) (by decide) (by decide) (by decide) ?_
    refine g_iload C X1 (pc' := 41) at_39 rfl rfl ?_
    refine g_iconst C X1 (pc' := 42) at_41 (v := (1 : Int32)) (by decide) rfl ?_
    refine g_icmpY C X1 at_42 (pc' := 51) (by decide) (by decide) (by decide) ?_
    refine g_iload C X1 (pc' := 53) at_51 rfl rfl ?_
    refine g_iconst C X1 (pc' := 54) at_53 (v := (2 : Int32)) (by decide) rfl ?_
    refine g_icmpY C X1 at_54 (pc' := 63) (by decide) (by decide) (by decide) ?_
    refine g_aload C X1 (pc' := 65) at_63 rfl rfl rfl ?_
    refine g_dload C X1 (pc' := 67) at_65 rfl rfl ?_
    refine g_callS C X1 (c_am0 l Z a0 hw h1 n0 Z1 a1 k1 d5 _ D_d5 A1 B1) (hw _ (List.mem_of_getElem? (i := 1) rfl)) (hw _ (List.mem_of_getElem? (i := 2) rfl)) (hw _ (List.mem_of_getElem? (i := 3) rfl)) (hw _ (List.mem_of_getElem? (i := 4) rfl)) (by decide) e1 at_67 rfl pdA [(.ref a1), (.double d5)] [] rfl rfl rfl 0 rfl (by decide) (by decide) (by decide) (by decide) rfl ?_
    rintro _ T2 L2 X2 ⟨a2, k2, rfl, M2, K2, ab2, V2⟩
    have A1 := A1.keep K2 nin0
    have B1 := B1.keep K2
    have Z2 : n0 ≤ T2.heap.size := Nat.le_trans Z1 K2.1
    have N2 := Fr.app (Fr.nil n0) M2
    obtain ⟨h2, e2⟩ : ∃ z, T2.heap = z := ⟨_, rfl⟩
    rw [e2] at A1 B1 Z2 V2
    rcases ab2 with ⟨ab, nb⟩ | ⟨ab, nb⟩
    · have ab := ab.symm
      subst ab
      show Go p.tables e below _ T2 (mkF m 70 #[.val (.int p0), .val (.int p1), .val (.int p2), .val (.int p3), .val (.int p4), .val (.int (0 : Int32)), .val (.double d2), .second, .val (.double d3), .second, .val (.double d4), .second, .val (.double d5), .second, .val (.ref a1), .unset, .unset] [(.ref a1)])
      refine g_astore C X2 (pc' := 72) at_70 rfl (l' := #[.val (.int p0), .val (.int p1), .val (.int p2), .val (.int p3), .val (.int p4), .val (.int (0 : Int32)), .val (.double d2), .second, .val (.double d3), .second, .val (.double d4), .second, .val (.double d5), .second, .val (.ref a1), .val (.ref a1), .unset]) rfl rfl ?_
      refine g_iload C X2 (pc' := 74) at_72 rfl rfl ?_
      refine g_ifY C X2 at_74 (pc' := 85) (by decide) (by decide) (by decide) ?_
      refine g_iload C X2 (pc' := 87) at_85 rfl rfl ?_
      refine g_iconst C X2 (pc' := 88) at_87 (v := (1 : Int32)) (by decide) rfl ?_
      refine g_icmpY C X2 at_88 (pc' := 99) (by decide) (by decide) (by decide) ?_
      refine g_iload C X2 (pc' := 101) at_99 rfl rfl ?_
      refine g_iconst C X2 (pc' := 102) at_101 (v := (2 : Int32)) (by decide) rfl ?_
      refine g_icmpY C X2 at_102 (pc' := 117) (by decide) (by decide) (by decide) ?_
      refine g_iconst C X2 (pc' := 118) at_117 (v := (0 : Int32)) (by decide) rfl ?_
      refine g_istore C X2 (pc' := 120) at_118 (x := (0 : Int32)) rfl (l' := #[.val (.int p0), .val (.int p1), .val (.int p2), .val (.int p3), .val (.int p4), .val (.int (0 : Int32)), .val (.double d2), .second, .val (.double d3), .second, .val (.double d4), .second, .val (.double d5), .second, .val (.ref a1), .val (.ref a1), .val (.int (0 : Int32))]) rfl rfl ?_
      refine g_aload C X2 (pc' := 122) at_120 rfl rfl rfl ?_
      refine g_ifnullN C X2 at_122 rfl ?_
      refine g_aload C X2 (pc' := 127) at_125 rfl rfl rfl ?_
      refine g_len C X2 (pc' := 128) e2 A1 at_127 rfl ?_
      refine g_iload C X2 (pc' := 130) at_128 rfl rfl ?_
      refine g_icmpY C X2 at_130 (pc' := 135) (by decide) (by decide) (by decide) ?_
      refine g_iload C X2 (pc' := 137) at_135 rfl rfl ?_
      refine g_aload C X2 (pc' := 139) at_137 rfl rfl rfl ?_
      refine g_aload C X2 (pc' := 141) at_139 rfl rfl rfl ?_
      refine g_acmpN C X2 at_141 rfl rfl (ac_same _).2 rfl ?_
      refine g_iconst C X2 (pc' := 145) at_144 (v := (1 : Int32)) (by decide) rfl ?_
      refine g_goto C X2 at_145 (pc' := 149) (by decide) (by decide) ?_
      refine g_icmpY C X2 at_149 (pc' := 154) (by decide) (by decide) (by decide) ?_
      refine g_aload C X2 (pc' := 156) at_154 rfl rfl rfl ?_
      refine g_aload C X2 (pc' := 158) at_156 rfl rfl rfl ?_
      refine g_iconst C X2 (pc' := 159) at_158 (v := (0 : Int32)) (by decide) rfl ?_
      refine g_iload C X2 (pc' := 161) at_159 rfl rfl ?_
      refine g_dload C X2 (pc' := 163) at_161 rfl rfl ?_
      refine g_dload C X2 (pc' := 165) at_163 rfl rfl ?_
      refine g_callS C X2 (c_sl0_0 l Z h2 a1 a1 k2 k1 d2 d5 V2 A1) (hw _ (List.mem_of_getElem? (i := 5) rfl)) (hw _ (List.mem_of_getElem? (i := 6) rfl)) (hw _ (List.mem_of_getElem? (i := 7) rfl)) (hw _ (List.mem_of_getElem? (i := 8) rfl)) (by decide) e2 at_165 rfl pdS [(.ref a1), (.ref a1), (.int (0 : Int32)), (.int (0 : Int32)), (.double d2), (.double d5)] [] rfl rfl rfl 0 rfl (by decide) (by decide) (by decide) (by decide) rfl ?_
      rintro _ T3 _ X3 ⟨rfl, rfl, e3⟩
      rw [List.append_nil] at X3
      show Go p.tables e below _ T3 (mkF m 168 #[.val (.int p0), .val (.int p1), .val (.int p2), .val (.int p3), .val (.int p4), .val (.int (0 : Int32)), .val (.double d2), .second, .val (.double d3), .second, .val (.double d4), .second, .val (.double d5), .second, .val (.ref a1), .val (.ref a1), .val (.int (0 : Int32))] [(.int (1 : Int32))])
      refine g_ifN C X3 at_168 (by decide) rfl ?_
      refine g_aload C X3 (pc' := 173) at_171 rfl rfl rfl ?_
      refine g_aload C X3 (pc' := 175) at_173 rfl rfl rfl ?_
      refine g_iconst C X3 (pc' := 176) at_175 (v := (1 : Int32)) (by decide) rfl ?_
      refine g_iload C X3 (pc' := 178) at_176 rfl rfl ?_
      refine g_dload C X3 (pc' := 180) at_178 rfl rfl ?_
      refine g_dload C X3 (pc' := 182) at_180 rfl rfl ?_
      refine g_callS C X3 (c_sl0_1 l Z h2 a1 a1 k2 k1 d3 d5 V2 A1) (hw _ (List.mem_of_getElem? (i := 5) rfl)) (hw _ (List.mem_of_getElem? (i := 6) rfl)) (hw _ (List.mem_of_getElem? (i := 7) rfl)) (hw _ (List.mem_of_getElem? (i := 8) rfl)) (by decide) e3 at_182 rfl pdS [(.ref a1), (.ref a1), (.int (1 : Int32)), (.int (0 : Int32)), (.double d3), (.double d5)] [] rfl rfl rfl 0 rfl (by decide) (by decide) (by decide) (by decide) rfl ?_
      rintro _ T4 _ X4 ⟨rfl, rfl, e4⟩
      rw [List.append_nil] at X4
      show Go p.tables e below _ T4 (mkF m 185 #[.val (.int p0), .val (.int p1), .val (.int p2), .val (.int p3), .val (.int p4), .val (.int (0 : Int32)), .val (.double d2), .second, .val (.double d3), .second, .val (.double d4), .second, .val (.double d5), .second, .val (.ref a1), .val (.ref a1), .val (.int (0 : Int32))] [(.int (1 : Int32))])
      refine g_ifN C X4 at_185 (by decide) rfl ?_
      refine g_aload C X4 (pc' := 190) at_188 rfl rfl rfl ?_
      refine g_aload C X4 (pc' := 192) at_190 rfl rfl rfl ?_
      refine g_iconst C X4 (pc' := 193) at_192 (v := (2 : Int32)) (by decide) rfl ?_
      refine g_iload C X4 (pc' := 195) at_193 rfl rfl ?_
      refine g_dload C X4 (pc' := 197) at_195 rfl rfl ?_
      refine g_dload C X4 (pc' := 199) at_197 rfl rfl ?_
      refine g_callS C X4 (c_sl0_2 l Z h2 a1 a1 k2 k1 d4 d5 V2 A1) (hw _ (List.mem_of_getElem? (i := 5) rfl)) (hw _ (List.mem_of_getElem? (i := 6) rfl)) (hw _ (List.mem_of_getElem? (i := 7) rfl)) (hw _ (List.mem_of_getElem? (i := 8) rfl)) (by decide) e4 at_199 rfl pdS [(.ref a1), (.ref a1), (.int (2 : Int32)), (.int (0 : Int32)), (.double d4), (.double d5)] [] rfl rfl rfl 0 rfl (by decide) (by decide) (by decide) (by decide) rfl ?_
      rintro _ T5 _ X5 ⟨rfl, rfl, e5⟩
      rw [List.append_nil] at X5
      show Go p.tables e below _ T5 (mkF m 202 #[.val (.int p0), .val (.int p1), .val (.int p2), .val (.int p3), .val (.int p4), .val (.int (0 : Int32)), .val (.double d2), .second, .val (.double d3), .second, .val (.double d4), .second, .val (.double d5), .second, .val (.ref a1), .val (.ref a1), .val (.int (0 : Int32))] [(.int (1 : Int32))])
      refine g_ifN C X5 at_202 (by decide) rfl ?_
      refine g_iconst C X5 (pc' := 206) at_205 (v := (1 : Int32)) (by decide) rfl ?_
      refine g_goto C X5 at_206 (pc' := 210) (by decide) (by decide) ?_
      exact g_zreturn C X5 at_210 (w := 1) (by decide) ⟨rfl, N2⟩ (by decide) (by decide)
    · show Go p.tables e below _ T2 (mkF m 70 #[.val (.int p0), .val (.int p1), .val (.int p2), .val (.int p3), .val (.int p4), .val (.int (0 : Int32)), .val (.double d2), .second, .val (.double d3), .second, .val (.double d4), .second, .val (.double d5), .second, .val (.ref a1), .unset, .unset] [(.ref a2)])
      refine g_astore C X2 (pc' := 72) at_70 rfl (l' := #[.val (.int p0), .val (.int p1), .val (.int p2), .val (.int p3), .val (.int p4), .val (.int (0 : Int32)), .val (.double d2), .second, .val (.double d3), .second, .val (.double d4), .second, .val (.double d5), .second, .val (.ref a1), .val (.ref a2), .unset]) rfl rfl ?_
      refine g_iload C X2 (pc' := 74) at_72 rfl rfl ?_
      refine g_ifY C X2 at_74 (pc' := 85) (by decide) (by decide) (by decide) ?_
      refine g_iload C X2 (pc' := 87) at_85 rfl rfl ?_
      refine g_iconst C X2 (pc' := 88) at_87 (v := (1 : Int32)) (by decide) rfl ?_
      refine g_icmpY C X2 at_88 (pc' := 99) (by decide) (by decide) (by decide) ?_
      refine g_iload C X2 (pc' := 101) at_99 rfl rfl ?_
      refine g_iconst C X2 (pc' := 102) at_101 (v := (2 : Int32)) (by decide) rfl ?_
      refine g_icmpY C X2 at_102 (pc' := 117) (by decide) (by decide) (by decide) ?_
      refine g_iconst C X2 (pc' := 118) at_117 (v := (0 : Int32)) (by decide) rfl ?_
      refine g_istore C X2 (pc' := 120) at_118 (x := (0 : Int32)) rfl (l' := #[.val (.int p0), .val (.int p1), .val (.int p2), .val (.int p3), .val (.int p4), .val (.int (0 : Int32)), .val (.double d2), .second, .val (.double d3), .second, .val (.double d4), .second, .val (.double d5), .second, .val (.ref a1), .val (.ref a2), .val (.int (0 : Int32))]) rfl rfl ?_
      refine g_aload C X2 (pc' := 122) at_120 rfl rfl rfl ?_
      refine g_ifnullN C X2 at_122 rfl ?_
      refine g_aload C X2 (pc' := 127) at_125 rfl rfl rfl ?_
      refine g_len C X2 (pc' := 128) e2 V2 at_127 rfl ?_
      refine g_iload C X2 (pc' := 130) at_128 rfl rfl ?_
      refine g_icmpY C X2 at_130 (pc' := 135) (by decide) (by decide) (by decide) ?_
      refine g_iload C X2 (pc' := 137) at_135 rfl rfl ?_
      refine g_aload C X2 (pc' := 139) at_137 rfl rfl rfl ?_
      refine g_aload C X2 (pc' := 141) at_139 rfl rfl rfl ?_
      refine g_acmpY C X2 at_141 rfl rfl (ac_diff (ref_ne ab)).2 (pc' := 148) (by decide) (by decide) ?_
      refine g_iconst C X2 (pc' := 149) at_148 (v := (0 : Int32)) (by decide) rfl ?_
      refine g_icmpN C X2 at_149 (by decide) rfl ?_
      refine g_iconst C X2 (pc' := 153) at_152 (v := (0 : Int32)) (by decide) rfl ?_
      exfalso; omega
  · show Go p.tables e below _ T0 (mkF m 5 #[.val (.int p0), .val (.int p1), .val (.int p2), .val (.int p3), .val (.int p4), .val (.int (1 : Int32)), .unset, .unset, .unset, .unset, .unset, .unset, .unset, .unset, .unset, .unset, .unset] [])
    refine g_iloadN C X0 (pc' := 6) at_5 rfl rfl ?_
    refine g_i2d C X0 (pc' := 7) at_6 rfl ?_
    obtain ⟨d6, e_d6⟩ : ∃ z : UInt64, z = FP.i2d p1 := ⟨_, rfl⟩
    have D_d6 : FP.Core.DInt p1.toInt d6 := e_d6 ▸ (i2d_D p1)
    refine g_dstore C X0 (pc' := 9) at_7 (x := d6) e_d6 (l' := #[.val (.int p0), .val (.int p1), .val (.int p2), .val (.int p3), .val (.int p4), .val (.int (1 : Int32)), .val (.double d6), .second, .unset, .unset, .unset, .unset, .unset, .unset, .unset, .unset, .unset]) rfl rfl ?_
    refine g_iloadN C X0 (pc' := 10) at_9 rfl rfl ?_
    refine g_i2d C X0 (pc' := 11) at_10 rfl ?_
    obtain ⟨d7, e_d7⟩ : ∃ z : UInt64, z = FP.i2d p2 := ⟨_, rfl⟩
    have D_d7 : FP.Core.DInt p2.toInt d7 := e_d7 ▸ (i2d_D p2)
    refine g_dstore C X0 (pc' := 13) at_11 (x := d7) e_d7 (l' := #[.val (.int p0), .val (.int p1), .val (.int p2), .val (.int p3), .val (.int p4), .val (.int (1 : Int32)), .val (.double d6), .second, .val (.double d7), .second, .unset, .unset, .unset, .unset, .unset, .unset, .unset]) rfl rfl ?_
    refine g_iloadN C X0 (pc' := 14) at_13 rfl rfl ?_
    refine g_i2d C X0 (pc' := 15) at_14 rfl ?_
    obtain ⟨d8, e_d8⟩ : ∃ z : UInt64, z = FP.i2d p3 := ⟨_, rfl⟩
    have D_d8 : FP.Core.DInt p3.toInt d8 := e_d8 ▸ (i2d_D p3)
    refine g_dstore C X0 (pc' := 17) at_15 (x := d8) e_d8 (l' := #[.val (.int p0), .val (.int p1), .val (.int p2), .val (.int p3), .val (.int p4), .val (.int (1 : Int32)), .val (.double d6), .second, .val (.double d7), .second, .val (.double d8), .second, .unset, .unset, .unset, .unset, .unset]) rfl rfl ?_
    refine g_iload C X0 (pc' := 19) at_17 rfl rfl ?_
    refine g_i2d C X0 (pc' := 20) at_19 rfl ?_
    obtain ⟨d9, e_d9⟩ : ∃ z : UInt64, z = FP.i2d p4 := ⟨_, rfl⟩
    have D_d9 : FP.Core.DInt p4.toInt d9 := e_d9 ▸ (i2d_D p4)
    refine g_dstore C X0 (pc' := 22) at_20 (x := d9) e_d9 (l' := #[.val (.int p0), .val (.int p1), .val (.int p2), .val (.int p3), .val (.int p4), .val (.int (1 : Int32)), .val (.double d6), .second, .val (.double d7), .second, .val (.double d8), .second, .val (.double d9), .second, .unset, .unset, .unset]) rfl rfl ?_
    refine g_iload C X0 (pc' := 24) at_22 rfl rfl ?_
    refine g_newPE C X0 (aty := .double) (ad := "[D") (by decide) (hw _ (List.mem_of_getElem? (i := 0) rfl)) e0 at_24 (by decide) 1 (by decide) (by decide) (by decide) (by decide) rfl ?_
    intro T6 h6 a6 k6 g6 X6 e6 E6 A6 B6
    have z_a6 : n0 ≤ a6 := by rw [g6]; exact Z0
    have Z6 : n0 ≤ h6.size := Nat.le_trans Z0 E6.1
    have A6 : Arv Z h6 a6 k6 .double (1 : Int32) [] (.double (0 : UInt64)) := A6
    refine g_astore C X6 (pc' := 28) at_26 rfl (l' := #[.val (.int p0), .val (.int p1), .val (.int p2), .val (.int p3), .val (.int p4), .val (.int (1 : Int32)), .val (.double d6), .second, .val (.double d7), .second, .val (.double d8), .second, .val (.double d9), .second, .val (.ref a6), .unset, .unset]) rfl rfl ?_
    refine g_iload C X6 (pc' := 30) at_28 rfl rfl ?_
    refine g_ifN C X6 at_30 (by decide) rfl ?_
    refine g_aload C X6 (pc' := 35) at_33 rfl rfl rfl ?_
    refine g_iconst C X6 (pc' := 36) at_35 (v := (0 : Int32)) (by decide) rfl ?_
    refine g_dload C X6 (pc' := 38) at_36 rfl rfl ?_
    refine g_dastore C X6 (pc' := 39) e6 A6 (by decide) (by decide) 0 1 (by decide) (of_decide_eq_true rfl) at_38 rfl ?_
    intro T7 h7 X7 e7 W7 Aq
    have B6 := B6.wr W7
    have Z7 : n0 ≤ h7.size := by rw [W7.size]; exact Z6
    have N7 := Fr.snoc X7 (Fr.nil n0) z_a6
    have A6 : Arv Z h7 a6 k6 .double (1 : Int32) [(.double d6)] (.double (0 : UInt64)) := Aq
    refine g_iload C X7 (pc' := 41) at_39 rfl rfl ?_
    refine g_iconst C X7 (pc' := 42) at_41 (v := (1 : Int32)) (by decide) rfl ?_
    refine g_icmpY C X7 at_42 (pc' := 51) (by decide) (by decide) (by decide) ?_
    refine g_iload C X7 (pc' := 53) at_51 rfl rfl ?_
    refine g_iconst C X7 (pc' := 54) at_53 (v := (2 : Int32)) (by decide) rfl ?_
    refine g_icmpY C X7 at_54 (pc' := 63) (by decide) (by decide) (by decide) ?_
    refine g_aload C X7 (pc' := 65) at_63 rfl rfl rfl ?_
    refine g_dload C X7 (pc' := 67) at_65 rfl rfl ?_
    refine g_callS C X7 (c_am1 l Z a0 hw h7 n0 Z7 a6 k6 d9 d6 _ _ D_d9 D_d6 A6 B6) (hw _ (List.mem_of_getElem? (i := 1) rfl)) (hw _ (List.mem_of_getElem? (i := 2) rfl)) (hw _ (List.mem_of_getElem? (i := 3) rfl)) (hw _ (List.mem_of_getElem? (i := 4) rfl)) (by decide) e7 at_67 rfl pdA [(.ref a6), (.double d9)] [] rfl rfl rfl 0 rfl (by decide) (by decide) (by decide) (by decide) rfl ?_
    rintro _ T8 L8 X8 ⟨a8, k8, rfl, M8, K8, ab8, y8_0, t8_0, Dy8_0, cy8_0, V8⟩
    have A6 := A6.keep K8 nin0
    have B6 := B6.keep K8
    have Z8 : n0 ≤ T8.heap.size := Nat.le_trans Z7 K8.1
    have N8 := Fr.app N7 M8
    obtain ⟨h8, e8⟩ : ∃ z, T8.heap = z := ⟨_, rfl⟩
    rw [e8] at A6 B6 Z8 V8
    rcases ab8 with ⟨ab, nb⟩ | ⟨ab, nb⟩
    · have ab := ab.symm
      subst ab
      show Go p.tables e below _ T8 (mkF m 70 #[.val (.int p0), .val (.int p1), .val (.int p2), .val (.int p3), .val (.int p4), .val (.int (1 : Int32)), .val (.double d6), .second, .val (.double d7), .second, .val (.double d8), .second, .val (.double d9), .second, .val (.ref a6), .unset, .unset] [(.ref a6)])
      refine g_astore C X8 (pc' := 72) at_70 rfl (l' := #[.val (.int p0), .val (.int p1), .val (.int p2), .val (.int p3), .val (.int p4), .val (.int (1 : Int32)), .val (.double d6), .second, .val (.double d7), .second, .val (.double d8), .second, .val (.double d9), .second, .val (.ref a6), .val (.ref a6), .unset]) rfl rfl ?_
      refine g_iload C X8 (pc' := 74) at_72 rfl rfl ?_
      refine g_ifN C X8 at_74 (by decide) rfl ?_
      refine g_dload C X8 (pc' := 79) at_77 rfl rfl ?_
      refine g_dload C X8 (pc' := 81) at_79 rfl rfl ?_
      refine g_dcmpV C X8 (pc' := 82) at_81 (dcmp_cmpI D_d6 D_d9 _) rfl ?_
      refine g_if C X8 at_82 (pc' := 113) (pc'' := 85) (by decide) (by decide) rfl (fun c82 => ?_) (fun c82 => ?_)
      · have c82 : 0 < (cmpI p1.toInt p4.toInt).toInt := c82
        have c82 : p4.toInt < p1.toInt := (cmpI_gt _ _).mp c82
        refine g_iconst C X8 (pc' := 114) at_113 (v := (1 : Int32)) (by decide) rfl ?_
        refine g_goto C X8 at_114 (pc' := 118) (by decide) (by decide) ?_
        refine g_istore C X8 (pc' := 120) at_118 (x := (1 : Int32)) rfl (l' := #[.val (.int p0), .val (.int p1), .val (.int p2), .val (.int p3), .val (.int p4), .val (.int (1 : Int32)), .val (.double d6), .second, .val (.double d7), .second, .val (.double d8), .second, .val (.double d9), .second, .val (.ref a6), .val (.ref a6), .val (.int (1 : Int32))]) rfl rfl ?_
        refine g_aload C X8 (pc' := 122) at_120 rfl rfl rfl ?_
        refine g_ifnullN C X8 at_122 rfl ?_
        refine g_aload C X8 (pc' := 127) at_125 rfl rfl rfl ?_
        refine g_len C X8 (pc' := 128) e8 A6 at_127 rfl ?_
        refine g_iload C X8 (pc' := 130) at_128 rfl rfl ?_
        refine g_icmpY C X8 at_130 (pc' := 135) (by decide) (by decide) (by decide) ?_
        refine g_iload C X8 (pc' := 137) at_135 rfl rfl ?_
        refine g_aload C X8 (pc' := 139) at_137 rfl rfl rfl ?_
        refine g_aload C X8 (pc' := 141) at_139 rfl rfl rfl ?_
        refine g_acmpN C X8 at_141 rfl rfl (ac_same _).2 rfl ?_
        refine g_iconst C X8 (pc' := 145) at_144 (v := (1 : Int32)) (by decide) rfl ?_
        refine g_goto C X8 at_145 (pc' := 149) (by decide) (by decide) ?_
        refine g_icmpN C X8 at_149 (by decide) rfl ?_
        refine g_iconst C X8 (pc' := 153) at_152 (v := (0 : Int32)) (by decide) rfl ?_
        exfalso; omega
      · have c82 : ¬ (0 < (cmpI p1.toInt p4.toInt).toInt) := c82
        have c82 : ¬ (p4.toInt < p1.toInt) := fun q => c82 ((cmpI_gt _ _).mpr q)
        refine g_iload C X8 (pc' := 87) at_85 rfl rfl ?_
        refine g_iconst C X8 (pc' := 88) at_87 (v := (1 : Int32)) (by decide) rfl ?_
        refine g_icmpY C X8 at_88 (pc' := 99) (by decide) (by decide) (by decide) ?_
        refine g_iload C X8 (pc' := 101) at_99 rfl rfl ?_
        refine g_iconst C X8 (pc' := 102) at_101 (v := (2 : Int32)) (by decide) rfl ?_
        refine g_icmpY C X8 at_102 (pc' := 117) (by decide) (by decide) (by decide) ?_
        refine g_iconst C X8 (pc' := 118) at_117 (v := (0 : Int32)) (by decide) rfl ?_
        refine g_istore C X8 (pc' := 120) at_118 (x := (0 : Int32)) rfl (l' := #[.val (.int p0), .val (.int p1), .val (.int p2), .val (.int p3), .val (.int p4), .val (.int (1 : Int32)), .val (.double d6), .second, .val (.double d7), .second, .val (.double d8), .second, .val (.double d9), .second, .val (.ref a6), .val (.ref a6), .val (.int (0 : Int32))]) rfl rfl ?_
        refine g_aload C X8 (pc' := 122) at_120 rfl rfl rfl ?_
        refine g_ifnullN C X8 at_122 rfl ?_
        refine g_aload C X8 (pc' := 127) at_125 rfl rfl rfl ?_
        refine g_len C X8 (pc' := 128) e8 A6 at_127 rfl ?_
        refine g_iload C X8 (pc' := 130) at_128 rfl rfl ?_
        refine g_icmpY C X8 at_130 (pc' := 135) (by decide) (by decide) (by decide) ?_
        refine g_iload C X8 (pc' := 137) at_135 rfl rfl ?_
        refine g_aload C X8 (pc' := 139) at_137 rfl rfl rfl ?_
        refine g_aload C X8 (pc' := 141) at_139 rfl rfl rfl ?_
        refine g_acmpN C X8 at_141 rfl rfl (ac_same _).2 rfl ?_
        refine g_iconst C X8 (pc' := 145) at_144 (v := (1 : Int32)) (by decide) rfl ?_
        refine g_goto C X8 at_145 (pc' := 149) (by decide) (by decide) ?_
        refine g_icmpY C X8 at_149 (pc' := 154) (by decide) (by decide) (by decide) ?_
        refine g_aload C X8 (pc' := 156) at_154 rfl rfl rfl ?_
        refine g_aload C X8 (pc' := 158) at_156 rfl rfl rfl ?_
        refine g_iconst C X8 (pc' := 159) at_158 (v := (0 : Int32)) (by decide) rfl ?_
        refine g_iload C X8 (pc' := 161) at_159 rfl rfl ?_
        refine g_dload C X8 (pc' := 163) at_161 rfl rfl ?_
        refine g_dload C X8 (pc' := 165) at_163 rfl rfl ?_
        refine g_callS C X8 (c_sl1_0 l Z h8 a6 a6 k8 k6 d6 d9 y8_0 d6 _ _ _ Dy8_0 D_d6 D_d6 D_d9 cy8_0 V8 A6) (hw _ (List.mem_of_getElem? (i := 5) rfl)) (hw _ (List.mem_of_getElem? (i := 6) rfl)) (hw _ (List.mem_of_getElem? (i := 7) rfl)) (hw _ (List.mem_of_getElem? (i := 8) rfl)) (by decide) e8 at_165 rfl pdS [(.ref a6), (.ref a6), (.int (0 : Int32)), (.int (1 : Int32)), (.double d6), (.double d9)] [] rfl rfl rfl 0 rfl (by decide) (by decide) (by decide) (by decide) rfl ?_
        rintro _ T9 _ X9 ⟨rfl, rfl, e9⟩
        rw [List.append_nil] at X9
        show Go p.tables e below _ T9 (mkF m 168 #[.val (.int p0), .val (.int p1), .val (.int p2), .val (.int p3), .val (.int p4), .val (.int (1 : Int32)), .val (.double d6), .second, .val (.double d7), .second, .val (.double d8), .second, .val (.double d9), .second, .val (.ref a6), .val (.ref a6), .val (.int (0 : Int32))] [(.int (1 : Int32))])
        refine g_ifN C X9 at_168 (by decide) rfl ?_
        refine g_aload C X9 (pc' := 173) at_171 rfl rfl rfl ?_
        refine g_aload C X9 (pc' := 175) at_173 rfl rfl rfl ?_
        refine g_iconst C X9 (pc' := 176) at_175 (v := (1 : Int32)) (by decide) rfl ?_
        refine g_iload C X9 (pc' := 178) at_176 rfl rfl ?_
        refine g_dload C X9 (pc' := 180) at_178 rfl rfl ?_
        refine g_dload C X9 (pc' := 182) at_180 rfl rfl ?_
        refine g_callS C X9 (c_sl1_1 l Z h8 a6 a6 k8 k6 d7 d9 y8_0 d6 V8 A6) (hw _ (List.mem_of_getElem? (i := 5) rfl)) (hw _ (List.mem_of_getElem? (i := 6) rfl)) (hw _ (List.mem_of_getElem? (i := 7) rfl)) (hw _ (List.mem_of_getElem? (i := 8) rfl)) (by decide) e9 at_182 rfl pdS [(.ref a6), (.ref a6), (.int (1 : Int32)), (.int (1 : Int32)), (.double d7), (.double d9)] [] rfl rfl rfl 0 rfl (by decide) (by decide) (by decide) (by decide) rfl ?_
        rintro _ T10 _ X10 ⟨rfl, rfl, e10⟩
        rw [List.append_nil] at X10
        show Go p.tables e below _ T10 (mkF m 185 #[.val (.int p0), .val (.int p1), .val (.int p2), .val (.int p3), .val (.int p4), .val (.int (1 : Int32)), .val (.double d6), .second, .val (.double d7), .second, .val (.double d8), .second, .val (.double d9), .second, .val (.ref a6), .val (.ref a6), .val (.int (0 : Int32))] [(.int (1 : Int32))])
        refine g_ifN C X10 at_185 (by decide) rfl ?_
        refine g_aload C X10 (pc' := 190) at_188 rfl rfl rfl ?_
        refine g_aload C X10 (pc' := 192) at_190 rfl rfl rfl ?_
        refine g_iconst C X10 (pc' := 193) at_192 (v := (2 : Int32)) (by decide) rfl ?_
        refine g_iload C X10 (pc' := 195) at_193 rfl rfl ?_
        refine g_dload C X10 (pc' := 197) at_195 rfl rfl ?_
        refine g_dload C X10 (pc' := 199) at_197 rfl rfl ?_
        refine g_callS C X10 (c_sl1_2 l Z h8 a6 a6 k8 k6 d8 d9 y8_0 d6 V8 A6) (hw _ (List.mem_of_getElem? (i := 5) rfl)) (hw _ (List.mem_of_getElem? (i := 6) rfl)) (hw _ (List.mem_of_getElem? (i := 7) rfl)) (hw _ (List.mem_of_getElem? (i := 8) rfl)) (by decide) e10 at_199 rfl pdS [(.ref a6), (.ref a6), (.int (2 : Int32)), (.int (1 : Int32)), (.double d8), (.double d9)] [] rfl rfl rfl 0 rfl (by decide) (by decide) (by decide) (by decide) rfl ?_
        rintro _ T11 _ X11 ⟨rfl, rfl, e11⟩
        rw [List.append_nil] at X11
        show Go p.tables e below _ T11 (mkF m 202 #[.val (.int p0), .val (.int p1), .val (.int p2), .val (.int p3), .val (.int p4), .val (.int (1 : Int32)), .val (.double d6), .second, .val (.double d7), .second, .val (.double d8), .second, .val (.double d9), .second, .val (.ref a6), .val (.ref a6), .val (.int (0 : Int32))] [(.int (1 : Int32))])
        refine g_ifN C X11 at_202 (by decide) rfl ?_
        refine g_iconst C X11 (pc' := 206) at_205 (v := (1 : Int32)) (by decide) rfl ?_
        refine g_goto C X11 at_206 (pc' := 210) (by decide) (by decide) ?_
        exact g_zreturn C X11 at_210 (w := 1) (by decide) ⟨rfl, N8⟩ (by decide) (by decide)
    · show Go p.tables e below _ T8 (mkF m 70 #[.val (.int p0), .val (.int p1), .val (.int p2), .val (.int p3), .val (.int p4), .val (.int (1 : Int32)), .val (.double d6), .second, .val (.double d7), .second, .val (.double d8), .second, .val (.double d9), .second, .val (.ref a6), .unset, .unset] [(.ref a8)])
      refine g_astore C X8 (pc' := 72) at_70 rfl (l' := #[.val (.int p0), .val (.int p1), .val (.int p2), .val (.int p3), .val (.int p4), .val (.int (1 : Int32)), .val (.double d6), .second, .val (.double d7), .second, .val (.double d8), .second, .val (.double d9), .second, .val (.ref a6), .val (.ref a8), .unset]) rfl rfl ?_
      refine g_iload C X8 (pc' := 74) at_72 rfl rfl ?_
      refine g_ifN C X8 at_74 (by decide) rfl ?_
      refine g_dload C X8 (pc' := 79) at_77 rfl rfl ?_
      refine g_dload C X8 (pc' := 81) at_79 rfl rfl ?_
      refine g_dcmpV C X8 (pc' := 82) at_81 (dcmp_cmpI D_d6 D_d9 _) rfl ?_
      refine g_if C X8 at_82 (pc' := 113) (pc'' := 85) (by decide) (by decide) rfl (fun c82 => ?_) (fun c82 => ?_)
      · have c82 : 0 < (cmpI p1.toInt p4.toInt).toInt := c82
        have c82 : p4.toInt < p1.toInt := (cmpI_gt _ _).mp c82
        refine g_iconst C X8 (pc' := 114) at_113 (v := (1 : Int32)) (by decide) rfl ?_
        refine g_goto C X8 at_114 (pc' := 118) (by decide) (by decide) ?_
        refine g_istore C X8 (pc' := 120) at_118 (x := (1 : Int32)) rfl (l' := #[.val (.int p0), .val (.int p1), .val (.int p2), .val (.int p3), .val (.int p4), .val (.int (1 : Int32)), .val (.double d6), .second, .val (.double d7), .second, .val (.double d8), .second, .val (.double d9), .second, .val (.ref a6), .val (.ref a8), .val (.int (1 : Int32))]) rfl rfl ?_
        refine g_aload C X8 (pc' := 122) at_120 rfl rfl rfl ?_
        refine g_ifnullN C X8 at_122 rfl ?_
        refine g_aload C X8 (pc' := 127) at_125 rfl rfl rfl ?_
        refine g_len C X8 (pc' := 128) e8 V8 at_127 rfl ?_
        refine g_iload C X8 (pc' := 130) at_128 rfl rfl ?_
        refine g_icmpY C X8 at_130 (pc' := 135) (by decide) (by decide) (by decide) ?_
        refine g_iload C X8 (pc' := 137) at_135 rfl rfl ?_
        refine g_aload C X8 (pc' := 139) at_137 rfl rfl rfl ?_
        refine g_aload C X8 (pc' := 141) at_139 rfl rfl rfl ?_
        refine g_acmpY C X8 at_141 rfl rfl (ac_diff (ref_ne ab)).2 (pc' := 148) (by decide) (by decide) ?_
        refine g_iconst C X8 (pc' := 149) at_148 (v := (0 : Int32)) (by decide) rfl ?_
        refine g_icmpY C X8 at_149 (pc' := 154) (by decide) (by decide) (by decide) ?_
        refine g_aload C X8 (pc' := 156) at_154 rfl rfl rfl ?_
        refine g_aload C X8 (pc' := 158) at_156 rfl rfl rfl ?_
        refine g_iconst C X8 (pc' := 159) at_158 (v := (0 : Int32)) (by decide) rfl ?_
        refine g_iload C X8 (pc' := 161) at_159 rfl rfl ?_
        refine g_dload C X8 (pc' := 163) at_161 rfl rfl ?_
        refine g_dload C X8 (pc' := 165) at_163 rfl rfl ?_
        refine g_callS C X8 (c_sl1_0 l Z h8 a8 a6 k8 k6 d6 d9 y8_0 d6 _ _ _ Dy8_0 D_d6 D_d6 D_d9 cy8_0 V8 A6) (hw _ (List.mem_of_getElem? (i := 5) rfl)) (hw _ (List.mem_of_getElem? (i := 6) rfl)) (hw _ (List.mem_of_getElem? (i := 7) rfl)) (hw _ (List.mem_of_getElem? (i := 8) rfl)) (by decide) e8 at_165 rfl pdS [(.ref a8), (.ref a6), (.int (0 : Int32)), (.int (1 : Int32)), (.double d6), (.double d9)] [] rfl rfl rfl 0 rfl (by decide) (by decide) (by decide) (by decide) rfl ?_
        rintro _ T12 _ X12 ⟨rfl, rfl, e12⟩
        rw [List.append_nil] at X12
        show Go p.tables e below _ T12 (mkF m 168 #[.val (.int p0), .val (.int p1), .val (.int p2), .val (.int p3), .val (.int p4), .val (.int (1 : Int32)), .val (.double d6), .second, .val (.double d7), .second, .val (.double d8), .second, .val (.double d9), .second, .val (.ref a6), .val (.ref a8), .val (.int (1 : Int32))] [(.int (1 : Int32))])
        refine g_ifN C X12 at_168 (by decide) rfl ?_
        refine g_aload C X12 (pc' := 173) at_171 rfl rfl rfl ?_
        refine g_aload C X12 (pc' := 175) at_173 rfl rfl rfl ?_
        refine g_iconst C X12 (pc' := 176) at_175 (v := (1 : Int32)) (by decide) rfl ?_
        refine g_iload C X12 (pc' := 178) at_176 rfl rfl ?_
        refine g_dload C X12 (pc' := 180) at_178 rfl rfl ?_
        refine g_dload C X12 (pc' := 182) at_180 rfl rfl ?_
        refine g_callS C X12 (c_sl1_1 l Z h8 a8 a6 k8 k6 d7 d9 y8_0 d6 V8 A6) (hw _ (List.mem_of_getElem? (i := 5) rfl)) (hw _ (List.mem_of_getElem? (i := 6) rfl)) (hw _ (List.mem_of_getElem? (i := 7) rfl)) (hw _ (List.mem_of_getElem? (i := 8) rfl)) (by decide) e12 at_182 rfl pdS [(.ref a8), (.ref a6), (.int (1 : Int32)), (.int (1 : Int32)), (.double d7), (.double d9)] [] rfl rfl rfl 0 rfl (by decide) (by decide) (by decide) (by decide) rfl ?_
        rintro _ T13 _ X13 ⟨rfl, rfl, e13⟩
        rw [List.append_nil] at X13
        show Go p.tables e below _ T13 (mkF m 185 #[.val (.int p0), .val (.int p1), .val (.int p2), .val (.int p3), .val (.int p4), .val (.int (1 : Int32)), .val (.double d6), .second, .val (.double d7), .second, .val (.double d8), .second, .val (.double d9), .second, .val (.ref a6), .val (.ref a8), .val (.int (1 : Int32))] [(.int (1 : Int32))])
        refine g_ifN C X13 at_185 (by decide) rfl ?_
        refine g_aload C X13 (pc' := 190) at_188 rfl rfl rfl ?_
        refine g_aload C X13 (pc' := 192) at_190 rfl rfl rfl ?_
        refine g_iconst C X13 (pc' := 193) at_192 (v := (2 : Int32)) (by decide) rfl ?_
        refine g_iload C X13 (pc' := 195) at_193 rfl rfl ?_
        refine g_dload C X13 (pc' := 197) at_195 rfl rfl ?_
        refine g_dload C X13 (pc' := 199) at_197 rfl rfl ?_
        refine g_callS C X13 (c_sl1_2 l Z h8 a8 a6 k8 k6 d8 d9 y8_0 d6 V8 A6) (hw _ (List.mem_of_getElem? (i := 5) rfl)) (hw _ (List.mem_of_getElem? (i := 6) rfl)) (hw _ (List.mem_of_getElem? (i := 7) rfl)) (hw _ (List.mem_of_getElem? (i := 8) rfl)) (by decide) e13 at_199 rfl pdS [(.ref a8), (.ref a6), (.int (2 : Int32)), (.int (1 : Int32)), (.double d8), (.double d9)] [] rfl rfl rfl 0 rfl (by decide) (by decide) (by decide) (by decide) rfl ?_
        rintro _ T14 _ X14 ⟨rfl, rfl, e14⟩
        rw [List.append_nil] at X14
        show Go p.tables e below _ T14 (mkF m 202 #[.val (.int p0), .val (.int p1), .val (.int p2), .val (.int p3), .val (.int p4), .val (.int (1 : Int32)), .val (.double d6), .second, .val (.double d7), .second, .val (.double d8), .second, .val (.double d9), .second, .val (.ref a6), .val (.ref a8), .val (.int (1 : Int32))] [(.int (1 : Int32))])
        refine g_ifN C X14 at_202 (by decide) rfl ?_
        refine g_iconst C X14 (pc' := 206) at_205 (v := (1 : Int32)) (by decide) rfl ?_
        refine g_goto C X14 at_206 (pc' := 210) (by decide) (by decide) ?_
        exact g_zreturn C X14 at_210 (w := 1) (by decide) ⟨rfl, N8⟩ (by decide) (by decide)
      · have c82 : ¬ (0 < (cmpI p1.toInt p4.toInt).toInt) := c82
        have c82 : ¬ (p4.toInt < p1.toInt) := fun q => c82 ((cmpI_gt _ _).mpr q)
        refine g_iload C X8 (pc' := 87) at_85 rfl rfl ?_
        refine g_iconst C X8 (pc' := 88) at_87 (v := (1 : Int32)) (by decide) rfl ?_
        refine g_icmpY C X8 at_88 (pc' := 99) (by decide) (by decide) (by decide) ?_
        refine g_iload C X8 (pc' := 101) at_99 rfl rfl ?_
        refine g_iconst C X8 (pc' := 102) at_101 (v := (2 : Int32)) (by decide) rfl ?_
        refine g_icmpY C X8 at_102 (pc' := 117) (by decide) (by decide) (by decide) ?_
        refine g_iconst C X8 (pc' := 118) at_117 (v := (0 : Int32)) (by decide) rfl ?_
        refine g_istore C X8 (pc' := 120) at_118 (x := (0 : Int32)) rfl (l' := #[.val (.int p0), .val (.int p1), .val (.int p2), .val (.int p3), .val (.int p4), .val (.int (1 : Int32)), .val (.double d6), .second, .val (.double d7), .second, .val (.double d8), .second, .val (.double d9), .second, .val (.ref a6), .val (.ref a8), .val (.int (0 : Int32))]) rfl rfl ?_
        refine g_aload C X8 (pc' := 122) at_120 rfl rfl rfl ?_
        refine g_ifnullN C X8 at_122 rfl ?_
        refine g_aload C X8 (pc' := 127) at_125 rfl rfl rfl ?_
        refine g_len C X8 (pc' := 128) e8 V8 at_127 rfl ?_
        refine g_iload C X8 (pc' := 130) at_128 rfl rfl ?_
        refine g_icmpY C X8 at_130 (pc' := 135) (by decide) (by decide) (by decide) ?_
        refine g_iload C X8 (pc' := 137) at_135 rfl rfl ?_
        refine g_aload C X8 (pc' := 139) at_137 rfl rfl rfl ?_
        refine g_aload C X8 (pc' := 141) at_139 rfl rfl rfl ?_
        refine g_acmpY C X8 at_141 rfl rfl (ac_diff (ref_ne ab)).2 (pc' := 148) (by decide) (by decide) ?_
        refine g_iconst C X8 (pc' := 149) at_148 (v := (0 : Int32)) (by decide) rfl ?_
        refine g_icmpN C X8 at_149 (by decide) rfl ?_
        refine g_iconst C X8 (pc' := 153) at_152 (v := (0 : Int32)) (by decide) rfl ?_
        exfalso; omega
  · show Go p.tables e below _ T0 (mkF m 5 #[.val (.int p0), .val (.int p1), .val (.int p2), .val (.int p3), .val (.int p4), .val (.int (2 : Int32)), .unset, .unset, .unset, .unset, .unset, .unset, .unset, .unset, .unset, .unset, .unset] [])
    refine g_iloadN C X0 (pc' := 6) at_5 rfl rfl ?_
    refine g_i2d C X0 (pc' := 7) at_6 rfl ?_
    obtain ⟨d10, e_d10⟩ : ∃ z : UInt64, z = FP.i2d p1 := ⟨_, rfl⟩
    have D_d10 : FP.Core.DInt p1.toInt d10 := e_d10 ▸ (i2d_D p1)
    refine g_dstore C X0 (pc' := 9) at_7 (x := d10) e_d10 (l' := #[.val (.int p0), .val (.int p1), .val (.int p2), .val (.int p3), .val (.int p4), .val (.int (2 : Int32)), .val (.double d10), .second, .unset, .unset, .unset, .unset, .unset, .unset, .unset, .unset, .unset]) rfl rfl ?_
    refine g_iloadN C X0 (pc' := 10) at_9 rfl rfl ?_
    refine g_i2d C X0 (pc' := 11) at_10 rfl ?_
    obtain ⟨d11, e_d11⟩ : ∃ z : UInt64, z = FP.i2d p2 := ⟨_, rfl⟩
    have D_d11 : FP.Core.DInt p2.toInt d11 := e_d11 ▸ (i2d_D p2)
    refine g_dstore C X0 (pc' := 13) at_11 (x := d11) e_d11 (l' := #[.val (.int p0), .val (.int p1), .val (.int p2), .val (.int p3), .val (.int p4), .val (.int (2 : Int32)), .val (.double d10), .second, .val (.double d11), .second, .unset, .unset, .unset, .unset, .unset, .unset, .unset]) rfl rfl ?_
    refine g_iloadN C X0 (pc' := 14) at_13 rfl rfl ?_
    refine g_i2d C X0 (pc' := 15) at_14 rfl ?_
    obtain ⟨d12, e_d12⟩ : ∃ z : UInt64, z = FP.i2d p3 := ⟨_, rfl⟩
    have D_d12 : FP.Core.DInt p3.toInt d12 := e_d12 ▸ (i2d_D p3)
    refine g_dstore C X0 (pc' := 17) at_15 (x := d12) e_d12 (l' := #[.val (.int p0), .val (.int p1), .val (.int p2), .val (.int p3), .val (.int p4), .val (.int (2 : Int32)), .val (.double d10), .second, .val (.double d11), .second, .val (.double d12), .second, .unset, .unset, .unset, .unset, .unset]) rfl rfl ?_
    refine g_iload C X0 (pc' := 19) at_17 rfl rfl ?_
    refine g_i2d C X0 (pc' := 20) at_19 rfl ?_
    obtain ⟨d13, e_d13⟩ : ∃ z : UInt64, z = FP.i2d p4 := ⟨_, rfl⟩
    have D_d13 : FP.Core.DInt p4.toInt d13 := e_d13 ▸ (i2d_D p4)
    refine g_dstore C X0 (pc' := 22) at_20 (x := d13) e_d13 (l' := #[.val (.int p0), .val (.int p1), .val (.int p2), .val (.int p3), .val (.int p4), .val (.int (2 : Int32)), .val (.double d10), .second, .val (.double d11), .second, .val (.double d12), .second, .val (.double d13), .second, .unset, .unset, .unset]) rfl rfl ?_
    refine g_iload C X0 (pc' := 24) at_22 rfl rfl ?_
    refine g_newPE C X0 (aty := .double) (ad := "[D") (by decide) (hw _ (List.mem_of_getElem? (i := 0) rfl)) e0 at_24 (by decide) 2 (by decide) (by decide) (by decide) (by decide) rfl ?_
    intro T15 h15 a15 k15 g15 X15 e15 E15 A15 B15
    have z_a15 : n0 ≤ a15 := by rw [g15]; exact Z0
    have Z15 : n0 ≤ h15.size := Nat.le_trans Z0 E15.1
    have A15 : Arv Z h15 a15 k15 .double (2 : Int32) [] (.double (0 : UInt64)) := A15
    refine g_astore C X15 (pc' := 28) at_26 rfl (l' := #[.val (.int p0), .val (.int p1), .val (.int p2), .val (.int p3), .val (.int p4), .val (.int (2 : Int32)), .val (.double d10), .second, .val (.double d11), .second, .val (.double d12), .second, .val (.double d13), .second, .val (.ref a15), .unset, .unset]) rfl rfl ?_
    refine g_iload C X15 (pc' := 30) at_28 rfl rfl ?_
    refine g_ifN C X15 at_30 (by decide) rfl ?_
    refine g_aload C X15 (pc' := 35) at_33 rfl rfl rfl ?_
    refine g_iconst C X15 (pc' := 36) at_35 (v := (0 : Int32)) (by decide) rfl ?_
    refine g_dload C X15 (pc' := 38) at_36 rfl rfl ?_
    refine g_dastore C X15 (pc' := 39) e15 A15 (by decide) (by decide) 0 1 (by decide) (of_decide_eq_true rfl) at_38 rfl ?_
    intro T16 h16 X16 e16 W16 Aq
    have B15 := B15.wr W16
    have Z16 : n0 ≤ h16.size := by rw [W16.size]; exact Z15
    have N16 := Fr.snoc X16 (Fr.nil n0) z_a15
    have A15 : Arv Z h16 a15 k15 .double (2 : Int32) [(.double d10)] (.double (0 : UInt64)) := Aq
    refine g_iload C X16 (pc' := 41) at_39 rfl rfl ?_
    refine g_iconst C X16 (pc' := 42) at_41 (v := (1 : Int32)) (by decide) rfl ?_
    refine g_icmpN C X16 at_42 (by decide) rfl ?_
    refine g_aload C X16 (pc' := 47) at_45 rfl rfl rfl ?_
    refine g_iconst C X16 (pc' := 48) at_47 (v := (1 : Int32)) (by decide) rfl ?_
    refine g_dload C X16 (pc' := 50) at_48 rfl rfl ?_
    refine g_dastore C X16 (pc' := 51) e16 A15 (by decide) (by decide) 1 1 (by decide) (of_decide_eq_true rfl) at_50 rfl ?_
    intro T17 h17 X17 e17 W17 Aq
    have B15 := B15.wr W17
    have Z17 : n0 ≤ h17.size := by rw [W17.size]; exact Z16
    have N17 := Fr.snoc X17 N16 z_a15
    have A15 : Arv Z h17 a15 k15 .double (2 : Int32) [(.double d10), (.double d11)] (.double (0 : UInt64)) := Aq
    refine g_iload C X17 (pc' := 53) at_51 rfl rfl ?_
    refine g_iconst C X17 (pc' := 54) at_53 (v := (2 : Int32)) (by decide) rfl ?_
    refine g_icmpY C X17 at_54 (pc' := 63) (by decide) (by decide) (by decide) ?_
    refine g_aload C X17 (pc' := 65) at_63 rfl rfl rfl ?_
    refine g_dload C X17 (pc' := 67) at_65 rfl rfl ?_
    refine g_callS C X17 (c_am2 l Z a0 hw h17 n0 Z17 a15 k15 d13 d10 d11 _ _ _ D_d13 D_d10 D_d11 A15 B15) (hw _ (List.mem_of_getElem? (i := 1) rfl)) (hw _ (List.mem_of_getElem? (i := 2) rfl)) (hw _ (List.mem_of_getElem? (i := 3) rfl)) (hw _ (List.mem_of_getElem? (i := 4) rfl)) (by decide) e17 at_67 rfl pdA [(.ref a15), (.double d13)] [] rfl rfl rfl 0 rfl (by decide) (by decide) (by decide) (by decide) rfl ?_
    rintro _ T18 L18 X18 ⟨a18, k18, rfl, M18, K18, ab18, y18_0, t18_0, y18_1, t18_1, Dy18_0, cy18_0, Dy18_1, cy18_1, V18⟩
    have A15 := A15.keep K18 nin0
    have B15 := B15.keep K18
    have Z18 : n0 ≤ T18.heap.size := Nat.le_trans Z17 K18.1
    have N18 := Fr.app N17 M18
    obtain ⟨h18, e18⟩ : ∃ z, T18.heap = z := ⟨_, rfl⟩
    rw [e18] at A15 B15 Z18 V18
    rcases ab18 with ⟨ab, nb⟩ | ⟨ab, nb⟩
    · have ab := ab.symm
      subst ab
      show Go p.tables e below _ T18 (mkF m 70 #[.val (.int p0), .val (.int p1), .val (.int p2), .val (.int p3), .val (.int p4), .val (.int (2 : Int32)), .val (.double d10), .second, .val (.double d11), .second, .val (.double d12), .second, .val (.double d13), .second, .val (.ref a15), .unset, .unset] [(.ref a15)])
      refine g_astore C X18 (pc' := 72) at_70 rfl (l' := #[.val (.int p0), .val (.int p1), .val (.int p2), .val (.int p3), .val (.int p4), .val (.int (2 : Int32)), .val (.double d10), .second, .val (.double d11), .second, .val (.double d12), .second, .val (.double d13), .second, .val (.ref a15), .val (.ref a15), .unset]) rfl rfl ?_
      refine g_iload C X18 (pc' := 74) at_72 rfl rfl ?_
      refine g_ifN C X18 at_74 (by decide) rfl ?_
      refine g_dload C X18 (pc' := 79) at_77 rfl rfl ?_
      refine g_dload C X18 (pc' := 81) at_79 rfl rfl ?_
      refine g_dcmpV C X18 (pc' := 82) at_81 (dcmp_cmpI D_d10 D_d13 _) rfl ?_
      refine g_if C X18 at_82 (pc' := 113) (pc'' := 85) (by decide) (by decide) rfl (fun c82 => ?_) (fun c82 => ?_)
      · have c82 : 0 < (cmpI p1.toInt p4.toInt).toInt := c82
        have c82 : p4.toInt < p1.toInt := (cmpI_gt _ _).mp c82
        refine g_iconst C X18 (pc' := 114) at_113 (v := (1 : Int32)) (by decide) rfl ?_
        refine g_goto C X18 at_114 (pc' := 118) (by decide) (by decide) ?_
        refine g_istore C X18 (pc' := 120) at_118 (x := (1 : Int32)) rfl (l' := #[.val (.int p0), .val (.int p1), .val (.int p2), .val (.int p3), .val (.int p4), .val (.int (2 : Int32)), .val (.double d10), .second, .val (.double d11), .second, .val (.double d12), .second, .val (.double d13), .second, .val (.ref a15), .val (.ref a15), .val (.int (1 : Int32))]) rfl rfl ?_
        refine g_aload C X18 (pc' := 122) at_120 rfl rfl rfl ?_
        refine g_ifnullN C X18 at_122 rfl ?_
        refine g_aload C X18 (pc' := 127) at_125 rfl rfl rfl ?_
        refine g_len C X18 (pc' := 128) e18 A15 at_127 rfl ?_
        refine g_iload C X18 (pc' := 130) at_128 rfl rfl ?_
        refine g_icmpY C X18 at_130 (pc' := 135) (by decide) (by decide) (by decide) ?_
        refine g_iload C X18 (pc' := 137) at_135 rfl rfl ?_
        refine g_aload C X18 (pc' := 139) at_137 rfl rfl rfl ?_
        refine g_aload C X18 (pc' := 141) at_139 rfl rfl rfl ?_
        refine g_acmpN C X18 at_141 rfl rfl (ac_same _).2 rfl ?_
        refine g_iconst C X18 (pc' := 145) at_144 (v := (1 : Int32)) (by decide) rfl ?_
        refine g_goto C X18 at_145 (pc' := 149) (by decide) (by decide) ?_
        refine g_icmpN C X18 at_149 (by decide) rfl ?_
        refine g_iconst C X18 (pc' := 153) at_152 (v := (0 : Int32)) (by decide) rfl ?_
        exfalso; omega
      · have c82 : ¬ (0 < (cmpI p1.toInt p4.toInt).toInt) := c82
        have c82 : ¬ (p4.toInt < p1.toInt) := fun q => c82 ((cmpI_gt _ _).mpr q)
        refine g_iload C X18 (pc' := 87) at_85 rfl rfl ?_
        refine g_iconst C X18 (pc' := 88) at_87 (v := (1 : Int32)) (by decide) rfl ?_
        refine g_icmpN C X18 at_88 (by decide) rfl ?_
        refine g_dload C X18 (pc' := 93) at_91 rfl rfl ?_
        refine g_dload C X18 (pc' := 95) at_93 rfl rfl ?_
        refine g_dcmpV C X18 (pc' := 96) at_95 (dcmp_cmpI D_d11 D_d13 _) rfl ?_
        refine g_if C X18 at_96 (pc' := 113) (pc'' := 99) (by decide) (by decide) rfl (fun c96 => ?_) (fun c96 => ?_)
        · have c96 : 0 < (cmpI p2.toInt p4.toInt).toInt := c96
          have c96 : p4.toInt < p2.toInt := (cmpI_gt _ _).mp c96
          refine g_iconst C X18 (pc' := 114) at_113 (v := (1 : Int32)) (by decide) rfl ?_
          refine g_goto C X18 at_114 (pc' := 118) (by decide) (by decide) ?_
          refine g_istore C X18 (pc' := 120) at_118 (x := (1 : Int32)) rfl (l' := #[.val (.int p0), .val (.int p1), .val (.int p2), .val (.int p3), .val (.int p4), .val (.int (2 : Int32)), .val (.double d10), .second, .val (.double d11), .second, .val (.double d12), .second, .val (.double d13), .second, .val (.ref a15), .val (.ref a15), .val (.int (1 : Int32))]) rfl rfl ?_
          refine g_aload C X18 (pc' := 122) at_120 rfl rfl rfl ?_
          refine g_ifnullN C X18 at_122 rfl ?_
          refine g_aload C X18 (pc' := 127) at_125 rfl rfl rfl ?_
          refine g_len C X18 (pc' := 128) e18 A15 at_127 rfl ?_
          refine g_iload C X18 (pc' := 130) at_128 rfl rfl ?_
          refine g_icmpY C X18 at_130 (pc' := 135) (by decide) (by decide) (by decide) ?_
          refine g_iload C X18 (pc' := 137) at_135 rfl rfl ?_
          refine g_aload C X18 (pc' := 139) at_137 rfl rfl rfl ?_
          refine g_aload C X18 (pc' := 141) at_139 rfl rfl rfl ?_
          refine g_acmpN C X18 at_141 rfl rfl (ac_same _).2 rfl ?_
          refine g_iconst C X18 (pc' := 145) at_144 (v := (1 : Int32)) (by decide) rfl ?_
          refine g_goto C X18 at_145 (pc' := 149) (by decide) (by decide) ?_
          refine g_icmpN C X18 at_149 (by decide) rfl ?_
          refine g_iconst C X18 (pc' := 153) at_152 (v := (0 : Int32)) (by decide) rfl ?_
          exfalso; omega
        · have c96 : ¬ (0 < (cmpI p2.toInt p4.toInt).toInt) := c96
          have c96 : ¬ (p4.toInt < p2.toInt) := fun q => c96 ((cmpI_gt _ _).mpr q)
          refine g_iload C X18 (pc' := 101) at_99 rfl rfl ?_
          refine g_iconst C X18 (pc' := 102) at_101 (v := (2 : Int32)) (by decide) rfl ?_
          refine g_icmpY C X18 at_102 (pc' := 117) (by decide) (by decide) (by decide) ?_
          refine g_iconst C X18 (pc' := 118) at_117 (v := (0 : Int32)) (by decide) rfl ?_
          refine g_istore C X18 (pc' := 120) at_118 (x := (0 : Int32)) rfl (l' := #[.val (.int p0), .val (.int p1), .val (.int p2), .val (.int p3), .val (.int p4), .val (.int (2 : Int32)), .val (.double d10), .second, .val (.double d11), .second, .val (.double d12), .second, .val (.double d13), .second, .val (.ref a15), .val (.ref a15), .val (.int (0 : Int32))]) rfl rfl ?_
          refine g_aload C X18 (pc' := 122) at_120 rfl rfl rfl ?_
          refine g_ifnullN C X18 at_122 rfl ?_
          refine g_aload C X18 (pc' := 127) at_125 rfl rfl rfl ?_
          refine g_len C X18 (pc' := 128) e18 A15 at_127 rfl ?_
          refine g_iload C X18 (pc' := 130) at_128 rfl rfl ?_
          refine g_icmpY C X18 at_130 (pc' := 135) (by decide) (by decide) (by decide) ?_
          refine g_iload C X18 (pc' := 137) at_135 rfl rfl ?_
          refine g_aload C X18 (pc' := 139) at_137 rfl rfl rfl ?_
          refine g_aload C X18 (pc' := 141) at_139 rfl rfl rfl ?_
          refine g_acmpN C X18 at_141 rfl rfl (ac_same _).2 rfl ?_
          refine g_iconst C X18 (pc' := 145) at_144 (v := (1 : Int32)) (by decide) rfl ?_
          refine g_goto C X18 at_145 (pc' := 149) (by decide) (by decide) ?_
          refine g_icmpY C X18 at_149 (pc' := 154) (by decide) (by decide) (by decide) ?_
          refine g_aload C X18 (pc' := 156) at_154 rfl rfl rfl ?_
          refine g_aload C X18 (pc' := 158) at_156 rfl rfl rfl ?_
          refine g_iconst C X18 (pc' := 159) at_158 (v := (0 : Int32)) (by decide) rfl ?_
          refine g_iload C X18 (pc' := 161) at_159 rfl rfl ?_
          refine g_dload C X18 (pc' := 163) at_161 rfl rfl ?_
          refine g_dload C X18 (pc' := 165) at_163 rfl rfl ?_
          refine g_callS C X18 (c_sl2_0 l Z h18 a15 a15 k18 k15 d10 d13 y18_0 d10 y18_1 d11 _ _ _ Dy18_0 D_d10 D_d10 D_d13 cy18_0 V18 A15) (hw _ (List.mem_of_getElem? (i := 5) rfl)) (hw _ (List.mem_of_getElem? (i := 6) rfl)) (hw _ (List.mem_of_getElem? (i := 7) rfl)) (hw _ (List.mem_of_getElem? (i := 8) rfl)) (by decide) e18 at_165 rfl pdS [(.ref a15), (.ref a15), (.int (0 : Int32)), (.int (2 : Int32)), (.double d10), (.double d13)] [] rfl rfl rfl 0 rfl (by decide) (by decide) (by decide) (by decide) rfl ?_
          rintro _ T19 _ X19 ⟨rfl, rfl, e19⟩
          rw [List.append_nil] at X19
          show Go p.tables e below _ T19 (mkF m 168 #[.val (.int p0), .val (.int p1), .val (.int p2), .val (.int p3), .val (.int p4), .val (.int (2 : Int32)), .val (.double d10), .second, .val (.double d11), .second, .val (.double d12), .second, .val (.double d13), .second, .val (.ref a15), .val (.ref a15), .val (.int (0 : Int32))] [(.int (1 : Int32))])
          refine g_ifN C X19 at_168 (by decide) rfl ?_
          refine g_aload C X19 (pc' := 173) at_171 rfl rfl rfl ?_
          refine g_aload C X19 (pc' := 175) at_173 rfl rfl rfl ?_
          refine g_iconst C X19 (pc' := 176) at_175 (v := (1 : Int32)) (by decide) rfl ?_
          refine g_iload C X19 (pc' := 178) at_176 rfl rfl ?_
          refine g_dload C X19 (pc' := 180) at_178 rfl rfl ?_
          refine g_dload C X19 (pc' := 182) at_180 rfl rfl ?_
          refine g_callS C X19 (c_sl2_1 l Z h18 a15 a15 k18 k15 d11 d13 y18_0 d10 y18_1 d11 _ _ _ Dy18_1 D_d11 D_d11 D_d13 cy18_1 V18 A15) (hw _ (List.mem_of_getElem? (i := 5) rfl)) (hw _ (List.mem_of_getElem? (i := 6) rfl)) (hw _ (List.mem_of_getElem? (i := 7) rfl)) (hw _ (List.mem_of_getElem? (i := 8) rfl)) (by decide) e19 at_182 rfl pdS [(.ref a15), (.ref a15), (.int (1 : Int32)), (.int (2 : Int32)), (.double d11), (.double d13)] [] rfl rfl rfl 0 rfl (by decide) (by decide) (by decide) (by decide) rfl ?_
          rintro _ T20 _ X20 ⟨rfl, rfl, e20⟩
          rw [List.append_nil] at X20
          show Go p.tables e below _ T20 (mkF m 185 #[.val (.int p0), .val (.int p1), .val (.int p2), .val (.int p3), .val (.int p4), .val (.int (2 : Int32)), .val (.double d10), .second, .val (.double d11), .second, .val (.double d12), .second, .val (.double d13), .second, .val (.ref a15), .val (.ref a15), .val (.int (0 : Int32))] [(.int (1 : Int32))])
          refine g_ifN C X20 at_185 (by decide) rfl ?_
          refine g_aload C X20 (pc' := 190) at_188 rfl rfl rfl ?_
          refine g_aload C X20 (pc' := 192) at_190 rfl rfl rfl ?_
          refine g_iconst C X20 (pc' := 193) at_192 (v := (2 : Int32)) (by decide) rfl ?_
          refine g_iload C X20 (pc' := 195) at_193 rfl rfl ?_
          refine g_dload C X20 (pc' := 197) at_195 rfl rfl ?_
          refine g_dload C X20 (pc' := 199) at_197 rfl rfl ?_
          refine g_callS C X20 (c_sl2_2 l Z h18 a15 a15 k18 k15 d12 d13 y18_0 d10 y18_1 d11 V18 A15) (hw _ (List.mem_of_getElem? (i := 5) rfl)) (hw _ (List.mem_of_getElem? (i := 6) rfl)) (hw _ (List.mem_of_getElem? (i := 7) rfl)) (hw _ (List.mem_of_getElem? (i := 8) rfl)) (by decide) e20 at_199 rfl pdS [(.ref a15), (.ref a15), (.int (2 : Int32)), (.int (2 : Int32)), (.double d12), (.double d13)] [] rfl rfl rfl 0 rfl (by decide) (by decide) (by decide) (by decide) rfl ?_
          rintro _ T21 _ X21 ⟨rfl, rfl, e21⟩
          rw [List.append_nil] at X21
          show Go p.tables e below _ T21 (mkF m 202 #[.val (.int p0), .val (.int p1), .val (.int p2), .val (.int p3), .val (.int p4), .val (.int (2 : Int32)), .val (.double d10), .second, .val (.double d11), .second, .val (.double d12), .second, .val (.double d13), .second, .val (.ref a15), .val (.ref a15), .val (.int (0 : Int32))] [(.int (1 : Int32))])
          refine g_ifN C X21 at_202 (by decide) rfl ?_
          refine g_iconst C X21 (pc' := 206) at_205 (v := (1 : Int32)) (by decide) rfl ?_
          refine g_goto C X21 at_206 (pc' := 210) (by decide) (by decide) ?_
          exact g_zreturn C X21 at_210 (w := 1) (by decide) ⟨rfl, N18⟩ (by decide) (by decide)
    · show Go p.tables e below _ T18 (mkF m 70 #[.val (.int p0), .val (.int p1), .val (.int p2), .val (.int p3), .val (.int p4), .val (.int (2 : Int32)), .val (.double d10), .second, .val (.double d11), .second, .val (.double d12), .second, .val (.double d13), .second, .val (.ref a15), .unset, .unset] [(.ref a18)])
      refine g_astore C X18 (pc' := 72) at_70 rfl (l' := #[.val (.int p0), .val (.int p1), .val (.int p2), .val (.int p3), .val (.int p4), .val (.int (2 : Int32)), .val (.double d10), .second, .val (.double d11), .second, .val (.double d12), .second, .val (.double d13), .second, .val (.ref a15), .val (.ref a18), .unset]) rfl rfl ?_
      refine g_iload C X18 (pc' := 74) at_72 rfl rfl ?_
      refine g_ifN C X18 at_74 (by decide) rfl ?_
      refine g_dload C X18 (pc' := 79) at_77 rfl rfl ?_
      refine g_dload C X18 (pc' := 81) at_79 rfl rfl ?_
      refine g_dcmpV C X18 (pc' := 82) at_81 (dcmp_cmpI D_d10 D_d13 _) rfl ?_
      refine g_if C X18 at_82 (pc' := 113) (pc'' := 85) (by decide) (by decide) rfl (fun c82 => ?_) (fun c82 => ?_)
      · have c82 : 0 < (cmpI p1.toInt p4.toInt).toInt := c82
        have c82 : p4.toInt < p1.toInt := (cmpI_gt _ _).mp c82
        refine g_iconst C X18 (pc' := 114) at_113 (v := (1 : Int32)) (by decide) rfl ?_
        refine g_goto C X18 at_114 (pc' := 118) (by decide) (by decide) ?_
        refine g_istore C X18 (pc' := 120) at_118 (x := (1 : Int32)) rfl (l' := #[.val (.int p0), .val (.int p1), .val (.int p2), .val (.int p3), .val (.int p4), .val (.int (2 : Int32)), .val (.double d10), .second, .val (.double d11), .second, .val (.double d12), .second, .val (.double d13), .second, .val (.ref a15), .val (.ref a18), .val (.int (1 : Int32))]) rfl rfl ?_
        refine g_aload C X18 (pc' := 122) at_120 rfl rfl rfl ?_
        refine g_ifnullN C X18 at_122 rfl ?_
        refine g_aload C X18 (pc' := 127) at_125 rfl rfl rfl ?_
        refine g_len C X18 (pc' := 128) e18 V18 at_127 rfl ?_
        refine g_iload C X18 (pc' := 130) at_128 rfl rfl ?_
        refine g_icmpY C X18 at_130 (pc' := 135) (by decide) (by decide) (by decide) ?_
        refine g_iload C X18 (pc' := 137) at_135 rfl rfl ?_
        refine g_aload C X18 (pc' := 139) at_137 rfl rfl rfl ?_
        refine g_aload C X18 (pc' := 141) at_139 rfl rfl rfl ?_
        refine g_acmpY C X18 at_141 rfl rfl (ac_diff (ref_ne ab)).2 (pc' := 148) (by decide) (by decide) ?_
        refine g_iconst C X18 (pc' := 149) at_148 (v := (0 : Int32)) (by decide) rfl ?_
        refine g_icmpY C X18 at_149 (pc' := 154) (by decide) (by decide) (by decide) ?_
        refine g_aload C X18 (pc' := 156) at_154 rfl rfl rfl ?_
        refine g_aload C X18 (pc' := 158) at_156 rfl rfl rfl ?_
        refine g_iconst C X18 (pc' := 159) at_158 (v := (0 : Int32)) (by decide) rfl ?_
        refine g_iload C X18 (pc' := 161) at_159 rfl rfl ?_
        refine g_dload C X18 (pc' := 163) at_161 rfl rfl ?_
        refine g_dload C X18 (pc' := 165) at_163 rfl rfl ?_
        refine g_callS C X18 (c_sl2_0 l Z h18 a18 a15 k18 k15 d10 d13 y18_0 d10 y18_1 d11 _ _ _ Dy18_0 D_d10 D_d10 D_d13 cy18_0 V18 A15) (hw _ (List.mem_of_getElem? (i := 5) rfl)) (hw _ (List.mem_of_getElem? (i := 6) rfl)) (hw _ (List.mem_of_getElem? (i := 7) rfl)) (hw _ (List.mem_of_getElem? (i := 8) rfl)) (by decide) e18 at_165 rfl pdS [(.ref a18), (.ref a15), (.int (0 : Int32)), (.int (2 : Int32)), (.double d10), (.double d13)] [] rfl rfl rfl 0 rfl (by decide) (by decide) (by decide) (by decide) rfl ?_
        rintro _ T22 _ X22 ⟨rfl, rfl, e22⟩
        rw [List.append_nil] at X22
        show Go p.tables e below _ T22 (mkF m 168 #[.val (.int p0), .val (.int p1), .val (.int p2), .val (.int p3), .val (.int p4), .val (.int (2 : Int32)), .val (.double d10), .second, .val (.double d11), .second, .val (.double d12), .second, .val (.double d13), .second, .val (.ref a15), .val (.ref a18), .val (.int (1 : Int32))] [(.int (1 : Int32))])
        refine g_ifN C X22 at_168 (by decide) rfl ?_
        refine g_aload C X22 (pc' := 173) at_171 rfl rfl rfl ?_
        refine g_aload C X22 (pc' := 175) at_173 rfl rfl rfl ?_
        refine g_iconst C X22 (pc' := 176) at_175 (v := (1 : Int32)) (by decide) rfl ?_
        refine g_iload C X22 (pc' := 178) at_176 rfl rfl ?_
        refine g_dload C X22 (pc' := 180) at_178 rfl rfl ?_
        refine g_dload C X22 (pc' := 182) at_180 rfl rfl ?_
        refine g_callS C X22 (c_sl2_1 l Z h18 a18 a15 k18 k15 d11 d13 y18_0 d10 y18_1 d11 _ _ _ Dy18_1 D_d11 D_d11 D_d13 cy18_1 V18 A15) (hw _ (List.mem_of_getElem? (i := 5) rfl)) (hw _ (List.mem_of_getElem? (i := 6) rfl)) (hw _ (List.mem_of_getElem? (i := 7) rfl)) (hw _ (List.mem_of_getElem? (i := 8) rfl)) (by decide) e22 at_182 rfl pdS [(.ref a18), (.ref a15), (.int (1 : Int32)), (.int (2 : Int32)), (.double d11), (.double d13)] [] rfl rfl rfl 0 rfl (by decide) (by decide) (by decide) (by decide) rfl ?_
        rintro _ T23 _ X23 ⟨rfl, rfl, e23⟩
        rw [List.append_nil] at X23
        show Go p.tables e below _ T23 (mkF m 185 #[.val (.int p0), .val (.int p1), .val (.int p2), .val (.int p3), .val (.int p4), .val (.int (2 : Int32)), .val (.double d10), .second, .val (.double d11), .second, .val (.double d12), .second, .val (.double d13), .second, .val (.ref a15), .val (.ref a18), .val (.int (1 : Int32))] [(.int (1 : Int32))])
        refine g_ifN C X23 at_185 (by decide) rfl ?_
        refine g_aload C X23 (pc' := 190) at_188 rfl rfl rfl ?_
        refine g_aload C X23 (pc' := 192) at_190 rfl rfl rfl ?_
        refine g_iconst C X23 (pc' := 193) at_192 (v := (2 : Int32)) (by decide) rfl ?_
        refine g_iload C X23 (pc' := 195) at_193 rfl rfl ?_
        refine g_dload C X23 (pc' := 197) at_195 rfl rfl ?_
        refine g_dload C X23 (pc' := 199) at_197 rfl rfl ?_
        refine g_callS C X23 (c_sl2_2 l Z h18 a18 a15 k18 k15 d12 d13 y18_0 d10 y18_1 d11 V18 A15) (hw _ (List.mem_of_getElem? (i := 5) rfl)) (hw _ (List.mem_of_getElem? (i := 6) rfl)) (hw _ (List.mem_of_getElem? (i := 7) rfl)) (hw _ (List.mem_of_getElem? (i := 8) rfl)) (by decide) e23 at_199 rfl pdS [(.ref a18), (.ref a15), (.int (2 : Int32)), (.int (2 : Int32)), (.double d12), (.double d13)] [] rfl rfl rfl 0 rfl (by decide) (by decide) (by decide) (by decide) rfl ?_
        rintro _ T24 _ X24 ⟨rfl, rfl, e24⟩
        rw [List.append_nil] at X24
        show Go p.tables e below _ T24 (mkF m 202 #[.val (.int p0), .val (.int p1), .val (.int p2), .val (.int p3), .val (.int p4), .val (.int (2 : Int32)), .val (.double d10), .second, .val (.double d11), .second, .val (.double d12), .second, .val (.double d13), .second, .val (.ref a15), .val (.ref a18), .val (.int (1 : Int32))] [(.int (1 : Int32))])
        refine g_ifN C X24 at_202 (by decide) rfl ?_
        refine g_iconst C X24 (pc' := 206) at_205 (v := (1 : Int32)) (by decide) rfl ?_
        refine g_goto C X24 at_206 (pc' := 210) (by decide) (by decide) ?_
        exact g_zreturn C X24 at_210 (w := 1) (by decide) ⟨rfl, N18⟩ (by decide) (by decide)
      · have c82 : ¬ (0 < (cmpI p1.toInt p4.toInt).toInt) := c82
        have c82 : ¬ (p4.toInt < p1.toInt) := fun q => c82 ((cmpI_gt _ _).mpr q)
        refine g_iload C X18 (pc' := 87) at_85 rfl rfl ?_
        refine g_iconst C X18 (pc' := 88) at_87 (v := (1 : Int32)) (by decide) rfl ?_
        refine g_icmpN C X18 at_88 (by decide) rfl ?_
        refine g_dload C X18 (pc' := 93) at_91 rfl rfl ?_
        refine g_dload C X18 (pc' := 95) at_93 rfl rfl ?_
        refine g_dcmpV C X18 (pc' := 96) at_95 (dcmp_cmpI D_d11 D_d13 _) rfl ?_
        refine g_if C X18 at_96 (pc' := 113) (pc'' := 99) (by decide) (by decide) rfl (fun c96 => ?_) (fun c96 => ?_)
        · have c96 : 0 < (cmpI p2.toInt p4.toInt).toInt := c96
          have c96 : p4.toInt < p2.toInt := (cmpI_gt _ _).mp c96
          refine g_iconst C X18 (pc' := 114) at_113 (v := (1 : Int32)) (by decide) rfl ?_
          refine g_goto C X18 at_114 (pc' := 118) (by decide) (by decide) ?_
          refine g_istore C X18 (pc' := 120) at_118 (x := (1 : Int32)) rfl (l' := #[.val (.int p0), .val (.int p1), .val (.int p2), .val (.int p3), .val (.int p4), .val (.int (2 : Int32)), .val (.double d10), .second, .val (.double d11), .second, .val (.double d12), .second, .val (.double d13), .second, .val (.ref a15), .val (.ref a18), .val (.int (1 : Int32))]) rfl rfl ?_
          refine g_aload C X18 (pc' := 122) at_120 rfl rfl rfl ?_
          refine g_ifnullN C X18 at_122 rfl ?_
          refine g_aload C X18 (pc' := 127) at_125 rfl rfl rfl ?_
          refine g_len C X18 (pc' := 128) e18 V18 at_127 rfl ?_
          refine g_iload C X18 (pc' := 130) at_128 rfl rfl ?_
          refine g_icmpY C X18 at_130 (pc' := 135) (by decide) (by decide) (by decide) ?_
          refine g_iload C X18 (pc' := 137) at_135 rfl rfl ?_
          refine g_aload C X18 (pc' := 139) at_137 rfl rfl rfl ?_
          refine g_aload C X18 (pc' := 141) at_139 rfl rfl rfl ?_
          refine g_acmpY C X18 at_141 rfl rfl (ac_diff (ref_ne ab)).2 (pc' := 148) (by decide) (by decide) ?_
          refine g_iconst C X18 (pc' := 149) at_148 (v := (0 : Int32)) (by decide) rfl ?_
          refine g_icmpY C X18 at_149 (pc' := 154) (by decide) (by decide) (by decide) ?_
          refine g_aload C X18 (pc' := 156) at_154 rfl rfl rfl ?_
          refine g_aload C X18 (pc' := 158) at_156 rfl rfl rfl ?_
          refine g_iconst C X18 (pc' := 159) at_158 (v := (0 : Int32)) (by decide) rfl ?_
          refine g_iload C X18 (pc' := 161) at_159 rfl rfl ?_
          refine g_dload C X18 (pc' := 163) at_161 rfl rfl ?_
          refine g_dload C X18 (pc' := 165) at_163 rfl rfl ?_
          refine g_callS C X18 (c_sl2_0 l Z h18 a18 a15 k18 k15 d10 d13 y18_0 d10 y18_1 d11 _ _ _ Dy18_0 D_d10 D_d10 D_d13 cy18_0 V18 A15) (hw _ (List.mem_of_getElem? (i := 5) rfl)) (hw _ (List.mem_of_getElem? (i := 6) rfl)) (hw _ (List.mem_of_getElem? (i := 7) rfl)) (hw _ (List.mem_of_getElem? (i := 8) rfl)) (by decide) e18 at_165 rfl pdS [(.ref a18), (.ref a15), (.int (0 : Int32)), (.int (2 : Int32)), (.double d10), (.double d13)] [] rfl rfl rfl 0 rfl (by decide) (by decide) (by decide) (by decide) rfl ?_
          rintro _ T25 _ X25 ⟨rfl, rfl, e25⟩
          rw [List.append_nil] at X25
          show Go p.tables e below _ T25 (mkF m 168 #[.val (.int p0), .val (.int p1), .val (.int p2), .val (.int p3), .val (.int p4), .val (.int (2 : Int32)), .val (.double d10), .second, .val (.double d11), .second, .val (.double d12), .second, .val (.double d13), .second, .val (.ref a15), .val (.ref a18), .val (.int (1 : Int32))] [(.int (1 : Int32))])
          refine g_ifN C X25 at_168 (by decide) rfl ?_
          refine g_aload C X25 (pc' := 173) at_171 rfl rfl rfl ?_
          refine g_aload C X25 (pc' := 175) at_173 rfl rfl rfl ?_
          refine g_iconst C X25 (pc' := 176) at_175 (v := (1 : Int32)) (by decide) rfl ?_
          refine g_iload C X25 (pc' := 178) at_176 rfl rfl ?_
          refine g_dload C X25 (pc' := 180) at_178 rfl rfl ?_
          refine g_dload C X25 (pc' := 182) at_180 rfl rfl ?_
          refine g_callS C X25 (c_sl2_1 l Z h18 a18 a15 k18 k15 d11 d13 y18_0 d10 y18_1 d11 _ _ _ Dy18_1 D_d11 D_d11 D_d13 cy18_1 V18 A15) (hw _ (List.mem_of_getElem? (i := 5) rfl)) (hw _ (List.mem_of_getElem? (i := 6) rfl)) (hw _ (List.mem_of_getElem? (i := 7) rfl)) (hw _ (List.mem_of_getElem? (i := 8) rfl)) (by decide) e25 at_182 rfl pdS [(.ref a18), (.ref a15), (.int (1 : Int32)), (.int (2 : Int32)), (.double d11), (.double d13)] [] rfl rfl rfl 0 rfl (by decide) (by decide) (by decide) (by decide) rfl ?_
          rintro _ T26 _ X26 ⟨rfl, rfl, e26⟩
          rw [List.append_nil] at X26
          show Go p.tables e below _ T26 (mkF m 185 #[.val (.int p0), .val (.int p1), .val (.int p2), .val (.int p3), .val (.int p4), .val (.int (2 : Int32)), .val (.double d10), .second, .val (.double d11), .second, .val (.double d12), .second, .val (.double d13), .second, .val (.ref a15), .val (.ref a18), .val (.int (1 : Int32))] [(.int (1 : Int32))])
          refine g_ifN C X26 at_185 (by decide) rfl ?_
          refine g_aload C X26 (pc' := 190) at_188 rfl rfl rfl ?_
          refine g_aload C X26 (pc' := 192) at_190 rfl rfl rfl ?_
          refine g_iconst C X26 (pc' := 193) at_192 (v := (2 : Int32)) (by decide) rfl ?_
          refine g_iload C X26 (pc' := 195) at_193 rfl rfl ?_
          refine g_dload C X26 (pc' := 197) at_195 rfl rfl ?_
          refine g_dload C X26 (pc' := 199) at_197 rfl rfl ?_
          refine g_callS C X26 (c_sl2_2 l Z h18 a18 a15 k18 k15 d12 d13 y18_0 d10 y18_1 d11 V18 A15) (hw _ (List.mem_of_getElem? (i := 5) rfl)) (hw _ (List.mem_of_getElem? (i := 6) rfl)) (hw _ (List.mem_of_getElem? (i := 7) rfl)) (hw _ (List.mem_of_getElem? (i := 8) rfl)) (by decide) e26 at_199 rfl pdS [(.ref a18), (.ref a15), (.int (2 : Int32)), (.int (2 : Int32)), (.double d12), (.double d13)] [] rfl rfl rfl 0 rfl (by decide) (by decide) (by decide) (by decide) rfl ?_
          rintro _ T27 _ X27 ⟨rfl, rfl, e27⟩
          rw [List.append_nil] at X27
          show Go p.tables e below _ T27 (mkF m 202 #[.val (.int p0), .val (.int p1), .val (.int p2), .val (.int p3), .val (.int p4), .val (.int (2 : Int32)), .val (.double d10), .second, .val (.double d11), .second, .val (.double d12), .second, .val (.double d13), .second, .val (.ref a15), .val (.ref a18), .val (.int (1 : Int32))] [(.int (1 : Int32))])
          refine g_ifN C X27 at_202 (by decide) rfl ?_
          refine g_iconst C X27 (pc' := 206) at_205 (v := (1 : Int32)) (by decide) rfl ?_
          refine g_goto C X27 at_206 (pc' := 210) (by decide) (by decide) ?_
          exact g_zreturn C X27 at_210 (w := 1) (by decide) ⟨rfl, N18⟩ (by decide) (by decide)
        · have c96 : ¬ (0 < (cmpI p2.toInt p4.toInt).toInt) := c96
          have c96 : ¬ (p4.toInt < p2.toInt) := fun q => c96 ((cmpI_gt _ _).mpr q)
          refine g_iload C X18 (pc' := 101) at_99 rfl rfl ?_
          refine g_iconst C X18 (pc' := 102) at_101 (v := (2 : Int32)) (by decide) rfl ?_
          refine g_icmpY C X18 at_102 (pc' := 117) (by decide) (by decide) (by decide) ?_
          refine g_iconst C X18 (pc' := 118) at_117 (v := (0 : Int32)) (by decide) rfl ?_
          refine g_istore C X18 (pc' := 120) at_118 (x := (0 : Int32)) rfl (l' := #[.val (.int p0), .val (.int p1), .val (.int p2), .val (.int p3), .val (.int p4), .val (.int (2 : Int32)), .val (.double d10), .second, .val (.double d11), .second, .val (.double d12), .second, .val (.double d13), .second, .val (.ref a15), .val (.ref a18), .val (.int (0 : Int32))]) rfl rfl ?_
          refine g_aload C X18 (pc' := 122) at_120 rfl rfl rfl ?_
          refine g_ifnullN C X18 at_122 rfl ?_
          refine g_aload C X18 (pc' := 127) at_125 rfl rfl rfl ?_
          refine g_len C X18 (pc' := 128) e18 V18 at_127 rfl ?_
          refine g_iload C X18 (pc' := 130) at_128 rfl rfl ?_
          refine g_icmpY C X18 at_130 (pc' := 135) (by decide) (by decide) (by decide) ?_
          refine g_iload C X18 (pc' := 137) at_135 rfl rfl ?_
          refine g_aload C X18 (pc' := 139) at_137 rfl rfl rfl ?_
          refine g_aload C X18 (pc' := 141) at_139 rfl rfl rfl ?_
          refine g_acmpY C X18 at_141 rfl rfl (ac_diff (ref_ne ab)).2 (pc' := 148) (by decide) (by decide) ?_
          refine g_iconst C X18 (pc' := 149) at_148 (v := (0 : Int32)) (by decide) rfl ?_
          refine g_icmpN C X18 at_149 (by decide) rfl ?_
          refine g_iconst C X18 (pc' := 153) at_152 (v := (0 : Int32)) (by decide) rfl ?_
          exfalso; omega
  · show Go p.tables e below _ T0 (mkF m 5 #[.val (.int p0), .val (.int p1), .val (.int p2), .val (.int p3), .val (.int p4), .val (.int (3 : Int32)), .unset, .unset, .unset, .unset, .unset, .unset, .unset, .unset, .unset, .unset, .unset] [])
    refine g_iloadN C X0 (pc' := 6) at_5 rfl rfl ?_
    refine g_i2d C X0 (pc' := 7) at_6 rfl ?_
    obtain ⟨d14, e_d14⟩ : ∃ z : UInt64, z = FP.i2d p1 := ⟨_, rfl⟩
    have D_d14 : FP.Core.DInt p1.toInt d14 := e_d14 ▸ (i2d_D p1)
    refine g_dstore C X0 (pc' := 9) at_7 (x := d14) e_d14 (l' := #[.val (.int p0), .val (.int p1), .val (.int p2), .val (.int p3), .val (.int p4), .val (.int (3 : Int32)), .val (.double d14), .second, .unset, .unset, .unset, .unset, .unset, .unset, .unset, .unset, .unset]) rfl rfl ?_
    refine g_iloadN C X0 (pc' := 10) at_9 rfl rfl ?_
    refine g_i2d C X0 (pc' := 11) at_10 rfl ?_
    obtain ⟨d15, e_d15⟩ : ∃ z : UInt64, z = FP.i2d p2 := ⟨_, rfl⟩
    have D_d15 : FP.Core.DInt p2.toInt d15 := e_d15 ▸ (i2d_D p2)
    refine g_dstore C X0 (pc' := 13) at_11 (x := d15) e_d15 (l' := #[.val (.int p0), .val (.int p1), .val (.int p2), .val (.int p3), .val (.int p4), .val (.int (3 : Int32)), .val (.double d14), .second, .val (.double d15), .second, .unset, .unset, .unset, .unset, .unset, .unset, .unset]) rfl rfl ?_
    refine g_iloadN C X0 (pc' := 14) at_13 rfl rfl ?_
    refine g_i2d C X0 (pc' := 15) at_14 rfl ?_
    obtain ⟨d16, e_d16⟩ : ∃ z : UInt64, z = FP.i2d p3 := ⟨_, rfl⟩
    have D_d16 : FP.Core.DInt p3.toInt d16 := e_d16 ▸ (i2d_D p3)
    refine g_dstore C X0 (pc' := 17) at_15 (x := d16) e_d16 (l' := #[.val (.int p0), .val (.int p1), .val (.int p2), .val (.int p3), .val (.int p4), .val (.int (3 : Int32)), .val (.double d14), .second, .val (.double d15), .second, .val (.double d16), .second, .unset, .unset, .unset, .unset, .unset]) rfl rfl ?_
    refine g_iload C X0 (pc' := 19) at_17 rfl rfl ?_
    refine g_i2d C X0 (pc' := 20) at_19 rfl ?_
    obtain ⟨d17, e_d17⟩ : ∃ z : UInt64, z = FP.i2d p4 := ⟨_, rfl⟩
    have D_d17 : FP.Core.DInt p4.toInt d17 := e_d17 ▸ (i2d_D p4)
    refine g_dstore C X0 (pc' := 22) at_20 (x := d17) e_d17 (l' := #[.val (.int p0), .val (.int p1), .val (.int p2), .val (.int p3), .val (.int p4), .val (.int (3 : Int32)), .val (.double d14), .second, .val (.double d15), .second, .val (.double d16), .second, .val (.double d17), .second, .unset, .unset, .unset]) rfl rfl ?_
    refine g_iload C X0 (pc' := 24) at_22 rfl rfl ?_
    refine g_newPE C X0 (aty := .double) (ad := "[D") (by decide) (hw _ (List.mem_of_getElem? (i := 0) rfl)) e0 at_24 (by decide) 3 (by decide) (by decide) (by decide) (by decide) rfl ?_
    intro T28 h28 a28 k28 g28 X28 e28 E28 A28 B28
    have z_a28 : n0 ≤ a28 := by rw [g28]; exact Z0
    have Z28 : n0 ≤ h28.size := Nat.le_trans Z0 E28.1
    have A28 : Arv Z h28 a28 k28 .double (3 : Int32) [] (.double (0 : UInt64)) := A28
    refine g_astore C X28 (pc' := 28) at_26 rfl (l' := #[.val (.int p0), .val (.int p1), .val (.int p2), .val (.int p3), .val (.int p4), .val (.int (3 : Int32)), .val (.double d14), .second, .val (.double d15), .second, .val (.double d16), .second, .val (.double d17), .second, .val (.ref a28), .unset, .unset]) rfl rfl ?_
    refine g_iload C X28 (pc' := 30) at_28 rfl rfl ?_
    refine g_ifN C X28 at_30 (by decide) rfl ?_
    refine g_aload C X28 (pc' := 35) at_33 rfl rfl rfl ?_
    refine g_iconst C X28 (pc' := 36) at_35 (v := (0 : Int32)) (by decide) rfl ?_
    refine g_dload C X28 (pc' := 38) at_36 rfl rfl ?_
    refine g_dastore C X28 (pc' := 39) e28 A28 (by decide) (by decide) 0 1 (by decide) (of_decide_eq_true rfl) at_38 rfl ?_
    intro T29 h29 X29 e29 W29 Aq
    have B28 := B28.wr W29
    have Z29 : n0 ≤ h29.size := by rw [W29.size]; exact Z28
    have N29 := Fr.snoc X29 (Fr.nil n0) z_a28
    have A28 : Arv Z h29 a28 k28 .double (3 : Int32) [(.double d14)] (.double (0 : UInt64)) := Aq
    refine g_iload C X29 (pc' := 41) at_39 rfl rfl ?_
    refine g_iconst C X29 (pc' := 42) at_41 (v := (1 : Int32)) (by decide) rfl ?_
    refine g_icmpN C X29 at_42 (by decide) rfl ?_
    refine g_aload C X29 (pc' := 47) at_45 rfl rfl rfl ?_
    refine g_iconst C X29 (pc' := 48) at_47 (v := (1 : Int32)) (by decide) rfl ?_
    refine g_dload C X29 (pc' := 50) at_48 rfl rfl ?_
    refine g_dastore C X29 (pc' := 51) e29 A28 (by decide) (by decide) 1 1 (by decide) (of_decide_eq_true rfl) at_50 rfl ?_
    intro T30 h30 X30 e30 W30 Aq
    have B28 := B28.wr W30
    have Z30 : n0 ≤ h30.size := by rw [W30.size]; exact Z29
    have N30 := Fr.snoc X30 N29 z_a28
    have A28 : Arv Z h30 a28 k28 .double (3 : Int32) [(.double d14), (.double d15)] (.double (0 : UInt64)) := Aq
    refine g_iload C X30 (pc' := 53) at_51 rfl rfl ?_
    refine g_iconst C X30 (pc' := 54) at_53 (v := (2 : Int32)) (by decide) rfl ?_
    refine g_icmpN C X30 at_54 (by decide) rfl ?_
    refine g_aload C X30 (pc' := 59) at_57 rfl rfl rfl ?_
    refine g_iconst C X30 (pc' := 60) at_59 (v := (2 : Int32)) (by decide) rfl ?_
    refine g_dload C X30 (pc' := 62) at_60 rfl rfl ?_
    refine g_dastore C X30 (pc' := 63) e30 A28 (by decide) (by decide) 2 1 (by decide) (of_decide_eq_true rfl) at_62 rfl ?_
    intro T31 h31 X31 e31 W31 Aq
    have B28 := B28.wr W31
    have Z31 : n0 ≤ h31.size := by rw [W31.size]; exact Z30
    have N31 := Fr.snoc X31 N30 z_a28
    have A28 : Arv Z h31 a28 k28 .double (3 : Int32) [(.double d14), (.double d15), (.double d16)] (.double (0 : UInt64)) := Aq
    refine g_aload C X31 (pc' := 65) at_63 rfl rfl rfl ?_
    refine g_dload C X31 (pc' := 67) at_65 rfl rfl ?_
    refine g_callS C X31 (c_am3 l Z a0 hw h31 n0 Z31 a28 k28 d17 d14 d15 d16 _ _ _ _ D_d17 D_d14 D_d15 D_d16 A28 B28) (hw _ (List.mem_of_getElem? (i := 1) rfl)) (hw _ (List.mem_of_getElem? (i := 2) rfl)) (hw _ (List.mem_of_getElem? (i := 3) rfl)) (hw _ (List.mem_of_getElem? (i := 4) rfl)) (by decide) e31 at_67 rfl pdA [(.ref a28), (.double d17)] [] rfl rfl rfl 0 rfl (by decide) (by decide) (by decide) (by decide) rfl ?_
    rintro _ T32 L32 X32 ⟨a32, k32, rfl, M32, K32, ab32, y32_0, t32_0, y32_1, t32_1, y32_2, t32_2, Dy32_0, cy32_0, Dy32_1, cy32_1, Dy32_2, cy32_2, V32⟩
    have A28 := A28.keep K32 nin0
    have B28 := B28.keep K32
    have Z32 : n0 ≤ T32.heap.size := Nat.le_trans Z31 K32.1
    have N32 := Fr.app N31 M32
    obtain ⟨h32, e32⟩ : ∃ z, T32.heap = z := ⟨_, rfl⟩
    rw [e32] at A28 B28 Z32 V32
    rcases ab32 with ⟨ab, nb⟩ | ⟨ab, nb⟩
    · have ab := ab.symm
      subst ab
      show Go p.tables e below _ T32 (mkF m 70 #[.val (.int p0), .val (.int p1), .val (.int p2), .val (.int p3), .val (.int p4), .val (.int (3 : Int32)), .val (.double d14), .second, .val (.double d15), .second, .val (.double d16), .second, .val (.double d17), .second, .val (.ref a28), .unset, .unset] [(.ref a28)])
      refine g_astore C X32 (pc' := 72) at_70 rfl (l' := #[.val (.int p0), .val (.int p1), .val (.int p2), .val (.int p3), .val (.int p4), .val (.int (3 : Int32)), .val (.double d14), .second, .val (.double d15), .second, .val (.double d16), .second, .val (.double d17), .second, .val (.ref a28), .val (.ref a28), .unset]) rfl rfl ?_
      refine g_iload C X32 (pc' := 74) at_72 rfl rfl ?_
      refine g_ifN C X32 at_74 (by decide) rfl ?_
      refine g_dload C X32 (pc' := 79) at_77 rfl rfl ?_
      refine g_dload C X32 (pc' := 81) at_79 rfl rfl ?_
      refine g_dcmpV C X32 (pc' := 82) at_81 (dcmp_cmpI D_d14 D_d17 _) rfl ?_
      refine g_if C X32 at_82 (pc' := 113) (pc'' := 85) (by decide) (by decide) rfl (fun c82 => ?_) (fun c82 => ?_)
      · have c82 : 0 < (cmpI p1.toInt p4.toInt).toInt := c82
        have c82 : p4.toInt < p1.toInt := (cmpI_gt _ _).mp c82
        refine g_iconst C X32 (pc' := 114) at_113 (v := (1 : Int32)) (by decide) rfl ?_
        refine g_goto C X32 at_114 (pc' := 118) (by decide) (by decide) ?_
        refine g_istore C X32 (pc' := 120) at_118 (x := (1 : Int32)) rfl (l' := #[.val (.int p0), .val (.int p1), .val (.int p2), .val (.int p3), .val (.int p4), .val (.int (3 : Int32)), .val (.double d14), .second, .val (.double d15), .second, .val (.double d16), .second, .val (.double d17), .second, .val (.ref a28), .val (.ref a28), .val (.int (1 : Int32))]) rfl rfl ?_
        refine g_aload C X32 (pc' := 122) at_120 rfl rfl rfl ?_
        refine g_ifnullN C X32 at_122 rfl ?_
        refine g_aload C X32 (pc' := 127) at_125 rfl rfl rfl ?_
        refine g_len C X32 (pc' := 128) e32 A28 at_127 rfl ?_
        refine g_iload C X32 (pc' := 130) at_128 rfl rfl ?_
        refine g_icmpY C X32 at_130 (pc' := 135) (by decide) (by decide) (by decide) ?_
        refine g_iload C X32 (pc' := 137) at_135 rfl rfl ?_
        refine g_aload C X32 (pc' := 139) at_137 rfl rfl rfl ?_
        refine g_aload C X32 (pc' := 141) at_139 rfl rfl rfl ?_
        refine g_acmpN C X32 at_141 rfl rfl (ac_same _).2 rfl ?_
        refine g_iconst C X32 (pc' := 145) at_144 (v := (1 : Int32)) (by decide) rfl ?_
        refine g_goto C X32 at_145 (pc' := 149) (by decide) (by decide) ?_
        refine g_icmpN C X32 at_149 (by decide) rfl ?_
        refine g_iconst C X32 (pc' := 153) at_152 (v := (0 : Int32)) (by decide) rfl ?_
        exfalso; omega
      · have c82 : ¬ (0 < (cmpI p1.toInt p4.toInt).toInt) := c82
        have c82 : ¬ (p4.toInt < p1.toInt) := fun q => c82 ((cmpI_gt _ _).mpr q)
        refine g_iload C X32 (pc' := 87) at_85 rfl rfl ?_
        refine g_iconst C X32 (pc' := 88) at_87 (v := (1 : Int32)) (by decide) rfl ?_
        refine g_icmpN C X32 at_88 (by decide) rfl ?_
        refine g_dload C X32 (pc' := 93) at_91 rfl rfl ?_
        refine g_dload C X32 (pc' := 95) at_93 rfl rfl ?_
        refine g_dcmpV C X32 (pc' := 96) at_95 (dcmp_cmpI D_d15 D_d17 _) rfl ?_
        refine g_if C X32 at_96 (pc' := 113) (pc'' := 99) (by decide) (by decide) rfl (fun c96 => ?_) (fun c96 => ?_)
        · have c96 : 0 < (cmpI p2.toInt p4.toInt).toInt := c96
          have c96 : p4.toInt < p2.toInt := (cmpI_gt _ _).mp c96
          refine g_iconst C X32 (pc' := 114) at_113 (v := (1 : Int32)) (by decide) rfl ?_
          refine g_goto C X32 at_114 (pc' := 118) (by decide) (by decide) ?_
          refine g_istore C X32 (pc' := 120) at_118 (x := (1 : Int32)) rfl (l' := #[.val (.int p0), .val (.int p1), .val (.int p2), .val (.int p3), .val (.int p4), .val (.int (3 : Int32)), .val (.double d14), .second, .val (.double d15), .second, .val (.double d16), .second, .val (.double d17), .second, .val (.ref a28), .val (.ref a28), .val (.int (1 : Int32))]) rfl rfl ?_
          refine g_aload C X32 (pc' := 122) at_120 rfl rfl rfl ?_
          refine g_ifnullN C X32 at_122 rfl ?_
          refine g_aload C X32 (pc' := 127) at_125 rfl rfl rfl ?_
          refine g_len C X32 (pc' := 128) e32 A28 at_127 rfl ?_
          refine g_iload C X32 (pc' := 130) at_128 rfl rfl ?_
          refine g_icmpY C X32 at_130 (pc' := 135) (by decide) (by decide) (by decide) ?_
          refine g_iload C X32 (pc' := 137) at_135 rfl rfl ?_
          refine g_aload C X32 (pc' := 139) at_137 rfl rfl rfl ?_
          refine g_aload C X32 (pc' := 141) at_139 rfl rfl rfl ?_
          refine g_acmpN C X32 at_141 rfl rfl (ac_same _).2 rfl ?_
          refine g_iconst C X32 (pc' := 145) at_144 (v := (1 : Int32)) (by decide) rfl ?_
          refine g_goto C X32 at_145 (pc' := 149) (by decide) (by decide) ?_
          refine g_icmpN C X32 at_149 (by decide) rfl ?_
          refine g_iconst C X32 (pc' := 153) at_152 (v := (0 : Int32)) (by decide) rfl ?_
          exfalso; omega
        · have c96 : ¬ (0 < (cmpI p2.toInt p4.toInt).toInt) := c96
          have c96 : ¬ (p4.toInt < p2.toInt) := fun q => c96 ((cmpI_gt _ _).mpr q)
          refine g_iload C X32 (pc' := 101) at_99 rfl rfl ?_
          refine g_iconst C X32 (pc' := 102) at_101 (v := (2 : Int32)) (by decide) rfl ?_
          refine g_icmpN C X32 at_102 (by decide) rfl ?_
          refine g_dload C X32 (pc' := 107) at_105 rfl rfl ?_
          refine g_dload C X32 (pc' := 109) at_107 rfl rfl ?_
          refine g_dcmpV C X32 (pc' := 110) at_109 (dcmp_cmpI D_d16 D_d17 _) rfl ?_
          refine g_if C X32 at_110 (pc' := 117) (pc'' := 113) (by decide) (by decide) rfl (fun c110 => ?_) (fun c110 => ?_)
          · have c110 : ¬ (0 < (cmpI p3.toInt p4.toInt).toInt) := c110
            have c110 : ¬ (p4.toInt < p3.toInt) := fun q => c110 ((cmpI_gt _ _).mpr q)
            refine g_iconst C X32 (pc' := 118) at_117 (v := (0 : Int32)) (by decide) rfl ?_
            refine g_istore C X32 (pc' := 120) at_118 (x := (0 : Int32)) rfl (l' := #[.val (.int p0), .val (.int p1), .val (.int p2), .val (.int p3), .val (.int p4), .val (.int (3 : Int32)), .val (.double d14), .second, .val (.double d15), .second, .val (.double d16), .second, .val (.double d17), .second, .val (.ref a28), .val (.ref a28), .val (.int (0 : Int32))]) rfl rfl ?_
            refine g_aload C X32 (pc' := 122) at_120 rfl rfl rfl ?_
            refine g_ifnullN C X32 at_122 rfl ?_
            refine g_aload C X32 (pc' := 127) at_125 rfl rfl rfl ?_
            refine g_len C X32 (pc' := 128) e32 A28 at_127 rfl ?_
            refine g_iload C X32 (pc' := 130) at_128 rfl rfl ?_
            refine g_icmpY C X32 at_130 (pc' := 135) (by decide) (by decide) (by decide) ?_
            refine g_iload C X32 (pc' := 137) at_135 rfl rfl ?_
            refine g_aload C X32 (pc' := 139) at_137 rfl rfl rfl ?_
            refine g_aload C X32 (pc' := 141) at_139 rfl rfl rfl ?_
            refine g_acmpN C X32 at_141 rfl rfl (ac_same _).2 rfl ?_
            refine g_iconst C X32 (pc' := 145) at_144 (v := (1 : Int32)) (by decide) rfl ?_
            refine g_goto C X32 at_145 (pc' := 149) (by decide) (by decide) ?_
            refine g_icmpY C X32 at_149 (pc' := 154) (by decide) (by decide) (by decide) ?_
            refine g_aload C X32 (pc' := 156) at_154 rfl rfl rfl ?_
            refine g_aload C X32 (pc' := 158) at_156 rfl rfl rfl ?_
            refine g_iconst C X32 (pc' := 159) at_158 (v := (0 : Int32)) (by decide) rfl ?_
            refine g_iload C X32 (pc' := 161) at_159 rfl rfl ?_
            refine g_dload C X32 (pc' := 163) at_161 rfl rfl ?_
            refine g_dload C X32 (pc' := 165) at_163 rfl rfl ?_
            refine g_callS C X32 (c_sl3_0 l Z h32 a28 a28 k32 k28 d14 d17 y32_0 d14 y32_1 d15 y32_2 d16 _ _ _ Dy32_0 D_d14 D_d14 D_d17 cy32_0 V32 A28) (hw _ (List.mem_of_getElem? (i := 5) rfl)) (hw _ (List.mem_of_getElem? (i := 6) rfl)) (hw _ (List.mem_of_getElem? (i := 7) rfl)) (hw _ (List.mem_of_getElem? (i := 8) rfl)) (by decide) e32 at_165 rfl pdS [(.ref a28), (.ref a28), (.int (0 : Int32)), (.int (3 : Int32)), (.double d14), (.double d17)] [] rfl rfl rfl 0 rfl (by decide) (by decide) (by decide) (by decide) rfl ?_
            rintro _ T33 _ X33 ⟨rfl, rfl, e33⟩
            rw [List.append_nil] at X33
            show Go p.tables e below _ T33 (mkF m 168 #[.val (.int p0), .val (.int p1), .val (.int p2), .val (.int p3), .val (.int p4), .val (.int (3 : Int32)), .val (.double d14), .second, .val (.double d15), .second, .val (.double d16), .second, .val (.double d17), .second, .val (.ref a28), .val (.ref a28), .val (.int (0 : Int32))] [(.int (1 : Int32))])
            refine g_ifN C X33 at_168 (by decide) rfl ?_
            refine g_aload C X33 (pc' := 173) at_171 rfl rfl rfl ?_
            refine g_aload C X33 (pc' := 175) at_173 rfl rfl rfl ?_
            refine g_iconst C X33 (pc' := 176) at_175 (v := (1 : Int32)) (by decide) rfl ?_
            refine g_iload C X33 (pc' := 178) at_176 rfl rfl ?_
            refine g_dload C X33 (pc' := 180) at_178 rfl rfl ?_
            refine g_dload C X33 (pc' := 182) at_180 rfl rfl ?_
            refine g_callS C X33 (c_sl3_1 l Z h32 a28 a28 k32 k28 d15 d17 y32_0 d14 y32_1 d15 y32_2 d16 _ _ _ Dy32_1 D_d15 D_d15 D_d17 cy32_1 V32 A28) (hw _ (List.mem_of_getElem? (i := 5) rfl)) (hw _ (List.mem_of_getElem? (i := 6) rfl)) (hw _ (List.mem_of_getElem? (i := 7) rfl)) (hw _ (List.mem_of_getElem? (i := 8) rfl)) (by decide) e33 at_182 rfl pdS [(.ref a28), (.ref a28), (.int (1 : Int32)), (.int (3 : Int32)), (.double d15), (.double d17)] [] rfl rfl rfl 0 rfl (by decide) (by decide) (by decide) (by decide) rfl ?_
            rintro _ T34 _ X34 ⟨rfl, rfl, e34⟩
            rw [List.append_nil] at X34
            show Go p.tables e below _ T34 (mkF m 185 #[.val (.int p0), .val (.int p1), .val (.int p2), .val (.int p3), .val (.int p4), .val (.int (3 : Int32)), .val (.double d14), .second, .val (.double d15), .second, .val (.double d16), .second, .val (.double d17), .second, .val (.ref a28), .val (.ref a28), .val (.int (0 : Int32))] [(.int (1 : Int32))])
            refine g_ifN C X34 at_185 (by decide) rfl ?_
            refine g_aload C X34 (pc' := 190) at_188 rfl rfl rfl ?_
            refine g_aload C X34 (pc' := 192) at_190 rfl rfl rfl ?_
            refine g_iconst C X34 (pc' := 193) at_192 (v := (2 : Int32)) (by decide) rfl ?_
            refine g_iload C X34 (pc' := 195) at_193 rfl rfl ?_
            refine g_dload C X34 (pc' := 197) at_195 rfl rfl ?_
            refine g_dload C X34 (pc' := 199) at_197 rfl rfl ?_
            refine g_callS C X34 (c_sl3_2 l Z h32 a28 a28 k32 k28 d16 d17 y32_0 d14 y32_1 d15 y32_2 d16 _ _ _ Dy32_2 D_d16 D_d16 D_d17 cy32_2 V32 A28) (hw _ (List.mem_of_getElem? (i := 5) rfl)) (hw _ (List.mem_of_getElem? (i := 6) rfl)) (hw _ (List.mem_of_getElem? (i := 7) rfl)) (hw _ (List.mem_of_getElem? (i := 8) rfl)) (by decide) e34 at_199 rfl pdS [(.ref a28), (.ref a28), (.int (2 : Int32)), (.int (3 : Int32)), (.double d16), (.double d17)] [] rfl rfl rfl 0 rfl (by decide) (by decide) (by decide) (by decide) rfl ?_
            rintro _ T35 _ X35 ⟨rfl, rfl, e35⟩
            rw [List.append_nil] at X35
            show Go p.tables e below _ T35 (mkF m 202 #[.val (.int p0), .val (.int p1), .val (.int p2), .val (.int p3), .val (.int p4), .val (.int (3 : Int32)), .val (.double d14), .second, .val (.double d15), .second, .val (.double d16), .second, .val (.double d17), .second, .val (.ref a28), .val (.ref a28), .val (.int (0 : Int32))] [(.int (1 : Int32))])
            refine g_ifN C X35 at_202 (by decide) rfl ?_
            refine g_iconst C X35 (pc' := 206) at_205 (v := (1 : Int32)) (by decide) rfl ?_
            refine g_goto C X35 at_206 (pc' := 210) (by decide) (by decide) ?_
            exact g_zreturn C X35 at_210 (w := 1) (by decide) ⟨rfl, N32⟩ (by decide) (by decide)
          · have c110 : 0 < (cmpI p3.toInt p4.toInt).toInt := Decidable.not_not.mp c110
            have c110 : p4.toInt < p3.toInt := (cmpI_gt _ _).mp c110
            refine g_iconst C X32 (pc' := 114) at_113 (v := (1 : Int32)) (by decide) rfl ?_
            refine g_goto C X32 at_114 (pc' := 118) (by decide) (by decide) ?_
            refine g_istore C X32 (pc' := 120) at_118 (x := (1 : Int32)) rfl (l' := #[.val (.int p0), .val (.int p1), .val (.int p2), .val (.int p3), .val (.int p4), .val (.int (3 : Int32)), .val (.double d14), .second, .val (.double d15), .second, .val (.double d16), .second, .val (.double d17), .second, .val (.ref a28), .val (.ref a28), .val (.int (1 : Int32))]) rfl rfl ?_
            refine g_aload C X32 (pc' := 122) at_120 rfl rfl rfl ?_
            refine g_ifnullN C X32 at_122 rfl ?_
            refine g_aload C X32 (pc' := 127) at_125 rfl rfl rfl ?_
            refine g_len C X32 (pc' := 128) e32 A28 at_127 rfl ?_
            refine g_iload C X32 (pc' := 130) at_128 rfl rfl ?_
            refine g_icmpY C X32 at_130 (pc' := 135) (by decide) (by decide) (by decide) ?_
            refine g_iload C X32 (pc' := 137) at_135 rfl rfl ?_
            refine g_aload C X32 (pc' := 139) at_137 rfl rfl rfl ?_
            refine g_aload C X32 (pc' := 141) at_139 rfl rfl rfl ?_
            refine g_acmpN C X32 at_141 rfl rfl (ac_same _).2 rfl ?_
            refine g_iconst C X32 (pc' := 145) at_144 (v := (1 : Int32)) (by decide) rfl ?_
            refine g_goto C X32 at_145 (pc' := 149) (by decide) (by decide) ?_
            refine g_icmpN C X32 at_149 (by decide) rfl ?_
            refine g_iconst C X32 (pc' := 153) at_152 (v := (0 : Int32)) (by decide) rfl ?_
            exfalso; omega
    · show Go p.tables e below _ T32 (mkF m 70 #[.val (.int p0), .val (.int p1), .val (.int p2), .val (.int p3), .val (.int p4), .val (.int (3 : Int32)), .val (.double d14), .second, .val (.double d15), .second, .val (.double d16), .second, .val (.double d17), .second, .val (.ref a28), .unset, .unset] [(.ref a32)])
      refine g_astore C X32 (pc' := 72) at_70 rfl (l' := #[.val (.int p0), .val (.int p1), .val (.int p2), .val (.int p3), .val (.int p4), .val (.int (3 : Int32)), .val (.double d14), .second, .val (.double d15), .second, .val (.double d16), .second, .val (.double d17), .second, .val (.ref a28), .val (.ref a32), .unset]) rfl rfl ?_
      refine g_iload C X32 (pc' := 74) at_72 rfl rfl ?_
      refine g_ifN C X32 at_74 (by decide) rfl ?_
      refine g_dload C X32 (pc' := 79) at_77 rfl rfl ?_
      refine g_dload C X32 (pc' := 81) at_79 rfl rfl ?_
      refine g_dcmpV C X32 (pc' := 82) at_81 (dcmp_cmpI D_d14 D_d17 _) rfl ?_
      refine g_if C X32 at_82 (pc' := 113) (pc'' := 85) (by decide) (by decide) rfl (fun c82 => ?_) (fun c82 => ?_)
      · have c82 : 0 < (cmpI p1.toInt p4.toInt).toInt := c82
        have c82 : p4.toInt < p1.toInt := (cmpI_gt _ _).mp c82
        refine g_iconst C X32 (pc' := 114) at_113 (v := (1 : Int32)) (by decide) rfl ?_
        refine g_goto C X32 at_114 (pc' := 118) (by decide) (by decide) ?_
        refine g_istore C X32 (pc' := 120) at_118 (x := (1 : Int32)) rfl (l' := #[.val (.int p0), .val (.int p1), .val (.int p2), .val (.int p3), .val (.int p4), .val (.int (3 : Int32)), .val (.double d14), .second, .val (.double d15), .second, .val (.double d16), .second, .val (.double d17), .second, .val (.ref a28), .val (.ref a32), .val (.int (1 : Int32))]) rfl rfl ?_
        refine g_aload C X32 (pc' := 122) at_120 rfl rfl rfl ?_
        refine g_ifnullN C X32 at_122 rfl ?_
        refine g_aload C X32 (pc' := 127) at_125 rfl rfl rfl ?_
        refine g_len C X32 (pc' := 128) e32 V32 at_127 rfl ?_
        refine g_iload C X32 (pc' := 130) at_128 rfl rfl ?_
        refine g_icmpY C X32 at_130 (pc' := 135) (by decide) (by decide) (by decide) ?_
        refine g_iload C X32 (pc' := 137) at_135 rfl rfl ?_
        refine g_aload C X32 (pc' := 139) at_137 rfl rfl rfl ?_
        refine g_aload C X32 (pc' := 141) at_139 rfl rfl rfl ?_
        refine g_acmpY C X32 at_141 rfl rfl (ac_diff (ref_ne ab)).2 (pc' := 148) (by decide) (by decide) ?_
        refine g_iconst C X32 (pc' := 149) at_148 (v := (0 : Int32)) (by decide) rfl ?_
        refine g_icmpY C X32 at_149 (pc' := 154) (by decide) (by decide) (by decide) ?_
        refine g_aload C X32 (pc' := 156) at_154 rfl rfl rfl ?_
        refine g_aload C X32 (pc' := 158) at_156 rfl rfl rfl ?_
        refine g_iconst C X32 (pc' := 159) at_158 (v := (0 : Int32)) (by decide) rfl ?_
        refine g_iload C X32 (pc' := 161) at_159 rfl rfl ?_
        refine g_dload C X32 (pc' := 163) at_161 rfl rfl ?_
        refine g_dload C X32 (pc' := 165) at_163 rfl rfl ?_
        refine g_callS C X32 (c_sl3_0 l Z h32 a32 a28 k32 k28 d14 d17 y32_0 d14 y32_1 d15 y32_2 d16 _ _ _ Dy32_0 D_d14 D_d14 D_d17 cy32_0 V32 A28) (hw _ (List.mem_of_getElem? (i := 5) rfl)) (hw _ (List.mem_of_getElem? (i := 6) rfl)) (hw _ (List.mem_of_getElem? (i := 7) rfl)) (hw _ (List.mem_of_getElem? (i := 8) rfl)) (by decide) e32 at_165 rfl pdS [(.ref a32), (.ref a28), (.int (0 : Int32)), (.int (3 : Int32)), (.double d14), (.double d17)] [] rfl rfl rfl 0 rfl (by decide) (by decide) (by decide) (by decide) rfl ?_
        rintro _ T36 _ X36 ⟨rfl, rfl, e36⟩
        rw [List.append_nil] at X36
        show Go p.tables e below _ T36 (mkF m 168 #[.val (.int p0), .val (.int p1), .val (.int p2), .val (.int p3), .val (.int p4), .val (.int (3 : Int32)), .val (.double d14), .second, .val (.double d15), .second, .val (.double d16), .second, .val (.double d17), .second, .val (.ref a28), .val (.ref a32), .val (.int (1 : Int32))] [(.int (1 : Int32))])
        refine g_ifN C X36 at_168 (by decide) rfl ?_
        refine g_aload C X36 (pc' := 173) at_171 rfl rfl rfl ?_
        refine g_aload C X36 (pc' := 175) at_173 rfl rfl rfl ?_
        refine g_iconst C X36 (pc' := 176) at_175 (v := (1 : Int32)) (by decide) rfl ?_
        refine g_iload C X36 (pc' := 178) at_176 rfl rfl ?_
        refine g_dload C X36 (pc' := 180) at_178 rfl rfl ?_
        refine g_dload C X36 (pc' := 182) at_180 rfl rfl ?_
        refine g_callS C X36 (c_sl3_1 l Z h32 a32 a28 k32 k28 d15 d17 y32_0 d14 y32_1 d15 y32_2 d16 _ _ _ Dy32_1 D_d15 D_d15 D_d17 cy32_1 V32 A28) (hw _ (List.mem_of_getElem? (i := 5) rfl)) (hw _ (List.mem_of_getElem? (i := 6) rfl)) (hw _ (List.mem_of_getElem? (i := 7) rfl)) (hw _ (List.mem_of_getElem? (i := 8) rfl)) (by decide) e36 at_182 rfl pdS [(.ref a32), (.ref a28), (.int (1 : Int32)), (.int (3 : Int32)), (.double d15), (.double d17)] [] rfl rfl rfl 0 rfl (by decide) (by decide) (by decide) (by decide) rfl ?_
        rintro _ T37 _ X37 ⟨rfl, rfl, e37⟩
        rw [List.append_nil] at X37
        show Go p.tables e below _ T37 (mkF m 185 #[.val (.int p0), .val (.int p1), .val (.int p2), .val (.int p3), .val (.int p4), .val (.int (3 : Int32)), .val (.double d14), .second, .val (.double d15), .second, .val (.double d16), .second, .val (.double d17), .second, .val (.ref a28), .val (.ref a32), .val (.int (1 : Int32))] [(.int (1 : Int32))])
        refine g_ifN C X37 at_185 (by decide) rfl ?_
        refine g_aload C X37 (pc' := 190) at_188 rfl rfl rfl ?_
        refine g_aload C X37 (pc' := 192) at_190 rfl rfl rfl ?_
        refine g_iconst C X37 (pc' := 193) at_192 (v := (2 : Int32)) (by decide) rfl ?_
        refine g_iload C X37 (pc' := 195) at_193 rfl rfl ?_
        refine g_dload C X37 (pc' := 197) at_195 rfl rfl ?_
        refine g_dload C X37 (pc' := 199) at_197 rfl rfl ?_
        refine g_callS C X37 (c_sl3_2 l Z h32 a32 a28 k32 k28 d16 d17 y32_0 d14 y32_1 d15 y32_2 d16 _ _ _ Dy32_2 D_d16 D_d16 D_d17 cy32_2 V32 A28) (hw _ (List.mem_of_getElem? (i := 5) rfl)) (hw _ (List.mem_of_getElem? (i := 6) rfl)) (hw _ (List.mem_of_getElem? (i := 7) rfl)) (hw _ (List.mem_of_getElem? (i := 8) rfl)) (by decide) e37 at_199 rfl pdS [(.ref a32), (.ref a28), (.int (2 : Int32)), (.int (3 : Int32)), (.double d16), (.double d17)] [] rfl rfl rfl 0 rfl (by decide) (by decide) (by decide) (by decide) rfl ?_
        rintro _ T38 _ X38 ⟨rfl, rfl, e38⟩
        rw [List.append_nil] at X38
        show Go p.tables e below _ T38 (mkF m 202 #[.val (.int p0), .val (.int p1), .val (.int p2), .val (.int p3), .val (.int p4), .val (.int (3 : Int32)), .val (.double d14), .second, .val (.double d15), .second, .val (.double d16), .second, .val (.double d17), .second, .val (.ref a28), .val (.ref a32), .val (.int (1 : Int32))] [(.int (1 : Int32))])
        refine g_ifN C X38 at_202 (by decide) rfl ?_
        refine g_iconst C X38 (pc' := 206) at_205 (v := (1 : Int32)) (by decide) rfl ?_
        refine g_goto C X38 at_206 (pc' := 210) (by decide) (by decide) ?_
        exact g_zreturn C X38 at_210 (w := 1) (by decide) ⟨rfl, N32⟩ (by decide) (by decide)
      · have c82 : ¬ (0 < (cmpI p1.toInt p4.toInt).toInt) := c82
        have c82 : ¬ (p4.toInt < p1.toInt) := fun q => c82 ((cmpI_gt _ _).mpr q)
        refine g_iload C X32 (pc' := 87) at_85 rfl rfl ?_
        refine g_iconst C X32 (pc' := 88) at_87 (v := (1 : Int32)) (by decide) rfl ?_
        refine g_icmpN C X32 at_88 (by decide) rfl ?_
        refine g_dload C X32 (pc' := 93) at_91 rfl rfl ?_
        refine g_dload C X32 (pc' := 95) at_93 rfl rfl ?_
        refine g_dcmpV C X32 (pc' := 96) at_95 (dcmp_cmpI D_d15 D_d17 _) rfl ?_
        refine g_if C X32 at_96 (pc' := 113) (pc'' := 99) (by decide) (by decide) rfl (fun c96 => ?_) (fun c96 => ?_)
        · have c96 : 0 < (cmpI p2.toInt p4.toInt).toInt := c96
          have c96 : p4.toInt < p2.toInt := (cmpI_gt _ _).mp c96
          refine g_iconst C X32 (pc' := 114) at_113 (v := (1 : Int32)) (by decide) rfl ?_
          refine g_goto C X32 at_114 (pc' := 118) (by decide) (by decide) ?_
          refine g_istore C X32 (pc' := 120) at_118 (x := (1 : Int32)) rfl (l' := #[.val (.int p0), .val (.int p1), .val (.int p2), .val (.int p3), .val (.int p4), .val (.int (3 : Int32)), .val (.double d14), .second, .val (.double d15), .second, .val (.double d16), .second, .val (.double d17), .second, .val (.ref a28), .val (.ref a32), .val (.int (1 : Int32))]) rfl rfl ?_
          refine g_aload C X32 (pc' := 122) at_120 rfl rfl rfl ?_
          refine g_ifnullN C X32 at_122 rfl ?_
          refine g_aload C X32 (pc' := 127) at_125 rfl rfl rfl ?_
          refine g_len C X32 (pc' := 128) e32 V32 at_127 rfl ?_
          refine g_iload C X32 (pc' := 130) at_128 rfl rfl ?_
          refine g_icmpY C X32 at_130 (pc' := 135) (by decide) (by decide) (by decide) ?_
          refine g_iload C X32 (pc' := 137) at_135 rfl rfl ?_
          refine g_aload C X32 (pc' := 139) at_137 rfl rfl rfl ?_
          refine g_aload C X32 (pc' := 141) at_139 rfl rfl rfl ?_
          refine g_acmpY C X32 at_141 rfl rfl (ac_diff (ref_ne ab)).2 (pc' := 148) (by decide) (by decide) ?_
          refine g_iconst C X32 (pc' := 149) at_148 (v := (0 : Int32)) (by decide) rfl ?_
          refine g_icmpY C X32 at_149 (pc' := 154) (by decide) (by decide) (by decide) ?_
          refine g_aload C X32 (pc' := 156) at_154 rfl rfl rfl ?_
          refine g_aload C X32 (pc' := 158) at_156 rfl rfl rfl ?_
          refine g_iconst C X32 (pc' := 159) at_158 (v := (0 : Int32)) (by decide) rfl ?_
          refine g_iload C X32 (pc' := 161) at_159 rfl rfl ?_
          refine g_dload C X32 (pc' := 163) at_161 rfl rfl ?_
          refine g_dload C X32 (pc' := 165) at_163 rfl rfl ?_
          refine g_callS C X32 (c_sl3_0 l Z h32 a32 a28 k32 k28 d14 d17 y32_0 d14 y32_1 d15 y32_2 d16 _ _ _ Dy32_0 D_d14 D_d14 D_d17 cy32_0 V32 A28) (hw _ (List.mem_of_getElem? (i := 5) rfl)) (hw _ (List.mem_of_getElem? (i := 6) rfl)) (hw _ (List.mem_of_getElem? (i := 7) rfl)) (hw _ (List.mem_of_getElem? (i := 8) rfl)) (by decide) e32 at_165 rfl pdS [(.ref a32), (.ref a28), (.int (0 : Int32)), (.int (3 : Int32)), (.double d14), (.double d17)] [] rfl rfl rfl 0 rfl (by decide) (by decide) (by decide) (by decide) rfl ?_
          rintro _ T39 _ X39 ⟨rfl, rfl, e39⟩
          rw [List.append_nil] at X39
          show Go p.tables e below _ T39 (mkF m 168 #[.val (.int p0), .val (.int p1), .val (.int p2), .val (.int p3), .val (.int p4), .val (.int (3 : Int32)), .val (.double d14), .second, .val (.double d15), .second, .val (.double d16), .second, .val (.double d17), .second, .val (.ref a28), .val (.ref a32), .val (.int (1 : Int32))] [(.int (1 : Int32))])
          refine g_ifN C X39 at_168 (by decide) rfl ?_
          refine g_aload C X39 (pc' := 173) at_171 rfl rfl rfl ?_
          refine g_aload C X39 (pc' := 175) at_173 rfl rfl rfl ?_
          refine g_iconst C X39 (pc' := 176) at_175 (v := (1 : Int32)) (by decide) rfl ?_
          refine g_iload C X39 (pc' := 178) at_176 rfl rfl ?_
          refine g_dload C X39 (pc' := 180) at_178 rfl rfl ?_
          refine g_dload C X39 (pc' := 182) at_180 rfl rfl ?_
          refine g_callS C X39 (c_sl3_1 l Z h32 a32 a28 k32 k28 d15 d17 y32_0 d14 y32_1 d15 y32_2 d16 _ _ _ Dy32_1 D_d15 D_d15 D_d17 cy32_1 V32 A28) (hw _ (List.mem_of_getElem? (i := 5) rfl)) (hw _ (List.mem_of_getElem? (i := 6) rfl)) (hw _ (List.mem_of_getElem? (i := 7) rfl)) (hw _ (List.mem_of_getElem? (i := 8) rfl)) (by decide) e39 at_182 rfl pdS [(.ref a32), (.ref a28), (.int (1 : Int32)), (.int (3 : Int32)), (.double d15), (.double d17)] [] rfl rfl rfl 0 rfl (by decide) (by decide) (by decide) (by decide) rfl ?_
          rintro _ T40 _ X40 ⟨rfl, rfl, e40⟩
          rw [List.append_nil] at X40
          show Go p.tables e below _ T40 (mkF m 185 #[.val (.int p0), .val (.int p1), .val (.int p2), .val (.int p3), .val (.int p4), .val (.int (3 : Int32)), .val (.double d14), .second, .val (.double d15), .second, .val (.double d16), .second, .val (.double d17), .second, .val (.ref a28), .val (.ref a32), .val (.int (1 : Int32))] [(.int (1 : Int32))])
          refine g_ifN C X40 at_185 (by decide) rfl ?_
          refine g_aload C X40 (pc' := 190) at_188 rfl rfl rfl ?_
          refine g_aload C X40 (pc' := 192) at_190 rfl rfl rfl ?_
          refine g_iconst C X40 (pc' := 193) at_192 (v := (2 : Int32)) (by decide) rfl ?_
          refine g_iload C X40 (pc' := 195) at_193 rfl rfl ?_
          refine g_dload C X40 (pc' := 197) at_195 rfl rfl ?_
          refine g_dload C X40 (pc' := 199) at_197 rfl rfl ?_
          refine g_callS C X40 (c_sl3_2 l Z h32 a32 a28 k32 k28 d16 d17 y32_0 d14 y32_1 d15 y32_2 d16 _ _ _ Dy32_2 D_d16 D_d16 D_d17 cy32_2 V32 A28) (hw _ (List.mem_of_getElem? (i := 5) rfl)) (hw _ (List.mem_of_getElem? (i := 6) rfl)) (hw _ (List.mem_of_getElem? (i := 7) rfl)) (hw _ (List.mem_of_getElem? (i := 8) rfl)) (by decide) e40 at_199 rfl pdS [(.ref a32), (.ref a28), (.int (2 : Int32)), (.int (3 : Int32)), (.double d16), (.double d17)] [] rfl rfl rfl 0 rfl (by decide) (by decide) (by decide) (by decide) rfl ?_
          rintro _ T41 _ X41 ⟨rfl, rfl, e41⟩
          rw [List.append_nil] at X41
          show Go p.tables e below _ T41 (mkF m 202 #[.val (.int p0), .val (.int p1), .val (.int p2), .val (.int p3), .val (.int p4), .val (.int (3 : Int32)), .val (.double d14), .second, .val (.double d15), .second, .val (.double d16), .second, .val (.double d17), .second, .val (.ref a28), .val (.ref a32), .val (.int (1 : Int32))] [(.int (1 : Int32))])
          refine g_ifN C X41 at_202 (by decide) rfl ?_
          refine g_iconst C X41 (pc' := 206) at_205 (v := (1 : Int32)) (by decide) rfl ?_
          refine g_goto C X41 at_206 (pc' := 210) (by decide) (by decide) ?_
          exact g_zreturn C X41 at_210 (w := 1) (by decide) ⟨rfl, N32⟩ (by decide) (by decide)
        · have c96 : ¬ (0 < (cmpI p2.toInt p4.toInt).toInt) := c96
          have c96 : ¬ (p4.toInt < p2.toInt) := fun q => c96 ((cmpI_gt _ _).mpr q)
          refine g_iload C X32 (pc' := 101) at_99 rfl rfl ?_
          refine g_iconst C X32 (pc' := 102) at_101 (v := (2 : Int32)) (by decide) rfl ?_
          refine g_icmpN C X32 at_102 (by decide) rfl ?_
          refine g_dload C X32 (pc' := 107) at_105 rfl rfl ?_
          refine g_dload C X32 (pc' := 109) at_107 rfl rfl ?_
          refine g_dcmpV C X32 (pc' := 110) at_109 (dcmp_cmpI D_d16 D_d17 _) rfl ?_
          refine g_if C X32 at_110 (pc' := 117) (pc'' := 113) (by decide) (by decide) rfl (fun c110 => ?_) (fun c110 => ?_)
          · have c110 : ¬ (0 < (cmpI p3.toInt p4.toInt).toInt) := c110
            have c110 : ¬ (p4.toInt < p3.toInt) := fun q => c110 ((cmpI_gt _ _).mpr q)
            refine g_iconst C X32 (pc' := 118) at_117 (v := (0 : Int32)) (by decide) rfl ?_
            refine g_istore C X32 (pc' := 120) at_118 (x := (0 : Int32)) rfl (l' := #[.val (.int p0), .val (.int p1), .val (.int p2), .val (.int p3), .val (.int p4), .val (.int (3 : Int32)), .val (.double d14), .second, .val (.double d15), .second, .val (.double d16), .second, .val (.double d17), .second, .val (.ref a28), .val (.ref a32), .val (.int (0 : Int32))]) rfl rfl ?_
            refine g_aload C X32 (pc' := 122) at_120 rfl rfl rfl ?_
            refine g_ifnullN C X32 at_122 rfl ?_
            refine g_aload C X32 (pc' := 127) at_125 rfl rfl rfl ?_
            refine g_len C X32 (pc' := 128) e32 V32 at_127 rfl ?_
            refine g_iload C X32 (pc' := 130) at_128 rfl rfl ?_
            refine g_icmpY C X32 at_130 (pc' := 135) (by decide) (by decide) (by decide) ?_
            refine g_iload C X32 (pc' := 137) at_135 rfl rfl ?_
            refine g_aload C X32 (pc' := 139) at_137 rfl rfl rfl ?_
            refine g_aload C X32 (pc' := 141) at_139 rfl rfl rfl ?_
            refine g_acmpY C X32 at_141 rfl rfl (ac_diff (ref_ne ab)).2 (pc' := 148) (by decide) (by decide) ?_
            refine g_iconst C X32 (pc' := 149) at_148 (v := (0 : Int32)) (by decide) rfl ?_
            refine g_icmpN C X32 at_149 (by decide) rfl ?_
            refine g_iconst C X32 (pc' := 153) at_152 (v := (0 : Int32)) (by decide) rfl ?_
            exfalso; omega
          · have c110 : 0 < (cmpI p3.toInt p4.toInt).toInt := Decidable.not_not.mp c110
            have c110 : p4.toInt < p3.toInt := (cmpI_gt _ _).mp c110
            refine g_iconst C X32 (pc' := 114) at_113 (v := (1 : Int32)) (by decide) rfl ?_
            refine g_goto C X32 at_114 (pc' := 118) (by decide) (by decide) ?_
            refine g_istore C X32 (pc' := 120) at_118 (x := (1 : Int32)) rfl (l' := #[.val (.int p0), .val (.int p1), .val (.int p2), .val (.int p3), .val (.int p4), .val (.int (3 : Int32)), .val (.double d14), .second, .val (.double d15), .second, .val (.double d16), .second, .val (.double d17), .second, .val (.ref a28), .val (.ref a32), .val (.int (1 : Int32))]) rfl rfl ?_
            refine g_aload C X32 (pc' := 122) at_120 rfl rfl rfl ?_
            refine g_ifnullN C X32 at_122 rfl ?_
            refine g_aload C X32 (pc' := 127) at_125 rfl rfl rfl ?_
            refine g_len C X32 (pc' := 128) e32 V32 at_127 rfl ?_
            refine g_iload C X32 (pc' := 130) at_128 rfl rfl ?_
            refine g_icmpY C X32 at_130 (pc' := 135) (by decide) (by decide) (by decide) ?_
            refine g_iload C X32 (pc' := 137) at_135 rfl rfl ?_
            refine g_aload C X32 (pc' := 139) at_137 rfl rfl rfl ?_
            refine g_aload C X32 (pc' := 141) at_139 rfl rfl rfl ?_
            refine g_acmpY C X32 at_141 rfl rfl (ac_diff (ref_ne ab)).2 (pc' := 148) (by decide) (by decide) ?_
            refine g_iconst C X32 (pc' := 149) at_148 (v := (0 : Int32)) (by decide) rfl ?_
            refine g_icmpY C X32 at_149 (pc' := 154) (by decide) (by decide) (by decide) ?_
            refine g_aload C X32 (pc' := 156) at_154 rfl rfl rfl ?_
            refine g_aload C X32 (pc' := 158) at_156 rfl rfl rfl ?_
            refine g_iconst C X32 (pc' := 159) at_158 (v := (0 : Int32)) (by decide) rfl ?_
            refine g_iload C X32 (pc' := 161) at_159 rfl rfl ?_
            refine g_dload C X32 (pc' := 163) at_161 rfl rfl ?_
            refine g_dload C X32 (pc' := 165) at_163 rfl rfl ?_
            refine g_callS C X32 (c_sl3_0 l Z h32 a32 a28 k32 k28 d14 d17 y32_0 d14 y32_1 d15 y32_2 d16 _ _ _ Dy32_0 D_d14 D_d14 D_d17 cy32_0 V32 A28) (hw _ (List.mem_of_getElem? (i := 5) rfl)) (hw _ (List.mem_of_getElem? (i := 6) rfl)) (hw _ (List.mem_of_getElem? (i := 7) rfl)) (hw _ (List.mem_of_getElem? (i := 8) rfl)) (by decide) e32 at_165 rfl pdS [(.ref a32), (.ref a28), (.int (0 : Int32)), (.int (3 : Int32)), (.double d14), (.double d17)] [] rfl rfl rfl 0 rfl (by decide) (by decide) (by decide) (by decide) rfl ?_
            rintro _ T42 _ X42 ⟨rfl, rfl, e42⟩
            rw [List.append_nil] at X42
            show Go p.tables e below _ T42 (mkF m 168 #[.val (.int p0), .val (.int p1), .val (.int p2), .val (.int p3), .val (.int p4), .val (.int (3 : Int32)), .val (.double d14), .second, .val (.double d15), .second, .val (.double d16), .second, .val (.double d17), .second, .val (.ref a28), .val (.ref a32), .val (.int (1 : Int32))] [(.int (1 : Int32))])
            refine g_ifN C X42 at_168 (by decide) rfl ?_
            refine g_aload C X42 (pc' := 173) at_171 rfl rfl rfl ?_
            refine g_aload C X42 (pc' := 175) at_173 rfl rfl rfl ?_
            refine g_iconst C X42 (pc' := 176) at_175 (v := (1 : Int32)) (by decide) rfl ?_
            refine g_iload C X42 (pc' := 178) at_176 rfl rfl ?_
            refine g_dload C X42 (pc' := 180) at_178 rfl rfl ?_
            refine g_dload C X42 (pc' := 182) at_180 rfl rfl ?_
            refine g_callS C X42 (c_sl3_1 l Z h32 a32 a28 k32 k28 d15 d17 y32_0 d14 y32_1 d15 y32_2 d16 _ _ _ Dy32_1 D_d15 D_d15 D_d17 cy32_1 V32 A28) (hw _ (List.mem_of_getElem? (i := 5) rfl)) (hw _ (List.mem_of_getElem? (i := 6) rfl)) (hw _ (List.mem_of_getElem? (i := 7) rfl)) (hw _ (List.mem_of_getElem? (i := 8) rfl)) (by decide) e42 at_182 rfl pdS [(.ref a32), (.ref a28), (.int (1 : Int32)), (.int (3 : Int32)), (.double d15), (.double d17)] [] rfl rfl rfl 0 rfl (by decide) (by decide) (by decide) (by decide) rfl ?_
            rintro _ T43 _ X43 ⟨rfl, rfl, e43⟩
            rw [List.append_nil] at X43
            show Go p.tables e below _ T43 (mkF m 185 #[.val (.int p0), .val (.int p1), .val (.int p2), .val (.int p3), .val (.int p4), .val (.int (3 : Int32)), .val (.double d14), .second, .val (.double d15), .second, .val (.double d16), .second, .val (.double d17), .second, .val (.ref a28), .val (.ref a32), .val (.int (1 : Int32))] [(.int (1 : Int32))])
            refine g_ifN C X43 at_185 (by decide) rfl ?_
            refine g_aload C X43 (pc' := 190) at_188 rfl rfl rfl ?_
            refine g_aload C X43 (pc' := 192) at_190 rfl rfl rfl ?_
            refine g_iconst C X43 (pc' := 193) at_192 (v := (2 : Int32)) (by decide) rfl ?_
            refine g_iload C X43 (pc' := 195) at_193 rfl rfl ?_
            refine g_dload C X43 (pc' := 197) at_195 rfl rfl ?_
            refine g_dload C X43 (pc' := 199) at_197 rfl rfl ?_
            refine g_callS C X43 (c_sl3_2 l Z h32 a32 a28 k32 k28 d16 d17 y32_0 d14 y32_1 d15 y32_2 d16 _ _ _ Dy32_2 D_d16 D_d16 D_d17 cy32_2 V32 A28) (hw _ (List.mem_of_getElem? (i := 5) rfl)) (hw _ (List.mem_of_getElem? (i := 6) rfl)) (hw _ (List.mem_of_getElem? (i := 7) rfl)) (hw _ (List.mem_of_getElem? (i := 8) rfl)) (by decide) e43 at_199 rfl pdS [(.ref a32), (.ref a28), (.int (2 : Int32)), (.int (3 : Int32)), (.double d16), (.double d17)] [] rfl rfl rfl 0 rfl (by decide) (by decide) (by decide) (by decide) rfl ?_
            rintro _ T44 _ X44 ⟨rfl, rfl, e44⟩
            rw [List.append_nil] at X44
            show Go p.tables e below _ T44 (mkF m 202 #[.val (.int p0), .val (.int p1), .val (.int p2), .val (.int p3), .val (.int p4), .val (.int (3 : Int32)), .val (.double d14), .second, .val (.double d15), .second, .val (.double d16), .second, .val (.double d17), .second, .val (.ref a28), .val (.ref a32), .val (.int (1 : Int32))] [(.int (1 : Int32))])
            refine g_ifN C X44 at_202 (by decide) rfl ?_
            refine g_iconst C X44 (pc' := 206) at_205 (v := (1 : Int32)) (by decide) rfl ?_
            refine g_goto C X44 at_206 (pc' := 210) (by decide) (by decide) ?_
            exact g_zreturn C X44 at_210 (w := 1) (by decide) ⟨rfl, N32⟩ (by decide) (by decide)
set_option maxRecDepth 65536 in
set_option maxHeartbeats 40000000 in
theorem comes_1 {Post : Tables → Env → Array Value → State → Outcome → State → Prop} (hpost : ∀ tb e args s v u, (limb_1_1.after args s (.returned v) u = true ∧ limb_1_2.after args s (.returned v) u = true ∧ True) → FrameEnd s (.returned v) u (Jvm.fieldLocs frame_1_writes args s ++ Jvm.arrayLocs frame_1_arrays args s ++ Jvm.staticLocs frame_1_statics s) 16 128 → Post tb e args s (.returned v) u) :
    ArmFor flags0 classFile x code maxLocals ret World_1 tables_1 room_1 Calls_1 rest_1 Pre_1 Post := by
  intro l hfl _ _ p e ha hc hk s m args below hf hA hF happ hP
  obtain ⟨hcalls, hrest, hpre⟩ := hP
  obtain ⟨-, -, -, hnamed, -, -, -, hat⟩ := (Spec.applies_iff hf).mp happ
  obtain ⟨hg, hn⟩ := and_e (Cond.before_iff.mp (show (Jvm.Cond.and given_1 narrow_1).before args s = true from hpre))
  obtain ⟨g_c, g_0⟩ := and_e hg
  obtain ⟨k_0, g_1⟩ := and_e g_0
  obtain ⟨k_1, g_2⟩ := and_e g_1
  obtain ⟨k_2, g_3⟩ := and_e g_2
  obtain ⟨k_3, g_4⟩ := and_e g_3
  have k_4 := g_4
  obtain ⟨w0, w1, w2, w3, w4, rfl⟩ : ∃ w0 w1 w2 w3 w4 : Value, args = #[w0, w1, w2, w3, w4] := by
    have hs : args.size = 5 := by simpa [Cond.value, given_1] using g_c
    obtain ⟨L⟩ := args
    match L, hs with
    | [w0, w1, w2, w3, w4], _ => exact ⟨w0, w1, w2, w3, w4, rfl⟩
  have hw := fun d (hd : d ∈ tables_1) => atoms_spec (ws := Jvm.Cond.code x code maxLocals ret :: tables_1) hat d (List.mem_cons_of_mem _ hd)
  have hfit : Fit s := fun {y c} hc i hi => by
    obtain ⟨ha, rfl⟩ := Array.getElem?_eq_some_iff.mp hc
    have q := List.all_eq_true.mp ((Array.all_eq_true_iff_forall_mem.mp hF) _ (Array.getElem_mem ha)) i (List.mem_range.mpr hi)
    simpa [Array.getElem?_eq_getElem hi] using q
  obtain ⟨p0, q_0⟩ := is_v k_0
  obtain rfl : w0 = (.int p0) := Option.some.inj q_0
  obtain ⟨p1, q_1⟩ := is_v k_1
  obtain rfl : w1 = (.int p1) := Option.some.inj q_1
  obtain ⟨p2, q_2⟩ := is_v k_2
  obtain rfl : w2 = (.int p2) := Option.some.inj q_2
  obtain ⟨p3, q_3⟩ := is_v k_3
  obtain rfl : w3 = (.int p3) := Option.some.inj q_3
  obtain ⟨p4, q_4⟩ := is_v k_4
  obtain rfl : w4 = (.int p4) := Option.some.inj q_4
  obtain ⟨n, o, h1, h2, h3, _, L, rfl, ⟨rfl, N⟩, hq⟩ := law l s _ hw p0 p1 p2 p3 p4 s.heap s.heap.size (Nat.le_refl _)  tables_1 p e ha hc hk s m _ below hf ((Spec.applies_iff_loose hf).mp happ).1 ⟨rfl, State.Warmed39.refl s, rfl⟩ trivial
  refine ⟨n, _, h1, h2, h3, hpost _ _ _ _ _ _ ⟨Cond.after_iff.mpr rfl, Cond.after_iff.mpr (eq_i res_at (Term.int_eval (1)) rfl), trivial⟩ ⟨hq.1, hq.2.1, (hq.2.2.sift fun y hy => Or.inr (N y hy)).mono (by decide) (by decide)⟩⟩
theorem main_1_1 : Claimed_1_1 := comes_1 fun _ _ _ _ _ _ h hF => ⟨h.1, hF⟩
theorem main_1_2 : Claimed_1_2 := comes_1 fun _ _ _ _ _ _ h hF => ⟨h.2.1, hF⟩
end Jvm.Pilot.@@N@@
namespace Jvm.Pilot.@@N@@
open Jvm Jvm.ClassFile Sem Op Lib Jvm.Free Jvm.Stand Jvm.Pilot.@@N@@.Jvm.D
/-! MADE BY PROGRAM (witnessworld.py) out of the Statement's table words and the real class files: 12 classes; the members and pool entries that the words name. The judged class is class 1, her method 1. -/
namespace start1
open Jvm.ClassFile
def u (s : String) : CpInfo := .utf8 (stringToUtf16 s)
/-- a pool by its gaps: so many unusable entries, then the entry; so many at the end -/
def gap : Nat → List CpInfo → List CpInfo
  | 0, r => r
  | n + 1, r => .unusable :: gap n r
def poolList (es : List (Nat × CpInfo)) (last : Nat) : List CpInfo := es.foldr (fun e r => gap e.1 (e.2 :: r)) (gap last [])
def pool (es : List (Nat × CpInfo)) (last : Nat) : Array CpInfo := ⟨poolList es last⟩
def fileOf (pool : Array CpInfo) (this : Nat) (attrs : Array Attribute := #[]) (ms : Array MethodInfo := #[]) (fl : Nat := 33) (sup : Nat := 0) (ifs : Array Nat := #[]) (fds : Array FieldInfo := #[]) : ClassFile where
  minorVersion := 0
  majorVersion := 65
  constantPool := pool
  accessFlags := fl
  thisClass := this
  superClass := sup
  interfaces := ifs
  fields := fds
  methods := ms
  attributes := attrs
def plain (name : String) (sup : Option ClassId) : Class where
  name := name
  kind := .ordinary
  loader := none
  accessFlags := 33
  super := sup
  interfaces := #[]
  cf := none
  fields := #[]
  methods := #[]
  instanceTypes := #[]
  staticTypes := #[]
  resolved := #[]
  callSites := []
  init := .initialized
  statics := none
  mirror := none

def pool0 : Array CpInfo := pool [(5, u "<init>"), (0, u "()V"), (1, .class_ 10), (1, u "java/lang/Object"), (85, u "clone"), (0, u "()Ljava/lang/Object;")] 26

def k0m0 : Method := { name := "<init>", desc := "()V", sig := { parameters := [], returnType := none }, accessFlags := 1, code := none }
def k0m1 : Method := { name := "clone", desc := "()Ljava/lang/Object;", sig := { parameters := [], returnType := some (.object "java/lang/Object") }, accessFlags := 260, code := none }
/-- java/lang/Object -/
def k0 : Class := { plain "java/lang/Object" none with
  accessFlags := 33
  interfaces := #[]
  cf := some (fileOf pool0 8 #[] #[{ accessFlags := 1, nameIndex := 5, descriptorIndex := 6, attributes := #[] }, { accessFlags := 260, nameIndex := 96, descriptorIndex := 97, attributes := #[] }] 33 0 #[] #[])
  fields := #[]
  methods := #[k0m0, k0m1]
  instanceTypes := #[]
  staticTypes := #[]
  resolved := Array.replicate 124 none
  statics := none }

def pool1 : Array CpInfo := pool [(2, .class_ 4), (1, u "java/lang/Object"), (0, u "<init>"), (0, u "()V"), (0, .methodref 8 9), (0, .class_ 10), (0, .nameAndType 11 12), (0, u "com/example/sitewise/sitewise/UncapacitatedInstance"), (0, u "atMost"), (0, u "([DD)[D"), (0, .methodref 14 15), (0, .class_ 16), (0, .nameAndType 17 18), (0, u "com/example/sitewise/sitewise/UncapacitatedInstanceAtMostPinLaw"), (0, u "slot"), (0, u "([D[DIIDD)Z"), (2, u "law"), (0, u "(IIIII)Z")] 5

def k1m0 : Method := { name := "<init>", desc := "()V", sig := { parameters := [], returnType := none }, accessFlags := 1, code := none }
def k1c1 : Code := { maxStack := 8, maxLocals := 17, code := code, exceptionTable := #[], attributes := #[] }
def k1m1 : Method := { name := "law", desc := "(IIIII)Z", sig := { parameters := [.int, .int, .int, .int, .int], returnType := some .boolean }, accessFlags := 9, code := some k1c1 }
def k1c2 : Code := { maxStack := 4, maxLocals := 10, code := method_3_code, exceptionTable := #[], attributes := #[] }
def k1m2 : Method := { name := "slot", desc := "([D[DIIDD)Z", sig := { parameters := [(.array .double), (.array .double), .int, .int, .double, .double], returnType := some .boolean }, accessFlags := 10, code := some k1c2 }
/-- com/example/sitewise/sitewise/UncapacitatedInstanceAtMostPinLaw -/
def k1 : Class := { plain "com/example/sitewise/sitewise/UncapacitatedInstanceAtMostPinLaw" (some 0) with
  accessFlags := 49
  interfaces := #[]
  cf := some (fileOf pool1 14 #[] #[{ accessFlags := 1, nameIndex := 5, descriptorIndex := 6, attributes := #[] }, { accessFlags := 9, nameIndex := 21, descriptorIndex := 22, attributes := #[] }, { accessFlags := 10, nameIndex := 17, descriptorIndex := 18, attributes := #[] }] 49 2 #[] #[])
  fields := #[]
  methods := #[k1m0, k1m1, k1m2]
  instanceTypes := #[]
  staticTypes := #[]
  resolved := Array.replicate 28 none
  statics := none }

def pool2 : Array CpInfo := pool [(1, .class_ 2), (0, u "com/example/sitewise/sitewise/Instance"), (0, .class_ 4), (0, u "java/lang/Object")] 11

/-- com/example/sitewise/sitewise/Instance -/
def k2 : Class := { plain "com/example/sitewise/sitewise/Instance" (some 0) with
  accessFlags := 1536
  interfaces := #[]
  cf := some (fileOf pool2 1 #[] #[] 1536 3 #[] #[])
  fields := #[]
  methods := #[]
  instanceTypes := #[]
  staticTypes := #[]
  resolved := Array.replicate 16 none
  statics := none }

def pool3 : Array CpInfo := pool [(2, .class_ 4), (1, u "com/example/sitewise/sitewise/UncapacitatedInstance"), (3, .class_ 10), (1, u "java/lang/Object"), (3, u "openingCosts"), (0, u "[D"), (2, u "serviceCosts"), (0, u "[[D"), (2, u "distances"), (0, u "Z"), (2, u "sitesByCost"), (0, u "[[I"), (34, u "costsAtSites"), (32, .class_ 15), (2, u "atMost"), (0, u "([DD)[D"), (3, .methodref 95 104), (0, .nameAndType 105 106), (0, u "clone"), (0, u "()Ljava/lang/Object;"), (86, .class_ 194), (0, u "com/example/sitewise/sitewise/Instance"), (0, u "MODEL"), (0, u "Ljava/lang/String;")] 93

def k3c0 : Code := { maxStack := 4, maxLocals := 5, code := prog_38_method_14_code, exceptionTable := #[], attributes := #[] }
def k3m0 : Method := { name := "atMost", desc := "([DD)[D", sig := { parameters := [(.array .double), .double], returnType := some (.array .double) }, accessFlags := 8, code := some k3c0 }
/-- com/example/sitewise/sitewise/UncapacitatedInstance -/
def k3 : Class := { plain "com/example/sitewise/sitewise/UncapacitatedInstance" (some 0) with
  accessFlags := 49
  interfaces := #[2]
  cf := some (fileOf pool3 2 #[] #[{ accessFlags := 8, nameIndex := 98, descriptorIndex := 99, attributes := #[] }] 49 8 #[193] #[{ accessFlags := 25, nameIndex := 195, descriptorIndex := 196, attributes := #[] }, { accessFlags := 18, nameIndex := 14, descriptorIndex := 15, attributes := #[] }, { accessFlags := 18, nameIndex := 18, descriptorIndex := 19, attributes := #[] }, { accessFlags := 18, nameIndex := 22, descriptorIndex := 23, attributes := #[] }, { accessFlags := 2, nameIndex := 26, descriptorIndex := 27, attributes := #[] }, { accessFlags := 2, nameIndex := 62, descriptorIndex := 19, attributes := #[] }])
  fields := #[{ name := "MODEL", type := (.object "java/lang/String"), accessFlags := 25, slot := 0, constantValue := 0 }, { name := "openingCosts", type := (.array .double), accessFlags := 18, slot := 0, constantValue := 0 }, { name := "serviceCosts", type := (.array (.array .double)), accessFlags := 18, slot := 1, constantValue := 0 }, { name := "distances", type := .boolean, accessFlags := 18, slot := 2, constantValue := 0 }, { name := "sitesByCost", type := (.array (.array .int)), accessFlags := 2, slot := 3, constantValue := 0 }, { name := "costsAtSites", type := (.array (.array .double)), accessFlags := 2, slot := 4, constantValue := 0 }]
  methods := #[k3m0]
  instanceTypes := #[(.array .double), (.array (.array .double)), .boolean, (.array (.array .int)), (.array (.array .double))]
  staticTypes := #[(.object "java/lang/String")]
  resolved := Array.replicate 290 none
  statics := none }

def pool4 : Array CpInfo := pool [(1, .class_ 2), (0, u "java/lang/Cloneable"), (0, .class_ 4), (0, u "java/lang/Object")] 2

/-- java/lang/Cloneable -/
def k4 : Class := { plain "java/lang/Cloneable" (some 0) with
  accessFlags := 1537
  interfaces := #[]
  cf := some (fileOf pool4 1 #[] #[] 1537 3 #[] #[])
  fields := #[]
  methods := #[]
  instanceTypes := #[]
  staticTypes := #[]
  resolved := Array.replicate 7 none
  statics := none }

def pool5 : Array CpInfo := pool [(1, u "java/io/Serializable"), (0, .class_ 1), (0, u "java/lang/Object"), (0, .class_ 3)] 3

/-- java/io/Serializable -/
def k5 : Class := { plain "java/io/Serializable" (some 0) with
  accessFlags := 1537
  interfaces := #[]
  cf := some (fileOf pool5 2 #[] #[] 1537 4 #[] #[])
  fields := #[]
  methods := #[]
  instanceTypes := #[]
  staticTypes := #[]
  resolved := Array.replicate 8 none
  statics := none }

/-- the primitive byte -/
def k6 : Class := { plain "byte" none with kind := .primitive 'B', accessFlags := 0x411 }
/-- [B -/
def k7 : Class := { plain "[B" (some 0) with kind := .array 6 .byte, interfaces := #[4, 5], accessFlags := 1041 }

/-- the primitive double -/
def k8 : Class := { plain "double" none with kind := .primitive 'D', accessFlags := 0x411 }
/-- [D -/
def k9 : Class := { plain "[D" (some 0) with kind := .array 8 .double, interfaces := #[4, 5], accessFlags := 1041 }

/-- the primitive int -/
def k10 : Class := { plain "int" none with kind := .primitive 'I', accessFlags := 0x411 }
/-- [I -/
def k11 : Class := { plain "[I" (some 0) with kind := .array 10 .int, interfaces := #[4, 5], accessFlags := 1041 }

def heap : Heap := #[]
def classes : Array Class := #[k0, k1, k2, k3, k4, k5, k6, k7, k8, k9, k10, k11]
def interned : List (Array UInt16 × Addr) := []
def slotsUsed : Nat := 0
def theMethod : MethodId := ⟨1, 1⟩
def args0 : Array Value := #[.int 3, .int 7, .int 2, .int 4, .int 5]
def aboutOver (below : List Frame) : State where
  vm := { classes := classes, interned := interned.toArray }
  heap := heap
  slotsUsed := slotsUsed
  threads := #[{ frames := .invoking theMethod args0 :: below }]
def below0 : List Frame := [.native { method := ⟨0, 0⟩, args := #[] }]
def about1 : State := aboutOver below0
def p0 : Program := .bare "" "" ""
def e0 : Env := launch0.env 0 0 0
theorem w_frames : about1.frames = Frame.invoking theMethod args0 :: below0 := rfl
set_option maxRecDepth 65536 in
theorem w_args : argsFit about1.vm theMethod args0 = true := by decide +kernel
set_option maxRecDepth 65536 in
theorem w_heap : heapFits about1 = true := by decide +kernel
set_option maxRecDepth 65536 in
theorem w_runnable : about1.curStatus? = some .runnable := by decide +kernel
set_option maxRecDepth 65536 in
theorem w_alone : about1.alone = true := by decide +kernel
set_option maxRecDepth 65536 in
theorem w_named : about1.methodNamed? x = some theMethod := by decide +kernel
set_option maxRecDepth 65536 in
theorem w_hears : about1.hears theMethod below0 = true := by decide +kernel
set_option maxRecDepth 65536 in
theorem w_ripe : about1.ripe theMethod args0 below0 = true := by decide +kernel
theorem w_running : about1.status = .running := rfl
set_option maxRecDepth 65536 in
theorem w_room : about1.hasRoom e0.platform room_1 = true :=
  launch0.hasRoom_least _ room_1 (by decide +kernel) (by decide +kernel) (by decide +kernel) (by decide +kernel) (by decide +kernel) (by decide +kernel)
theorem allAtoms_all (ts : List Jvm.Cond) (a : Array Jvm.Value) (st : Jvm.State) : (allAtoms ts).before a st = ts.all (fun c => c.before a st) := by
  induction ts with
  | nil => rfl
  | cons c t ih =>
    show (Jvm.Cond.and c (allAtoms t)).before a st = _
    rw [Jvm.Cond.before_and, ih, List.all_cons]
def words1 : List Jvm.Cond := Jvm.Cond.code x code maxLocals ret :: tables_1
/-- a 'code' word, met by the world's own term for the bytes: nothing is compared byte by byte -/
theorem code_word {y : MethodName} {bytes : ByteArray} {mx : Nat} {rt : Option FieldType} {a : Array Value} {s : State} {m : MethodId} {meth : Method} {c : Code} (h1 : s.methodNamed? y = some m) (h2 : s.vm.method? m = some meth) (h3 : meth.code = some c) (h4 : c.code = bytes)
    (h5 : (c.maxLocals == mx && c.exceptionTable.isEmpty && decide (c.maxStack ≤ mostOperands) && decide (meth.sig.returnType = rt) && !meth.locks && decide (parseMethodDescriptor y.desc = some meth.sig)) = true) : (Jvm.Cond.code y bytes mx rt).before a s = true := by
  simp only [Bool.and_eq_true, beq_iff_eq, Bool.not_eq_true', decide_eq_true_eq] at h5
  obtain ⟨⟨⟨⟨⟨g1, g2⟩, g3⟩, g4⟩, g5⟩, g6⟩ := h5
  simp [Cond.before, Cond.holds, Cond.value, h1, h2, h3, h4, g1, g2, g3, g4, g5, g6]
def isCode : Jvm.Cond → Bool
  | .code _ _ _ _ => true
  | _ => false
theorem all_split {L : List Jvm.Cond} {P : Jvm.Cond → Bool} (h1 : L.all (fun c => isCode c || P c) = true) (h2 : ∀ c ∈ L.filter isCode, P c = true) : L.all P = true := by
  refine List.all_eq_true.mpr fun c hc => ?_
  have h := List.all_eq_true.mp h1 c hc
  rcases Bool.eq_false_or_eq_true (isCode c) with hi | hi
  · exact h2 c (List.mem_filter.mpr ⟨hc, hi⟩)
  · simpa [hi] using h
set_option maxRecDepth 65536 in
theorem w_c0 : (Jvm.Cond.code x code maxLocals ret).before args0 about1 = true := code_word (m := ⟨1, 1⟩) (meth := k1m1) (c := k1c1) (by decide +kernel) rfl rfl rfl (by decide +kernel)
set_option maxRecDepth 65536 in
theorem w_c1 : (Jvm.Cond.code ({ cls := "com/example/sitewise/sitewise/UncapacitatedInstance", name := "atMost", desc := "([DD)[D" } : Jvm.MethodName) prog_38_method_14_code (5 : Nat) (Option.some (Jvm.ClassFile.FieldType.array Jvm.ClassFile.FieldType.double))).before args0 about1 = true := code_word (m := ⟨3, 0⟩) (meth := k3m0) (c := k3c0) (by decide +kernel) rfl rfl rfl (by decide +kernel)
set_option maxRecDepth 65536 in
theorem w_c2 : (Jvm.Cond.code ({ cls := "com/example/sitewise/sitewise/UncapacitatedInstanceAtMostPinLaw", name := "slot", desc := "([D[DIIDD)Z" } : Jvm.MethodName) method_3_code (10 : Nat) (Option.some Jvm.ClassFile.FieldType.boolean)).before args0 about1 = true := code_word (m := ⟨1, 2⟩) (meth := k1m2) (c := k1c2) (by decide +kernel) rfl rfl rfl (by decide +kernel)
def codes1 : List Jvm.Cond := [Jvm.Cond.code x code maxLocals ret, Jvm.Cond.code ({ cls := "com/example/sitewise/sitewise/UncapacitatedInstance", name := "atMost", desc := "([DD)[D" } : Jvm.MethodName) prog_38_method_14_code (5 : Nat) (Option.some (Jvm.ClassFile.FieldType.array Jvm.ClassFile.FieldType.double)), Jvm.Cond.code ({ cls := "com/example/sitewise/sitewise/UncapacitatedInstanceAtMostPinLaw", name := "slot", desc := "([D[DIIDD)Z" } : Jvm.MethodName) method_3_code (10 : Nat) (Option.some Jvm.ClassFile.FieldType.boolean)]
set_option maxRecDepth 65536 in
theorem codes_eq : words1.filter isCode = codes1 := rfl
theorem w_codes : ∀ c ∈ words1.filter isCode, c.before args0 about1 = true := by
  rw [codes_eq]
  intro c hc
  simp only [codes1, List.mem_cons, List.not_mem_nil, or_false] at hc
  rcases hc with rfl | rfl | rfl
  · exact w_c0
  · exact w_c1
  · exact w_c2
set_option maxRecDepth 65536 in
theorem w_t1 : words1.all (fun c => isCode c || c.before args0 about1) = true := by decide +kernel
theorem w_tables : (allAtoms (Jvm.Cond.code x code maxLocals ret :: tables_1)).before args0 about1 = true := by
  rw [allAtoms_all]
  show words1.all (fun c => c.before args0 about1) = true
  refine all_split ?_ w_codes
  rw [w_t1]
set_option maxRecDepth 65536 in
theorem w_case : (Jvm.Cond.and given_1 narrow_1).before args0 about1 = true := by decide +kernel
theorem w_applies : (headSpec (Jvm.Cond.code x code maxLocals ret :: tables_1) room_1).applies x e0.platform about1 = true :=
  (Spec.applies_iff w_frames).mpr ⟨w_running, w_runnable, w_alone, w_named, w_hears, w_ripe, w_room, w_tables⟩
theorem atStart : AtStart classFile x code maxLocals ret World_1 tables_1 room_1 Calls_1 rest_1 Pre_1 launch0 p0 e0 about1 theMethod args0 below0 :=
  ⟨lists_1, trivial, launch0.admits_env _ _ _, launch0.least_env, fairChoices_fair.cas, fairChoices_fair.clock, w_frames, w_args, w_heap, w_applies, trivial, trivial, w_case⟩
end start1
theorem witness_1 : WitnessClaimed_1 := ⟨start1.p0, start1.e0, start1.about1, start1.theMethod, start1.args0, start1.below0, start1.atStart⟩
end Jvm.Pilot.@@N@@
